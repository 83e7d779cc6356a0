import PyProof.Rows.All
import Wide.All
import OpenK.AllK
import Wide.FinOn
import PySem.Challenge.RW_gm0002_02
open PySem PySem.W PyProof.Rows PySem.Calls
set_option Elab.async false
set_option linter.unusedVariables false
section

open PySem PySem.W PyProof.Rows PySem.Calls
namespace Mine

abbrev NE : Value → Shared → Prop := fun _ _ => False

/-- sequences and dicts are data; the rest (cells, iterators) may turn -/
def Firm (o : Obj) : Prop := match o.data with
  | .seq .. => True
  | .dict .. => True
  | _ => False

/-- all data outside D stands -/
def Le (D : Addr → Prop) (h h' : Heap) : Prop := ∀ b o, ¬ D b → Firm o → h.get? b = some o → h'.get? b = some o

theorem keeps_refl (s : Shared) : Keeps s s := ⟨s.heap, s.toks, rfl, fun _ _ e => e⟩
theorem keeps_trans {s₁ s₂ s₃ : Shared} (a : Keeps s₁ s₂) (b : Keeps s₂ s₃) : Keeps s₁ s₃ := by
  obtain ⟨h, t, rfl, ha⟩ := a
  obtain ⟨h', t', rfl, hb⟩ := b
  exact ⟨h', t', rfl, fun c o e => hb c o (ha c o e)⟩
theorem keeps_get {s s' : Shared} (a : Keeps s s') {b : Addr} {o : Obj} (e : s.heap.get? b = some o) : s'.heap.get? b = some o := by
  obtain ⟨h, t, rfl, ha⟩ := a; exact ha b o e
theorem keeps_le {s s' : Shared} (a : Keeps s s') (D : Addr → Prop) : Le D s.heap s'.heap := fun _ _ _ _ e => keeps_get a e
theorem keeps_toks (s : Shared) (t : Nat) : Keeps s { s with toks := t } := ⟨s.heap, t, rfl, fun _ _ e => e⟩
theorem keeps_push (s : Shared) (o : Obj) : Keeps s { s with heap := s.heap.push o } := ⟨_, s.toks, rfl, fun _ _ e => Heap.get?_push_of_some _ e⟩
theorem keeps_push_toks (s : Shared) (o : Obj) (t : Nat) : Keeps s { s with heap := s.heap.push o, toks := t } := ⟨_, t, rfl, fun _ _ e => Heap.get?_push_of_some _ e⟩

def Live (D : Addr → Prop) (h : Heap) : Prop := ∀ a, D a → ∃ o, h.get? a = some o
theorem live_keeps {D : Addr → Prop} {s s' : Shared} (l : Live D s.heap) (k : Keeps s s') : Live D s'.heap := fun a d => let ⟨o, e⟩ := l a d; ⟨o, keeps_get k e⟩
theorem live_fresh {D : Addr → Prop} {h : Heap} (l : Live D h) : ¬ D h.objs.size := fun d => let ⟨_, e⟩ := l _ d; Nat.lt_irrefl _ (Heap.lt_size e)
theorem live_none {D : Addr → Prop} {h : Heap} {a : Addr} (l : Live D h) (e : h.get? a = none) : ¬ D a := fun d => by
  obtain ⟨o, e'⟩ := l _ d; rw [e] at e'; cases e'

/-- a relation of values and data, over a heap, that stands while what lies outside D stands -/
structure Ty (α : Type) where
  is : (Addr → Prop) → Heap → Value → α → Prop
  mono : ∀ {D : Addr → Prop} {h h' : Heap} {v : Value} {x : α}, Le D h h' → is D h v x → is D h' v x
  wide : ∀ {D D' : Addr → Prop} {h : Heap} {v : Value} {x : α}, (∀ a o, h.get? a = some o → D' a → D a) → is D h v x → is D' h v x

def tInt : Ty Int := ⟨fun _ _ v x => ∃ t, v = .int x t, fun _ x => x, fun _ x => x⟩
def tBool : Ty Bool := ⟨fun _ _ v x => v = .bool x, fun _ x => x, fun _ x => x⟩
def tVal : Ty Value := ⟨fun _ _ v x => v = x, fun _ x => x, fun _ x => x⟩
def tStr : Ty Str := ⟨fun _ _ v x => ∃ t, v = .str x t, fun _ x => x, fun _ x => x⟩

abbrev tupObj (items : Array Value) (n : Nat) : Obj := { cls := .type "tuple", data := .seq items n }
abbrev lstObj (items : Array Value) (n : Nat) : Obj := { cls := .type "list", data := .seq items n }
theorem firm_tup (i : Array Value) (n : Nat) : Firm (tupObj i n) := trivial
theorem firm_lst (i : Array Value) (n : Nat) : Firm (lstObj i n) := trivial

def tPair {α β : Type} (T : Ty α) (U : Ty β) : Ty (α × β) where
  is D h v x := ∃ p n u w, v = .ref p ∧ ¬ D p ∧ h.get? p = some (tupObj #[u, w] n) ∧ T.is D h u x.1 ∧ U.is D h w x.2
  mono := fun k ⟨p, n, u, w, e, d, g, a, b⟩ => ⟨p, n, u, w, e, d, k _ _ d (firm_tup _ _) g, T.mono k a, U.mono k b⟩
  wide := fun k ⟨p, n, u, w, e, d, g, a, b⟩ => ⟨p, n, u, w, e, fun q => d (k _ _ g q), g, T.wide k a, U.wide k b⟩

theorem paired_mono {α β : Type} {F G : α → β → Prop} (hm : ∀ a b, F a b → G a b) {l₁ : List α} {l₂ : List β} (h : Paired F l₁ l₂) : Paired G l₁ l₂ := Paired.mono hm h
theorem paired_append {α β : Type} {F : α → β → Prop} {a c : List α} {b d : List β} (h : Paired F a b) (k : Paired F c d) : Paired F (a ++ c) (b ++ d) := by
  induction h with
  | nil => exact k
  | cons h _ ih => exact .cons h ih
theorem paired_get {α β : Type} {F : α → β → Prop} {l₁ : List α} {l₂ : List β} (h : Paired F l₁ l₂) : ∀ (i : Nat) (y : β), l₂[i]? = some y → ∃ x, l₁[i]? = some x ∧ F x y := by
  induction h with
  | nil => intro i y e; simp at e
  | cons h _ ih =>
    intro i y e
    cases i with
    | zero => simp at e; subst e; exact ⟨_, rfl, h⟩
    | succ i => simpa using ih i y (by simpa using e)
theorem paired_drop {α β : Type} {F : α → β → Prop} {l₁ : List α} {l₂ : List β} (h : Paired F l₁ l₂) : ∀ n, Paired F (l₁.drop n) (l₂.drop n) := by
  induction h with
  | nil => intro n; simpa using Paired.nil
  | cons h t ih =>
    intro n
    cases n with
    | zero => exact .cons h t
    | succ n => simpa using ih n
theorem paired_take {α β : Type} {F : α → β → Prop} {l₁ : List α} {l₂ : List β} (h : Paired F l₁ l₂) : ∀ n, Paired F (l₁.take n) (l₂.take n) := by
  induction h with
  | nil => intro n; simpa using Paired.nil
  | cons h t ih =>
    intro n
    cases n with
    | zero => exact .nil
    | succ n => simpa using Paired.cons h (ih n)

def tList {α : Type} (T : Ty α) : Ty (List α) where
  is D h v xs := ∃ p n vs, v = .ref p ∧ ¬ D p ∧ h.get? p = some (lstObj (List.toArray vs) n) ∧ Paired (T.is D h) vs xs
  mono := fun k ⟨p, n, vs, e, d, g, a⟩ => ⟨p, n, vs, e, d, k _ _ d (firm_lst _ _) g, paired_mono (fun _ _ => T.mono k) a⟩
  wide := fun k ⟨p, n, vs, e, d, g, a⟩ => ⟨p, n, vs, e, fun q => d (k _ _ g q), g, paired_mono (fun _ _ => T.wide k) a⟩

section
variable {prog : Program} {w : World} {A : Around} {D : Addr → Prop} {s s₁ : Shared}

/-- t, run anywhere behind s, leaves what stood, and gives P -/
def Hs (prog : Program) (w : World) (A : Around) (D : Addr → Prop) (s : Shared) {β : Type} (t : Sem β) (P : Heap → β → Prop) : Prop :=
  ∀ s', Keeps s s' → Live D s'.heap → wpAny (model prog w) A t (fun v s'' => Keeps s' s'' ∧ P s''.heap v) NE s'
abbrev Has (prog : Program) (w : World) (A : Around) (D : Addr → Prop) (s : Shared) {α : Type} (t : Sem Value) (T : Ty α) (x : α) : Prop := Hs prog w A D s t fun h v => T.is D h v x

theorem Hs.up {β : Type} {t : Sem β} {P : Heap → β → Prop} (k : Keeps s s₁) (h : Hs prog w A D s t P) : Hs prog w A D s₁ t P := fun s' k' l => h s' (keeps_trans k k') l
theorem Hs.use {β : Type} {t : Sem β} {P : Heap → β → Prop} {Q : β → Shared → Prop} {E : Value → Shared → Prop} (h : Hs prog w A D s t P) (l : Live D s.heap)
    (k : ∀ v s', Keeps s s' → P s'.heap v → Q v s') : wpAny (model prog w) A t Q E s :=
  wpAny_mono (h s (keeps_refl s) l) (fun v s' x => k v s' x.1 x.2) fun _ _ x => x.elim
theorem Hs.weak {β : Type} {t : Sem β} {P P' : Heap → β → Prop} (h : Hs prog w A D s t P) (k : ∀ s' v, Keeps s s' → P s'.heap v → P' s'.heap v) : Hs prog w A D s t P' :=
  fun s' k' l => wpAny_mono (h s' k' l) (fun v s'' x => ⟨x.1, k _ v (keeps_trans k' x.1) x.2⟩) fun _ _ x => x
theorem Hs.pure {β : Type} {v : β} {P : Heap → β → Prop} (h : ∀ s', Keeps s s' → P s'.heap v) : Hs prog w A D s (Pure.pure v) P := fun s' k _ => wpAny_pure ⟨keeps_refl _, h s' k⟩
theorem Hs.bind {β γ : Type} {m : Sem β} {f : β → Sem γ} {P : Heap → β → Prop} {Q : Heap → γ → Prop} (hm : Hs prog w A D s m P)
    (hf : ∀ s₁ v, Keeps s s₁ → P s₁.heap v → Hs prog w A D s₁ (f v) Q) : Hs prog w A D s (m >>= f) Q := fun s' k l =>
  wpAny_bind (wpAny_mono (hm s' k l) (fun v s'' x => wpAny_mono (hf s'' v (keeps_trans k x.1) x.2 s'' (keeps_refl _) (live_keeps l x.1)) (fun _ _ y => ⟨keeps_trans x.1 y.1, y.2⟩) fun _ _ y => y) fun _ _ y => y)

/-- a step given by a rule of the base: from every s', every way on from a kept state -/
theorem Hs.of {β : Type} {t : Sem β} {P : Heap → β → Prop}
    (h : ∀ s' Q, Keeps s s' → Live D s'.heap → (∀ v s'', Keeps s' s'' → P s''.heap v → Q v s'') → wpAny (model prog w) A t Q NE s') : Hs prog w A D s t P :=
  fun s' k l => h s' _ k l fun _ _ k' p => ⟨k', p⟩

variable {env : Env}

theorem hs_binop {α β : Type} {T : Ty α} {U : Ty β} {x : α} {y : β} {l r : Expr} {op : Operator} {pos : Pos} {P : Heap → Value → Prop} (ha : Has prog w A D s (eval l env) T x) (hb : Has prog w A D s (eval r env) U y)
    (h : ∀ s₁ u v, Keeps s s₁ → T.is D s₁.heap u x → U.is D s₁.heap v y → Hs prog w A D s₁ (binaryOp op u v) P) : Hs prog w A D s (eval (.BinOp l op r pos) env) P :=
  fun s' k L => wpAny_BinOp (wpAny_mono (ha s' k L) (fun u s₁ a => wpAny_mono (hb s₁ (keeps_trans k a.1) (live_keeps L a.1)) (fun v s₂ b =>
    wpAny_mono (h s₂ u v (keeps_trans k (keeps_trans a.1 b.1)) (T.mono (keeps_le b.1 D) a.2) b.2 s₂ (keeps_refl _) (live_keeps L (keeps_trans a.1 b.1)))
      (fun _ _ c => ⟨keeps_trans (keeps_trans a.1 b.1) c.1, c.2⟩) fun _ _ e => e) fun _ _ e => e) fun _ _ e => e)

theorem hs_cmp {α β : Type} {T : Ty α} {U : Ty β} {x : α} {y : β} {l r : Expr} {op : CmpOp} {pos : Pos} {P : Heap → Value → Prop} (ha : Has prog w A D s (eval l env) T x) (hb : Has prog w A D s (eval r env) U y)
    (h : ∀ s₁ u v, Keeps s s₁ → T.is D s₁.heap u x → U.is D s₁.heap v y → Hs prog w A D s₁ (compareOp op u v) P) (hm : behindInMarks op r = false := by with_unfolding_all rfl) : Hs prog w A D s (eval (.Compare l [op] [r] pos) env) P :=
  fun s' k L => wpAny_Compare1 (wpAny_mono (ha s' k L) (fun u s₁ a => wpAny_mono (hb s₁ (keeps_trans k a.1) (live_keeps L a.1)) (fun v s₂ b =>
    wpAny_mono (h s₂ u v (keeps_trans k (keeps_trans a.1 b.1)) (T.mono (keeps_le b.1 D) a.2) b.2 s₂ (keeps_refl _) (live_keeps L (keeps_trans a.1 b.1)))
      (fun _ _ c => ⟨keeps_trans (keeps_trans a.1 b.1) c.1, c.2⟩) fun _ _ e => e) fun _ _ e => e) fun _ _ e => e) hm

/-- a test: the bool of a comparison -/
abbrev Tst (prog : Program) (w : World) (A : Around) (D : Addr → Prop) (s : Shared) (e : Expr) (env : Env) (b : Bool) : Prop := Hs prog w A D s (isTrue e env (eval e env)) fun _ r => r = b

theorem tst_cmp {α β : Type} {T : Ty α} {U : Ty β} {x : α} {y : β} {l r : Expr} {op : CmpOp} {pos : Pos} {b : Bool} (ha : Has prog w A D s (eval l env) T x) (hb : Has prog w A D s (eval r env) U y)
    (h : ∀ s₁ u v, Keeps s s₁ → T.is D s₁.heap u x → U.is D s₁.heap v y → Has prog w A D s₁ (compareOp op u v) tBool b) (hm : behindInMarks op r = false := by with_unfolding_all rfl) : Tst prog w A D s (.Compare l [op] [r] pos) env b :=
  fun s' k L => wpAny_isTrue_Compare1 (wpAny_mono (ha s' k L) (fun u s₁ a => wpAny_mono (hb s₁ (keeps_trans k a.1) (live_keeps L a.1)) (fun v s₂ b =>
    wpAny_mono (h s₂ u v (keeps_trans k (keeps_trans a.1 b.1)) (T.mono (keeps_le b.1 D) a.2) b.2 s₂ (keeps_refl _) (live_keeps L (keeps_trans a.1 b.1)))
      (fun c s₃ z => by
        obtain ⟨z1, z2⟩ := z
        cases z2
        exact wpAny_truthy_bool ⟨keeps_trans (keeps_trans a.1 b.1) z1, rfl⟩) fun _ _ e => e) fun _ _ e => e) fun _ _ e => e) hm

theorem tst_not {x : Expr} {pos : Pos} {b : Bool} (h : Tst prog w A D s x env b) : Tst prog w A D s (.UnaryOp .Not x pos) env (!b) := fun s' k l => by
  show wpAny _ A (do return !(← isTrue x env (eval x env))) _ _ s'
  exact wpAny_bind (wpAny_mono (h s' k l) (fun r s'' y => wpAny_pure ⟨y.1, by rw [y.2]⟩) fun _ _ e => e)

theorem tst_and2 {x y : Expr} {pos : Pos} {a b : Bool} (hx : Tst prog w A D s x env a) (hy : a = true → Tst prog w A D s y env b) : Tst prog w A D s (.BoolOp .And [x, y] pos) env (a && b) := fun s' k l => by
  show wpAny _ A (do
    match BoolOp.And, ← isTrue x env (eval x env) with
    | .And, false => pure false
    | .Or, true => pure true
    | _, _ => (do
      match BoolOp.And, ← isTrue y env (eval y env) with
      | .And, false => pure false
      | .Or, true => pure true
      | _, _ => allTrue .And [] env)) _ _ s'
  refine wpAny_bind (wpAny_mono (hx s' k l) (fun r s₁ z => ?_) fun _ _ e => e)
  obtain ⟨z1, rfl⟩ := z
  cases r with
  | false => exact wpAny_pure ⟨z1, rfl⟩
  | true =>
    refine wpAny_bind (wpAny_mono (hy rfl s₁ (keeps_trans k z1) (live_keeps l z1)) (fun r s₂ y => ?_) fun _ _ e => e)
    obtain ⟨y1, rfl⟩ := y
    cases r with
    | false => exact wpAny_pure ⟨keeps_trans z1 y1, rfl⟩
    | true => exact wpAny_pure ⟨keeps_trans z1 y1, rfl⟩

theorem tst_or2 {x y : Expr} {pos : Pos} {a b : Bool} (hx : Tst prog w A D s x env a) (hy : a = false → Tst prog w A D s y env b) : Tst prog w A D s (.BoolOp .Or [x, y] pos) env (a || b) := fun s' k l => by
  show wpAny _ A (do
    match BoolOp.Or, ← isTrue x env (eval x env) with
    | .And, false => pure false
    | .Or, true => pure true
    | _, _ => (do
      match BoolOp.Or, ← isTrue y env (eval y env) with
      | .And, false => pure false
      | .Or, true => pure true
      | _, _ => allTrue .Or [] env)) _ _ s'
  refine wpAny_bind (wpAny_mono (hx s' k l) (fun r s₁ z => ?_) fun _ _ e => e)
  obtain ⟨z1, rfl⟩ := z
  cases r with
  | true => exact wpAny_pure ⟨z1, rfl⟩
  | false =>
    refine wpAny_bind (wpAny_mono (hy rfl s₁ (keeps_trans k z1) (live_keeps l z1)) (fun r s₂ y => ?_) fun _ _ e => e)
    obtain ⟨y1, rfl⟩ := y
    cases r with
    | true => exact wpAny_pure ⟨keeps_trans z1 y1, rfl⟩
    | false => exact wpAny_pure ⟨keeps_trans z1 y1, rfl⟩

theorem has_ifexp {α : Type} {T : Ty α} {y : α} {t a b : Expr} {pos : Pos} {c : Bool} (ht : Tst prog w A D s t env c) (ha : c = true → Has prog w A D s (eval a env) T y) (hb : c = false → Has prog w A D s (eval b env) T y) :
    Has prog w A D s (eval (.IfExp t a b pos) env) T y := fun s' k l => by
  show wpAny _ A (do if ← isTrue t env (eval t env) then eval a env else eval b env) _ _ s'
  refine wpAny_bind (wpAny_mono (ht s' k l) (fun r s₁ z => ?_) fun _ _ e => e)
  obtain ⟨z1, rfl⟩ := z
  cases r with
  | true => exact wpAny_mono (ha rfl s₁ (keeps_trans k z1) (live_keeps l z1)) (fun _ _ y => ⟨keeps_trans z1 y.1, y.2⟩) fun _ _ e => e
  | false => exact wpAny_mono (hb rfl s₁ (keeps_trans k z1) (live_keeps l z1)) (fun _ _ y => ⟨keeps_trans z1 y.1, y.2⟩) fun _ _ e => e

theorem has_int (i : Int) (k : Nat) (pos : Pos) : Has prog w A D s (eval (.Constant (.int i) k pos) env) tInt i := Hs.of fun s' Q _ _ h => wpAny_Constant_int (h _ _ (keeps_toks _ _) ⟨_, rfl⟩)
theorem has_bool (b : Bool) (k : Nat) (pos : Pos) : Has prog w A D s (eval (.Constant (.bool b) k pos) env) tBool b := Hs.of fun s' Q _ _ h => wpAny_pure (h _ _ (keeps_refl _) rfl)
theorem has_str (x : Str) (k : Nat) (pos : Pos) : Has prog w A D s (eval (.Constant (.str x) k pos) env) tStr x := Hs.of fun s' Q _ _ h => by
  show wpAny _ A (mkText x) Q NE s'
  exact fun _ _ _ => h _ _ (keeps_toks _ _) ⟨_, rfl⟩

-- ints
theorem has_add {l r : Expr} {pos : Pos} {x y : Int} (ha : Has prog w A D s (eval l env) tInt x) (hb : Has prog w A D s (eval r env) tInt y) : Has prog w A D s (eval (.BinOp l .Add r pos) env) tInt (x + y) :=
  hs_binop ha hb fun s₁ u v _ hu hv => by obtain ⟨_, rfl⟩ := hu; obtain ⟨_, rfl⟩ := hv; exact Hs.of fun s' Q _ _ h => wpAny_add_int (h _ _ (keeps_toks _ _) ⟨_, rfl⟩)
theorem has_sub {l r : Expr} {pos : Pos} {x y : Int} (ha : Has prog w A D s (eval l env) tInt x) (hb : Has prog w A D s (eval r env) tInt y) : Has prog w A D s (eval (.BinOp l .Sub r pos) env) tInt (x - y) :=
  hs_binop ha hb fun s₁ u v _ hu hv => by obtain ⟨_, rfl⟩ := hu; obtain ⟨_, rfl⟩ := hv; exact Hs.of fun s' Q _ _ h => PySem.P.sub_int (h _ _ (keeps_toks _ _) ⟨_, rfl⟩)
theorem has_mul {l r : Expr} {pos : Pos} {x y : Int} (ha : Has prog w A D s (eval l env) tInt x) (hb : Has prog w A D s (eval r env) tInt y) (hm : IntMulOk x y) : Has prog w A D s (eval (.BinOp l .Mult r pos) env) tInt (x * y) :=
  hs_binop ha hb fun s₁ u v _ hu hv => by obtain ⟨_, rfl⟩ := hu; obtain ⟨_, rfl⟩ := hv; exact Hs.of fun s' Q _ _ h => PySem.P.mul_int (h _ _ (keeps_toks _ _) ⟨_, rfl⟩) hm
theorem has_mod {l r : Expr} {pos : Pos} {x y : Int} (ha : Has prog w A D s (eval l env) tInt x) (hb : Has prog w A D s (eval r env) tInt y) (hy : y ≠ 0) : Has prog w A D s (eval (.BinOp l .Mod r pos) env) tInt (x.fmod y) :=
  hs_binop ha hb fun s₁ u v _ hu hv => by obtain ⟨_, rfl⟩ := hu; obtain ⟨_, rfl⟩ := hv; exact Hs.of fun s' Q _ _ h => mod_int' hy (h _ _ (keeps_toks _ _) ⟨_, rfl⟩)
theorem has_fdiv {l r : Expr} {pos : Pos} {x y : Int} (ha : Has prog w A D s (eval l env) tInt x) (hb : Has prog w A D s (eval r env) tInt y) (hy : y ≠ 0) (hp : Builtin.divisionGoesByPylong x y = false) : Has prog w A D s (eval (.BinOp l .FloorDiv r pos) env) tInt (x.fdiv y) :=
  hs_binop ha hb fun s₁ u v _ hu hv => by obtain ⟨_, rfl⟩ := hu; obtain ⟨_, rfl⟩ := hv; exact Hs.of fun s' Q _ _ h => floordiv_int hy (h _ _ (keeps_toks _ _) ⟨_, rfl⟩) (Or.inl hp)

-- ints compared
theorem cmp_eq {s₁ : Shared} {x y : Int} {u v : Value} (hu : tInt.is D s₁.heap u x) (hv : tInt.is D s₁.heap v y) : Has prog w A D s₁ (compareOp .Eq u v) tBool (x == y) := by
  obtain ⟨_, rfl⟩ := hu; obtain ⟨_, rfl⟩ := hv
  exact Hs.of fun s' Q _ _ h => (wpAny_eq_int (h _ _ (keeps_refl _) rfl) : wpAny _ _ (richCompare _ _ _) _ _ _)
theorem cmp_lt {s₁ : Shared} {x y : Int} {u v : Value} (hu : tInt.is D s₁.heap u x) (hv : tInt.is D s₁.heap v y) : Has prog w A D s₁ (compareOp .Lt u v) tBool (decide (x < y)) := by
  obtain ⟨_, rfl⟩ := hu; obtain ⟨_, rfl⟩ := hv
  exact Hs.of fun s' Q _ _ h => wpAny_lt_int (h _ _ (keeps_refl _) rfl)
theorem cmp_ne {s₁ : Shared} {x y : Int} {u v : Value} (hu : tInt.is D s₁.heap u x) (hv : tInt.is D s₁.heap v y) : Has prog w A D s₁ (compareOp .NotEq u v) tBool (x != y) := by
  obtain ⟨_, rfl⟩ := hu; obtain ⟨_, rfl⟩ := hv
  exact Hs.of fun s' Q _ _ h => PySem.P.ne_int (h _ _ (keeps_refl _) rfl)
theorem cmp_le {s₁ : Shared} {x y : Int} {u v : Value} (hu : tInt.is D s₁.heap u x) (hv : tInt.is D s₁.heap v y) : Has prog w A D s₁ (compareOp .LtE u v) tBool (decide (x ≤ y)) := by
  obtain ⟨_, rfl⟩ := hu; obtain ⟨_, rfl⟩ := hv
  exact Hs.of fun s' Q _ _ h => PySem.P.le_int (h _ _ (keeps_refl _) rfl)
theorem cmp_gt {s₁ : Shared} {x y : Int} {u v : Value} (hu : tInt.is D s₁.heap u x) (hv : tInt.is D s₁.heap v y) : Has prog w A D s₁ (compareOp .Gt u v) tBool (decide (x > y)) := by
  obtain ⟨_, rfl⟩ := hu; obtain ⟨_, rfl⟩ := hv
  exact Hs.of fun s' Q _ _ h => PySem.P.gt_int (h _ _ (keeps_refl _) rfl)
theorem cmp_ge {s₁ : Shared} {x y : Int} {u v : Value} (hu : tInt.is D s₁.heap u x) (hv : tInt.is D s₁.heap v y) : Has prog w A D s₁ (compareOp .GtE u v) tBool (decide (x ≥ y)) := by
  obtain ⟨_, rfl⟩ := hu; obtain ⟨_, rfl⟩ := hv
  exact Hs.of fun s' Q _ _ h => PySem.P.ge_int (h _ _ (keeps_refl _) rfl)
theorem cmp_neb {s₁ : Shared} {x y : Bool} {u v : Value} (hu : tBool.is D s₁.heap u x) (hv : tBool.is D s₁.heap v y) : Has prog w A D s₁ (compareOp .NotEq u v) tBool (x != y) := by
  cases hu; cases hv
  exact Hs.of fun s' Q _ _ h => ne_bool (h _ _ (keeps_refl _) rfl)
section
variable {l r : Expr} {pos : Pos} {x y : Int} (ha : Has prog w A D s (eval l env) tInt x) (hb : Has prog w A D s (eval r env) tInt y)
include ha hb
theorem has_eq (hm : behindInMarks .Eq r = false := by with_unfolding_all rfl) : Has prog w A D s (eval (.Compare l [.Eq] [r] pos) env) tBool (x == y) := hs_cmp ha hb (fun _ _ _ _ hu hv => cmp_eq hu hv) hm
theorem tst_eq (hm : behindInMarks .Eq r = false := by with_unfolding_all rfl) : Tst prog w A D s (.Compare l [.Eq] [r] pos) env (x == y) := tst_cmp ha hb (fun _ _ _ _ hu hv => cmp_eq hu hv) hm
theorem tst_ne (hm : behindInMarks .NotEq r = false := by with_unfolding_all rfl) : Tst prog w A D s (.Compare l [.NotEq] [r] pos) env (x != y) := tst_cmp ha hb (fun _ _ _ _ hu hv => cmp_ne hu hv) hm
theorem tst_lt (hm : behindInMarks .Lt r = false := by with_unfolding_all rfl) : Tst prog w A D s (.Compare l [.Lt] [r] pos) env (decide (x < y)) := tst_cmp ha hb (fun _ _ _ _ hu hv => cmp_lt hu hv) hm
theorem tst_le (hm : behindInMarks .LtE r = false := by with_unfolding_all rfl) : Tst prog w A D s (.Compare l [.LtE] [r] pos) env (decide (x ≤ y)) := tst_cmp ha hb (fun _ _ _ _ hu hv => cmp_le hu hv) hm
theorem has_le (hm : behindInMarks .LtE r = false := by with_unfolding_all rfl) : Has prog w A D s (eval (.Compare l [.LtE] [r] pos) env) tBool (decide (x ≤ y)) := hs_cmp ha hb (fun _ _ _ _ hu hv => cmp_le hu hv) hm
theorem tst_gt (hm : behindInMarks .Gt r = false := by with_unfolding_all rfl) : Tst prog w A D s (.Compare l [.Gt] [r] pos) env (decide (x > y)) := tst_cmp ha hb (fun _ _ _ _ hu hv => cmp_gt hu hv) hm
theorem tst_ge (hm : behindInMarks .GtE r = false := by with_unfolding_all rfl) : Tst prog w A D s (.Compare l [.GtE] [r] pos) env (decide (x ≥ y)) := tst_cmp ha hb (fun _ _ _ _ hu hv => cmp_ge hu hv) hm
theorem has_xor : Has prog w A D s (eval (.BinOp l .BitXor r pos) env) tInt (Builtin.bitXor x y) :=
  hs_binop ha hb fun s₁ u v _ hu hv => by obtain ⟨_, rfl⟩ := hu; obtain ⟨_, rfl⟩ := hv; exact Hs.of fun s' Q _ _ h => xor_int (h _ _ (keeps_toks _ _) ⟨_, rfl⟩)
theorem has_shr (hy : 0 ≤ y) : Has prog w A D s (eval (.BinOp l .RShift r pos) env) tInt (x.fdiv (2 ^ y.toNat)) :=
  hs_binop ha hb fun s₁ u v _ hu hv => by obtain ⟨_, rfl⟩ := hu; obtain ⟨_, rfl⟩ := hv; exact Hs.of fun s' Q _ _ h => rshift_int hy (h _ _ (keeps_toks _ _) ⟨_, rfl⟩)
theorem has_shl (hy : 0 ≤ y) (hy2 : y ≤ 1000000) (hx : x.natAbs < 2 ^ 64) : Has prog w A D s (eval (.BinOp l .LShift r pos) env) tInt (x * 2 ^ y.toNat) :=
  hs_binop ha hb fun s₁ u v _ hu hv => by obtain ⟨_, rfl⟩ := hu; obtain ⟨_, rfl⟩ := hv; exact Hs.of fun s' Q _ _ h => lshift_int_small hy hy2 hx (h _ _ (keeps_toks _ _) ⟨_, rfl⟩)
end
/-- 2 ** k -/
theorem has_pow2 {l r : Expr} {pos : Pos} {y : Int} (ha : Has prog w A D s (eval l env) tInt 2) (hb : Has prog w A D s (eval r env) tInt y) (hy : 0 ≤ y) (hy2 : y ≤ 1000) : Has prog w A D s (eval (.BinOp l .Pow r pos) env) tInt (2 ^ y.toNat) :=
  hs_binop ha hb fun s₁ u v _ hu hv => by
    obtain ⟨t, rfl⟩ := hu; obtain ⟨t', rfl⟩ := hv
    refine Hs.of fun s' Q _ _ h => ?_
    by_cases h0 : y = 0
    · subst h0
      exact AutoIntOps.pow_0 (by omega) rfl (h _ _ (keeps_toks _ _) ⟨_, rfl⟩)
    · refine AutoIntOps.pow_4 (by omega) (by simpa using h0) (by decide) (by decide) ?_ (h _ _ (keeps_toks _ _) ⟨_, rfl⟩)
      have hb2 : Builtin.Int.intBits 2 = 2 := by decide +kernel
      rw [hb2]
      unfold Builtin.Int.intTooBig
      simp only [decide_eq_true_eq]
      have hB : bitsLine = 134217728 := by decide +kernel
      rw [hB]
      omega
end
end Mine

end
section

open PySem PySem.W PyProof.Rows PySem.Calls
namespace Mine

structure Wd (g : Heap) (mg mb : Str → Option Value) : Prop where
  ng : g.Ns mainGlobals mg
  nb : g.Ns builtinsNs mb
  lim : g.NoLimit
def Sub (g h : Heap) : Prop := ∀ b o, g.get? b = some o → h.get? b = some o
theorem sub_keeps {g : Heap} {s s' : Shared} (x : Sub g s.heap) (k : Keeps s s') : Sub g s'.heap := fun b o e => keeps_get k (x b o e)

theorem ns_fun {h : Heap} {a : Addr} {m m' : Str → Option Value} (x : h.Ns a m) (y : h.Ns a m') : m = m' := by
  obtain ⟨o, es, ep, ho, hd, _, hf⟩ := x
  obtain ⟨o', es', ep', ho', hd', _, hf'⟩ := y
  rw [ho] at ho'; cases ho'
  rw [hd] at hd'; cases hd'
  funext n
  rw [← hf n, hf' n]

/-- a type and a datum of it -/
structure Ent where
  {α : Type}
  T : Ty α
  y : α
abbrev Rho := Str → Option Ent
def upd (ρ : Rho) (x : Str) (e : Ent) : Rho := fun z => if z = x then some e else ρ z

def NameAt (env : Env) (h : Heap) (x : Str) (v : Value) : Prop :=
  (env.kindOf x = some .local ∧ ∃ m, h.Ns env.locals m ∧ m x = some v) ∨
  ((env.kindOf x = some .cell ∨ (env.kindOf x = some .free ∧ (x == ("__classdict__" : Str)) = false)) ∧ ∃ c, env.cells.lookup x = some c ∧ h.IsCell c (some v))

/-- a frame: its names typed -/
structure Fm (s₀ : Shared) (D : Addr → Prop) (env : Env) (h : Heap) (ρ : Rho) : Prop where
  kind : env.scope.kind = .function
  ns : ∃ m, h.Ns env.locals m
  newL : s₀.heap.get? env.locals = none
  volL : D env.locals
  cells : ∀ x c, env.cells.lookup x = some c → ∃ v, h.IsCell c v
  apart : ∀ x y c, env.cells.lookup x = some c → env.cells.lookup y = some c → x = y
  cellOk : ∀ x, env.kindOf x = some .cell ∨ env.kindOf x = some .free → ∃ c, env.cells.lookup x = some c
  glob : env.globals = mainGlobals ∧ env.builtins = builtinsNs
  names : ∀ x e, ρ x = some e → ∃ v, NameAt env h x v ∧ e.T.is D h v e.y

structure Ex (g : Heap) (s₀ : Shared) (D : Addr → Prop) (env : Env) (s : Shared) (ρ : Rho) : Prop where
  sub : Sub g s₀.heap
  kp : Keeps s₀ s
  live : Live D s.heap
  fm : Fm s₀ D env s.heap ρ

theorem NameAt.keeps {env : Env} {s s' : Shared} {x : Str} {v : Value} (n : NameAt env s.heap x v) (k : Keeps s s') : NameAt env s'.heap x v := by
  rcases n with ⟨a, m, hn, hm⟩ | ⟨a, c, hc, hv⟩
  · exact .inl ⟨a, m, hn.keeps fun b o e => keeps_get k e, hm⟩
  · exact .inr ⟨a, c, hc, hv.keeps fun b o e => keeps_get k e⟩

section
variable {prog : Program} {w : World} {A : Around} {D : Addr → Prop} {s s₁ s₀ : Shared} {g : Heap} {env : Env} {ρ : Rho}

theorem Fm.keeps (F : Fm s₀ D env s.heap ρ) (k : Keeps s s₁) : Fm s₀ D env s₁.heap ρ where
  kind := F.kind
  ns := let ⟨m, hn⟩ := F.ns; ⟨m, hn.keeps fun b o e => keeps_get k e⟩
  newL := F.newL
  volL := F.volL
  cells x c e := let ⟨v, hv⟩ := F.cells x c e; ⟨v, hv.keeps fun b o e => keeps_get k e⟩
  apart := F.apart
  cellOk := F.cellOk
  glob := F.glob
  names x e he := let ⟨v, hv, ht⟩ := F.names x e he; ⟨v, hv.keeps k, e.T.mono (keeps_le k D) ht⟩

theorem Ex.up (X : Ex g s₀ D env s ρ) (k : Keeps s s₁) : Ex g s₀ D env s₁ ρ := ⟨X.sub, keeps_trans X.kp k, live_keeps X.live k, X.fm.keeps k⟩
theorem Ex.subs (X : Ex g s₀ D env s ρ) : Sub g s.heap := sub_keeps X.sub X.kp

theorem Ex.load {x : Str} {e : Ent} (X : Ex g s₀ D env s ρ) (h : ρ x = some e) {Q : Value → Shared → Prop} {E : Value → Shared → Prop} (q : ∀ v, e.T.is D s.heap v e.y → Q v s) : wpAny (model prog w) A (loadName env x) Q E s := by
  obtain ⟨v, hn, ht⟩ := X.fm.names x e h
  rcases hn with ⟨a, m, hn, hm⟩ | ⟨a | ⟨a, b⟩, c, hc, hv⟩
  · exact wpAny_loadName_local X.fm.kind a hn hm (q v ht)
  · exact wpAny_loadName_cell X.fm.kind a hc hv (q v ht)
  · exact wpAny_loadName_free X.fm.kind a hc hv (q v ht) b

theorem has_name {x : Str} {pos : Pos} {α : Type} {T : Ty α} {y : α} (X : Ex g s₀ D env s ρ) (h : ρ x = some ⟨T, y⟩) (hd : (x == ("__debug__" : Str)) = false := by decide) : Has prog w A D s (eval (.Name x pos) env) T y :=
  Hs.of fun s' Q k l q => wpAny_Name ((X.up k).load h fun v ht => q v s' (keeps_refl _) ht) hd

/-- what a global name is -/
def gl (mg mb : Str → Option Value) (x : Str) : Option Value := (mg x).or (mb x)
theorem has_glob {mg mb : Str → Option Value} (W : Wd g mg mb) {x : Str} {pos : Pos} {v : Value} (X : Ex g s₀ D env s ρ) (hk : env.kindOf x = some .globalImplicit) (hv : gl mg mb x = some v)
    (hd : (x == ("__debug__" : Str)) = false := by decide) : Has prog w A D s (eval (.Name x pos) env) tVal v :=
  Hs.of fun s' Q k l q => by
    have hs := (X.up k).subs
    have ng : s'.heap.Ns env.globals mg := by rw [X.fm.glob.1]; exact W.ng.keeps hs
    have nb : s'.heap.Ns env.builtins mb := by rw [X.fm.glob.2]; exact W.nb.keeps hs
    refine Name_function_global X.fm.kind hk ?_ hd
    unfold gl at hv
    cases hm : mg x with
    | some u =>
      rw [hm] at hv; cases hv
      exact loadGlobal_global ng hm (q _ _ (keeps_refl _) rfl)
    | none =>
      rw [hm] at hv
      exact loadGlobal_builtin ng hm nb hv (q _ _ (keeps_refl _) rfl)

/-- data outside D and every iterator stand -/
structure Calm (D : Addr → Prop) (s s' : Shared) : Prop where
  le : Le D s.heap s'.heap
  fields : ∀ a o vs, s.heap.get? a = some o → o.data = .fields vs → s'.heap.get? a = some o
theorem Calm.keeps (k : Keeps s s₁) : Calm D s s₁ := ⟨keeps_le k D, fun _ _ _ e _ => keeps_get k e⟩
theorem Calm.trans {s₂ : Shared} (a : Calm D s s₁) (b : Calm D s₁ s₂) : Calm D s s₂ := ⟨fun c o n f e => b.le c o n f (a.le c o n f e), fun c o vs e d => b.fields c o vs (a.fields c o vs e d) d⟩

/-- what a store of a name leaves -/
structure Others (D : Addr → Prop) (env : Env) (s s' : Shared) : Prop where
  still : ∀ a o, s.heap.get? a = some o → a ≠ env.locals → (∀ v, o.data ≠ .cell v) → s'.heap.get? a = some o
  calm : Calm D s s'
theorem others_refl (s : Shared) : Others D env s s := ⟨fun _ _ e _ _ => e, .keeps (keeps_refl s)⟩
theorem others_keeps (k : Keeps s s₁) : Others D env s s₁ := ⟨fun _ _ e _ _ => keeps_get k e, .keeps k⟩
theorem others_trans {s₂ : Shared} (a : Others D env s s₁) (b : Others D env s₁ s₂) : Others D env s s₂ := ⟨fun c o e n d => b.still c o (a.still c o e n d) n d, a.calm.trans b.calm⟩

def Own (s₀ : Shared) (env : Env) (x : Str) : Prop := env.kindOf x = some .local ∨ (env.kindOf x = some .cell ∧ ∃ c, env.cells.lookup x = some c ∧ s₀.heap.get? c = none)

theorem cell_ne_ns {h : Heap} {c a : Addr} {v : Option Value} {m : Str → Option Value} (hc : h.IsCell c v) (hn : h.Ns a m) : c ≠ a := by
  rintro rfl
  obtain ⟨o, ho, hd⟩ := hc
  obtain ⟨o', es, ep, ho', hd', _⟩ := hn
  rw [ho] at ho'; cases ho'
  rw [hd] at hd'; cases hd'

theorem le_of_sameBut {a : Addr} {h h' : Heap} (hs : Heap.SameBut a h h') (ha : D a ∨ ∀ o, h.get? a = some o → ¬ Firm o) : Le D h h' := fun b o nd f e => by
  by_cases hb : b = a
  · subst hb
    rcases ha with d | n
    · exact absurd d nd
    · exact absurd f (n o e)
  · exact (hs.2 b hb).trans e

theorem Ex.store {x : Str} {α : Type} {T : Ty α} {y : α} {v : Value} {Q : Unit → Shared → Prop} {E : Value → Shared → Prop} (X : Ex g s₀ D env s ρ) (o : Own s₀ env x) (hv : T.is D s.heap v y)
    (q : ∀ s', Ex g s₀ D env s' (upd ρ x ⟨T, y⟩) → Others D env s s' → Q () s') : wpAny (model prog w) A (storeName env x v) Q E s := by
  obtain ⟨hS, hK, hL, F⟩ := X
  obtain ⟨m, hn⟩ := F.ns
  rcases o with hl | ⟨hl, c, hc, hnew⟩
  · refine wpAny_storeName_local hl hn (fun h' hn' hs => q _ ?_ ?_) (by rw [F.kind]; rfl)
    · have hle : Le D s.heap h' := le_of_sameBut hs (.inl F.volL)
      refine ⟨hS, ?_, ?_, ?_⟩
      · obtain ⟨h0, t0, rfl, hk0⟩ := hK
        exact ⟨h', _, rfl, fun b o e => (hs.2 b (fun q => by rw [q, F.newL] at e; cases e)).trans (hk0 b o e)⟩
      · intro a d
        obtain ⟨o, e⟩ := hL a d
        by_cases ha : a = env.locals
        · subst ha
          obtain ⟨o', _, _, e', _⟩ := hn'
          exact ⟨o', e'⟩
        · exact ⟨o, (hs.2 a ha).trans e⟩
      · refine ⟨F.kind, ⟨_, hn'⟩, F.newL, F.volL, fun z c e => ?_, F.apart, F.cellOk, F.glob, fun z e hz => ?_⟩
        · obtain ⟨v', hv'⟩ := F.cells z c e
          exact ⟨v', hv'.sameBut hs (cell_ne_ns hv' hn)⟩
        · unfold upd at hz
          split at hz
          · rename_i hzx
            cases hz
            subst hzx
            exact ⟨v, .inl ⟨hl, _, hn', by simp⟩, T.mono hle hv⟩
          · rename_i hzx
            obtain ⟨u, hu, ht⟩ := F.names z e hz
            refine ⟨u, ?_, e.T.mono hle ht⟩
            rcases hu with ⟨a, m', hm', hmz⟩ | ⟨a, c, hc, hcv⟩
            · refine .inl ⟨a, _, hn', ?_⟩
              rw [if_neg hzx, ns_fun hn hm']; exact hmz
            · exact .inr ⟨a, c, hc, hcv.sameBut hs (cell_ne_ns hcv hn)⟩
    · refine ⟨fun a o e hne _ => (hs.2 a hne).trans e, le_of_sameBut hs (.inl F.volL), fun a o vs e d => (hs.2 a (fun q => ?_)).trans e⟩
      obtain ⟨o', es, ep, e', d', _⟩ := hn
      rw [q, e'] at e; cases e
      rw [d] at d'; cases d'
  · obtain ⟨v₀, hv₀⟩ := F.cells x c hc
    refine wpAny_storeName_cell F.kind hl hc hv₀ fun h' hcv hs => q _ ?_ ?_
    · have hle : Le D s.heap h' := le_of_sameBut hs (.inr fun o e f => by
        obtain ⟨o', e', d'⟩ := hv₀
        rw [e] at e'; cases e'
        unfold Firm at f; rw [d'] at f; exact f)
      have hcl : c ≠ env.locals := cell_ne_ns hv₀ hn
      refine ⟨hS, ?_, ?_, ?_⟩
      · obtain ⟨h0, t0, rfl, hk0⟩ := hK
        exact ⟨h', _, rfl, fun b o e => (hs.2 b (fun q => by rw [q, hnew] at e; cases e)).trans (hk0 b o e)⟩
      · intro a d
        obtain ⟨o, e⟩ := hL a d
        by_cases ha : a = c
        · subst ha
          obtain ⟨o', e', _⟩ := hcv
          exact ⟨o', e'⟩
        · exact ⟨o, (hs.2 a ha).trans e⟩
      · have hn' : h'.Ns env.locals m := hn.sameBut hs (Ne.symm hcl)
        refine ⟨F.kind, ⟨_, hn'⟩, F.newL, F.volL, fun z c' e => ?_, F.apart, F.cellOk, F.glob, fun z e hz => ?_⟩
        · obtain ⟨v', hv'⟩ := F.cells z c' e
          by_cases hcc : c' = c
          · subst hcc; exact ⟨_, hcv⟩
          · exact ⟨v', hv'.sameBut hs hcc⟩
        · unfold upd at hz
          split at hz
          · rename_i hzx
            cases hz
            subst hzx
            exact ⟨v, .inr ⟨.inl hl, c, hc, hcv⟩, T.mono hle hv⟩
          · rename_i hzx
            obtain ⟨u, hu, ht⟩ := F.names z e hz
            refine ⟨u, ?_, e.T.mono hle ht⟩
            rcases hu with ⟨a, m', hm', hmz⟩ | ⟨a, c', hc', hcv'⟩
            · exact .inl ⟨a, m', hm'.sameBut hs (Ne.symm hcl), hmz⟩
            · exact .inr ⟨a, c', hc', hcv'.sameBut hs fun q => hzx (F.apart z x c (q ▸ hc') hc)⟩
    · have key : ∀ a o, s.heap.get? a = some o → (∀ v, o.data ≠ .cell v) → h'.get? a = some o := fun a o e hnc => (hs.2 a (fun q => by
        obtain ⟨o', e', d'⟩ := hv₀
        rw [q, e'] at e; cases e
        exact hnc _ d')).trans e
      refine ⟨fun a o e _ hnc => key a o e hnc, le_of_sameBut hs (.inr fun o e f => ?_), fun a o vs e d => key a o e fun v q => by rw [d] at q; cases q⟩
      obtain ⟨o', e', d'⟩ := hv₀
      rw [e] at e'; cases e'
      unfold Firm at f; rw [d'] at f; exact f

theorem ex_assign {x : Str} {px pos : Pos} {e : Expr} {α : Type} {T : Ty α} {y : α} {Q : Flow → Shared → Prop} {E : Value → Shared → Prop} (X : Ex g s₀ D env s ρ) (he : Has prog w A D s (eval e env) T y) (o : Own s₀ env x)
    (h : ∀ s', Ex g s₀ D env s' (upd ρ x ⟨T, y⟩) → Others D env s s' → Q .next s') (hs : swapsWith e (some (.Name x px)) pos.line env = pure false := by rfl) : wpAny (model prog w) A (exec (.Assign [.Name x px] e pos) env) Q E s :=
  wpAny_Assign_Name (he.use X.live fun v s' k hv => (X.up k).store o hv fun s'' X'' ot => h s'' X'' (others_trans (others_keeps k) ot)) hs

theorem ex_return {e : Expr} {pos : Pos} {P : Heap → Value → Prop} {Q : Flow → Shared → Prop} {E : Value → Shared → Prop} (X : Ex g s₀ D env s ρ) (he : Hs prog w A D s (eval e env) P)
    (h : ∀ v s', Keeps s s' → P s'.heap v → Q (.ret v) s') : wpAny (model prog w) A (exec (.Return (some e) pos) env) Q E s :=
  wpAny_Return_some (he.use X.live fun v s' k hv => h v s' k hv)

theorem ex_if {t : Expr} {body orelse : List Stmt} {pos : Pos} {b : Bool} {Q : Flow → Shared → Prop} {E : Value → Shared → Prop} (X : Ex g s₀ D env s ρ) (ht : Tst prog w A D s t env b)
    (h : ∀ s', Ex g s₀ D env s' ρ → Keeps s s' → if b then wpAny (model prog w) A (execs body env) Q E s' else wpAny (model prog w) A (execs orelse env) Q E s') :
    wpAny (model prog w) A (exec (.If t body orelse pos) env) Q E s :=
  wpAny_If (ht.use X.live fun r s' k hr => by
    subst hr
    have := h s' (X.up k) k
    cases r <;> exact this)

theorem Ex.weak {ρ' : Rho} (X : Ex g s₀ D env s ρ) (h : ∀ z e, ρ' z = some e → ρ z = some e) : Ex g s₀ D env s ρ' :=
  ⟨X.sub, X.kp, X.live, ⟨X.fm.kind, X.fm.ns, X.fm.newL, X.fm.volL, X.fm.cells, X.fm.apart, X.fm.cellOk, X.fm.glob, fun z e q => X.fm.names z e (h z e q)⟩⟩

/-- the mutable set turned: more of it that is not yet met, or less of it -/
theorem Ex.wide {D' : Addr → Prop} (X : Ex g s₀ D env s ρ) (h : ∀ a o, s.heap.get? a = some o → D' a → D a) (hl : Live D' s.heap) (hL : D' env.locals) : Ex g s₀ D' env s ρ :=
  ⟨X.sub, X.kp, hl, ⟨X.fm.kind, X.fm.ns, X.fm.newL, hL, X.fm.cells, X.fm.apart, X.fm.cellOk, X.fm.glob, fun z e q => let ⟨v, a, b⟩ := X.fm.names z e q; ⟨v, a, e.T.wide h b⟩⟩⟩

/-- one more mutable object, made since -/
theorem Ex.grow {D' : Addr → Prop} (X : Ex g s₀ D env s ρ) (k : Keeps s s₁) (h : ∀ a o, s.heap.get? a = some o → D' a → D a) (hl : Live D' s₁.heap) (hL : D' env.locals) : Ex g s₀ D' env s₁ ρ :=
  ⟨X.sub, keeps_trans X.kp k, hl, ⟨X.fm.kind, (X.fm.keeps k).ns, X.fm.newL, hL, (X.fm.keeps k).cells, X.fm.apart, X.fm.cellOk, X.fm.glob, fun z e q => let ⟨v, a, b⟩ := X.fm.names z e q; ⟨v, a.keeps k, e.T.mono (keeps_le k _) (e.T.wide h b)⟩⟩⟩

end
end Mine

end
section

open PySem PySem.W PyProof.Rows PySem.Calls
namespace Mine

/-- values of the types and data told, in order -/
inductive Are (D : Addr → Prop) (h : Heap) : List Value → List Ent → Prop
  | nil : Are D h [] []
  | cons {v : Value} {e : Ent} {vs : List Value} {es : List Ent} : e.T.is D h v e.y → Are D h vs es → Are D h (v :: vs) (e :: es)
theorem Are.mono {D : Addr → Prop} {h h' : Heap} {vs : List Value} {es : List Ent} (k : Le D h h') (a : Are D h vs es) : Are D h' vs es := by
  induction a with
  | nil => exact .nil
  | cons x _ ih => exact .cons (Ent.T _ |>.mono k x) ih
theorem Are.one {D : Addr → Prop} {h : Heap} {vs : List Value} {α : Type} {T : Ty α} {y : α} (a : Are D h vs [⟨T, y⟩]) : ∃ v, vs = [v] ∧ T.is D h v y := by
  cases a with | cons x r => cases r with | nil => exact ⟨_, rfl, x⟩
theorem Are.two {D : Addr → Prop} {h : Heap} {vs : List Value} {α β : Type} {T : Ty α} {y : α} {U : Ty β} {z : β} (a : Are D h vs [⟨T, y⟩, ⟨U, z⟩]) : ∃ u v, vs = [u, v] ∧ T.is D h u y ∧ U.is D h v z := by
  cases a with | cons x r => obtain ⟨v, rfl, q⟩ := r.one; exact ⟨_, _, rfl, x, q⟩
theorem Are.three {D : Addr → Prop} {h : Heap} {vs : List Value} {α β γ : Type} {T : Ty α} {y : α} {U : Ty β} {z : β} {V : Ty γ} {t : γ} (a : Are D h vs [⟨T, y⟩, ⟨U, z⟩, ⟨V, t⟩]) : ∃ u v w, vs = [u, v, w] ∧ T.is D h u y ∧ U.is D h v z ∧ V.is D h w t := by
  cases a with | cons x r => obtain ⟨u, v, rfl, q⟩ := r.two; exact ⟨_, _, _, rfl, x, q⟩

section
variable {prog : Program} {w : World} {A : Around} {D : Addr → Prop} {s s₁ s₀ : Shared} {g : Heap} {env : Env} {ρ : Rho} {mg mb : Str → Option Value}

abbrev HsL (prog : Program) (w : World) (A : Around) (D : Addr → Prop) (s : Shared) (pos : Pos) (env : Env) (es : List Expr) (ts : List Ent) : Prop :=
  Hs prog w A D s (spliced (backTo pos (starEach es env))) fun h vs => Are D h vs ts

theorem hsl_nil {pos : Pos} : HsL prog w A D s pos env [] [] := Hs.of fun s' Q _ _ q => spliced_none (q _ _ (keeps_refl _) .nil)
theorem hsl_cons {pos : Pos} {e : Expr} {es : List Expr} {α : Type} {T : Ty α} {y : α} {ts : List Ent} (he : Has prog w A D s (eval e env) T y) (hs : HsL prog w A D s pos env es ts)
    (hp : starEach (e :: es) env = (false, eval e env) :: starEach es env := by rfl) : HsL prog w A D s pos env (e :: es) (⟨T, y⟩ :: ts) :=
  Hs.of fun s' Q k l q => spliced_more (wpAny_mono (he s' k l) (fun v s₁ a => wpAny_mono (hs s₁ (keeps_trans k a.1) (live_keeps l a.1)) (fun vs s₂ b =>
    q _ _ (keeps_trans a.1 b.1) (.cons (T.mono (keeps_le b.1 D) a.2) b.2)) fun _ _ e => e) fun _ _ e => e) hp

def Callee (h : Heap) (f : Value) : Prop := (∀ a, f ≠ .ref a) ∨ ∃ a o fd, f = .ref a ∧ h.get? a = some o ∧ o.data = .func fd
theorem Callee.keeps {f : Value} (c : Callee s.heap f) (k : Keeps s s₁) : Callee s₁.heap f := c.imp id fun ⟨a, o, fd, e, g, d⟩ => ⟨a, o, fd, e, keeps_get k g, d⟩
theorem Callee.sub {h : Heap} {f : Value} (c : Callee g f) (k : Sub g h) : Callee h f := c.imp id fun ⟨a, o, fd, e, g, d⟩ => ⟨a, o, fd, e, k _ _ g, d⟩
theorem Callee.keeper {M : Model} {h : Heap} {f : Value} (c : Callee h f) : ∃ k, (k = Keeper.frame ∨ k = Keeper.machine ∨ k = Keeper.boundFrame) ∧ Looks M h (keeperOf f) k := by
  rcases c with c | ⟨a, o, fd, rfl, ho, hd⟩
  · refine ⟨.machine, .inr (.inl rfl), ?_⟩
    cases f <;> first | exact .now | exact absurd rfl (c _)
  · refine ⟨.frame, .inl rfl, (Looks.ld (part := none) ho).andThen ?_⟩
    rw [hd]
    exact .now

theorem starEach_backTo_plain {pos : Pos} : ∀ {es : List Expr}, (∀ e ∈ es, isStarred e = false) → (backTo pos (starEach es env)).any (·.1) = false
  | [], _ => rfl
  | e :: es, h => by
    have h1 := h e (.head _)
    have ih := starEach_backTo_plain (pos := pos) (es := es) fun e' m => h e' (.tail _ m)
    have : starEach (e :: es) env = (false, eval e env) :: starEach es env := by cases e <;> first | rfl | (simp [isStarred] at h1)
    rw [this]
    show (false || (backTo pos (starEach es env)).any (·.1)) = false
    rw [ih]; rfl

theorem evalArgs_of {f : Value} {pos : Pos} {es : List Expr} {Q : Args → Shared → Prop} {E : Value → Shared → Prop} {M : Model} (hp : ∀ e ∈ es, isStarred e = false)
    (h : wpAny M A (spliced (backTo pos (starEach es env))) (fun vs s' => Q ⟨vs, []⟩ s') E s) : wpAny M A (evalArgs f true (backTo pos (starEach es env)) []) Q E s := by
  cases es with
  | nil =>
    show wpAny M A (evalArgs f true [] []) Q E s
    unfold evalArgs
    show wpAny M A (spliced [] >>= _) Q E s
    refine wpAny_bind (wpAny_mono h (fun vs s₁ h₁ => ?_) fun _ _ x => x)
    refine wpAny_holding ?_
    simp only [List.all_nil, if_true]
    refine wpAny_bind (wpAny_evalAll_nil ?_)
    exact wpAny_bind (wpAny_pure (wpAny_pure h₁))
  | cons e es =>
    have h1 := hp e (.head _)
    have : starEach (e :: es) env = (false, eval e env) :: starEach es env := by cases e <;> first | rfl | (simp [isStarred] at h1)
    rw [this] at h ⊢
    exact evalArgs_plain h

theorem hs_callWith {pos : Pos} {f : Value} {first : List Value} {es : List Expr} {ts : List Ent} {P : Heap → Value → Prop} (hp : ∀ e ∈ es, isStarred e = false) (c : Callee s.heap f) (ha : HsL prog w A D s pos env es ts)
    (h : ∀ s₁ vs, Keeps s s₁ → Are D s₁.heap vs ts → Hs prog w A D s₁ (call f (first ++ vs)) P) : Hs prog w A D s (callWith pos f first (backTo pos (starEach es env)) []) P := fun s' k l => by
  refine callWith_of (P := fun h => Callee h f) (by rw [starEach_backTo_plain hp]; rfl) (fun h x => x.keeper) (evalArgs_of hp (wpAny_mono (ha s' k l) (fun vs s₁ a => ⟨c.keeps (keeps_trans k a.1), ?_⟩) fun _ _ e => e))
  exact wpAny_mono (h s₁ vs (keeps_trans k a.1) a.2 s₁ (keeps_refl _) (live_keeps l a.1)) (fun _ _ b => ⟨keeps_trans a.1 b.1, b.2⟩) fun _ _ e => e

theorem hs_call {x : Str} {px pos : Pos} {f : Value} {es : List Expr} {ts : List Ent} {P : Heap → Value → Prop} (hf : Has prog w A D s (eval (.Name x px) env) tVal f) (c : Callee s.heap f) (ha : HsL prog w A D s pos env es ts)
    (h : ∀ s₁ vs, Keeps s s₁ → Are D s₁.heap vs ts → Hs prog w A D s₁ (call f vs) P) (hp : ∀ e ∈ es, isStarred e = false := by simp [isStarred]) : Hs prog w A D s (eval (.Call (.Name x px) es [] pos) env) P := by
  show Hs prog w A D s (eval (.Name x px) env >>= fun v => callWith pos v [] (backTo pos (starEach es env)) (backToKw pos (keywordEach [] env))) P
  refine Hs.bind hf fun s₁ v k hv => ?_
  cases hv
  exact hs_callWith hp (c.keeps k) (ha.up k) fun s₂ vs k' a => h s₂ vs (keeps_trans k k') a

/-- room for k more frames -/
structure Rm (A : Around) (k : Nat) : Prop where
  handled : A.handled = none
  depth : A.depth + k ≤ 900
  units : A.units + 4 * k ≤ 9000
theorem Rm.deeper {k : Nat} (r : Rm A (k + 1)) (env : Env) : Rm (A.deeper env) k := ⟨r.handled, by have := r.depth; show A.depth + 1 + k ≤ 900; omega, by have := r.units; show A.units + 3 + 4 * k ≤ 9000; omega⟩
theorem Rm.less {k j : Nat} (r : Rm A k) (h : j ≤ k) : Rm A j := ⟨r.handled, by have := r.depth; omega, by have := r.units; omega⟩
theorem Rm.in1 {k : Nat} (r : Rm A (k + 1)) : Rm A.in1 k := ⟨r.handled, by have := r.depth; show A.depth + k ≤ 900; omega, by have := r.units; show A.units + 1 + 4 * k ≤ 9000; omega⟩

/-- a module's function stands in g -/
structure FnAt (g : Heap) (mg : Str → Option Value) (name : Str) (params : Arguments) (body : List Stmt) (scope : Scope) (f : Value) : Prop where
  nm : mg name = some f
  fn : ∃ a o pm cd doc, f = .ref a ∧ g.get? a = some o ∧ o.data = .func (docDef name params body scope pm cd doc) ∧ g.CodeRec cd name
theorem FnAt.callee {name : Str} {params : Arguments} {body : List Stmt} {scope : Scope} {f : Value} (F : FnAt g mg name params body scope f) : Callee g f := by
  obtain ⟨a, o, pm, cd, doc, rfl, ho, hd, _⟩ := F.fn
  exact .inr ⟨a, o, _, rfl, ho, hd⟩
theorem FnAt.gl {name : Str} {params : Arguments} {body : List Stmt} {scope : Scope} {f : Value} (F : FnAt g mg name params body scope f) : gl mg mb name = some f := by unfold Mine.gl; rw [F.nm]; rfl

abbrev Binds := List (Str × Value × Ent)
def Binds.plain (b : Binds) : List (Str × Value) := b.map fun t => (t.1, t.2.1)
def Binds.rho : Binds → Rho
  | [] => fun _ => none
  | t :: r => upd (Binds.rho r) t.1 t.2.2

theorem bindL_keep (kd : Str → Option NameKind) (x : Str) : ∀ (l : List (Str × Value)) (m : Str → Option Value), x ∉ l.map (·.1) → bindL kd l m x = m x
  | [], m, _ => rfl
  | (n, v) :: r, m, h => by
    unfold bindL
    rw [bindL_keep kd x r _ fun q => h (.tail _ q)]
    split
    · show (if x = n then some v else m x) = m x
      rw [if_neg fun q => h (by rw [q]; exact .head _)]
    · rfl
theorem bindC_keep (kd : Str → Option NameKind) (x : Str) : ∀ (l : List (Str × Value)) (m : Str → Option Value), x ∉ l.map (·.1) → bindC kd l m x = m x
  | [], m, _ => rfl
  | (n, v) :: r, m, h => by
    unfold bindC
    rw [bindC_keep kd x r _ fun q => h (.tail _ q)]
    split
    · rfl
    · show (if x = n then some v else m x) = m x
      rw [if_neg fun q => h (by rw [q]; exact .head _)]
theorem bindL_at (kd : Str → Option NameKind) (x : Str) (v : Value) : ∀ (l : List (Str × Value)) (m : Str → Option Value), (l.map (·.1)).Nodup → (x, v) ∈ l → kd x = some .local → bindL kd l m x = some v
  | (n, u) :: r, m, hn, hm, hk => by
    unfold bindL
    have hn' := List.nodup_cons.mp hn
    cases hm with
    | head => rw [bindL_keep kd x r _ hn'.1, if_pos hk, if_pos rfl]
    | tail _ hm => exact bindL_at kd x v r _ hn'.2 hm hk
theorem bindC_at (kd : Str → Option NameKind) (x : Str) (v : Value) : ∀ (l : List (Str × Value)) (m : Str → Option Value), (l.map (·.1)).Nodup → (x, v) ∈ l → kd x = some .cell → bindC kd l m x = some v
  | (n, u) :: r, m, hn, hm, hk => by
    unfold bindC
    have hn' := List.nodup_cons.mp hn
    cases hm with
    | head => rw [bindC_keep kd x r _ hn'.1, if_neg (by rw [hk]; decide), if_pos rfl]
    | tail _ hm => exact bindC_at kd x v r _ hn'.2 hm hk

theorem rho_some : ∀ {b : Binds} {x : Str} {e : Ent}, b.rho x = some e → ∃ v, (x, v, e) ∈ b
  | [], _, _, h => by cases h
  | t :: r, x, e, h => by
    unfold Binds.rho upd at h
    split at h
    · rename_i hx; cases h; subst hx; exact ⟨t.2.1, .head _⟩
    · obtain ⟨v, hv⟩ := rho_some h; exact ⟨v, .tail _ hv⟩

/-- D with one more -/
def Plus (D : Addr → Prop) (a : Addr) : Addr → Prop := fun b => D b ∨ b = a

theorem plus_wide {h : Heap} {a : Addr} (e : h.get? a = none) : ∀ b o, h.get? b = some o → Plus D a b → D b := fun b o q d => d.elim id fun x => by rw [x, e] at q; cases q

/-- the frame that a call opens -/
theorem frame_new {scope : Scope} {a : Addr} {cd : Value} {name : Str} {b : Binds} {env : Env} {s' : Shared} (hk : scope.kind = .function)
    (he : env = newEnv scope s.heap.objs.size mainGlobals (cellsFrom (s.heap.objs.size + 1) scope.names []) (name ++ ".<locals>.") (some a) cd none builtinsNs)
    (x : InCallC s env.locals (bindL env.kindOf b.plain fun _ => none) env.cells (bindC env.kindOf b.plain fun _ => none) s')
    (hn : (b.map (·.1)).Nodup) (hloc : ∀ t ∈ b, scope.names.lookup t.1 = some .local ∨ (scope.names.lookup t.1 = some .cell ∧ ((cellsFrom (s.heap.objs.size + 1) scope.names []).lookup t.1).isSome = true)) (ht : ∀ t ∈ b, t.2.2.T.is D s.heap t.2.1 t.2.2.y)
    (hg : Sub g s.heap) (hl : Live D s.heap) (hfr : ∀ y ∈ scope.names, y.2 ≠ .free) : Ex g s (Plus D env.locals) env s' b.rho := by
  have hL : env.locals = s.heap.objs.size := by rw [he]; rfl
  have hfresh : s.heap.get? env.locals = none := by
    rw [hL]
    cases e : s.heap.get? s.heap.objs.size with
    | none => rfl
    | some o => exact absurd (Heap.lt_size e) (Nat.lt_irrefl _)
  obtain ⟨h₁, tk, rfl, hk₁⟩ := x.done
  have kp : Keeps s { s with heap := h₁, toks := tk } := ⟨h₁, tk, rfl, hk₁⟩
  have hsc : env.scope = scope := by rw [he]; rfl
  have hkd : ∀ z, env.kindOf z = scope.names.lookup z := fun z => by unfold Env.kindOf; rw [hsc]
  have hpl : (b.plain.map (·.1)).Nodup := by
    have : b.plain.map (·.1) = b.map (·.1) := by unfold Binds.plain; rw [List.map_map]; rfl
    rw [this]; exact hn
  refine ⟨hg, kp, ?_, ?_⟩
  · intro c d
    rcases d with d | rfl
    · obtain ⟨o, e⟩ := hl c d
      exact ⟨o, hk₁ c o e⟩
    · obtain ⟨o, _, _, e, _⟩ := x.toInCall.ns
      exact ⟨o, e⟩
  · refine ⟨by rw [hsc]; exact hk, ⟨_, x.toInCall.ns⟩, hfresh, .inr rfl, fun z c e => ⟨_, x.cell z c e⟩, fun z y c e e' => name_of_addr x.apart (mem_of_lookup e) (mem_of_lookup e'), fun z q => ?_, by rw [he]; exact ⟨rfl, rfl⟩, fun z e hz => ?_⟩
    · rw [hkd] at q
      rcases q with q | q
      · have := cellsFrom_some scope.names (s.heap.objs.size + 1) [] (x := z) (.inl q)
        obtain ⟨c, hc⟩ := Option.isSome_iff_exists.mp this
        exact ⟨c, by rw [he]; exact hc⟩
      · exact absurd rfl (hfr _ (mem_of_lookup q))
    obtain ⟨v, hv⟩ := rho_some hz
    have hvp : (z, v) ∈ b.plain := List.mem_map.mpr ⟨(z, v, e), hv, rfl⟩
    refine ⟨v, ?_, e.T.mono (keeps_le kp _) (e.T.wide (plus_wide hfresh) (ht _ hv))⟩
    rcases hloc _ hv with q | ⟨q, q'⟩
    · exact .inl ⟨(hkd z).trans q, _, x.toInCall.ns, bindL_at _ _ _ _ _ hpl hvp ((hkd z).trans q)⟩
    · obtain ⟨c, hc⟩ := Option.isSome_iff_exists.mp q'
      have hc' : env.cells.lookup z = some c := by rw [he]; exact hc
      have := x.cell z c hc'
      rw [bindC_at _ _ _ _ _ hpl hvp ((hkd z).trans q)] at this
      exact .inr ⟨.inl ((hkd z).trans q), c, hc', this⟩

/-- a call of a module's function, by a walk of its body -/
theorem hs_fn {name : Str} {params : Arguments} {body : List Stmt} {scope : Scope} {f : Value} {k : Nat} {P : Heap → Value → Prop} (W : Wd g mg mb) (hg : Sub g s.heap) (F : FnAt g mg name params body scope f) (R : Rm A (k + 1))
    (b : Binds) (hbind : ∀ pm cd doc, bindArgs (docDef name params body scope pm cd doc) ⟨b.map (·.2.1), []⟩ = pure b.plain)
    (ht : ∀ t ∈ b, t.2.2.T.is D s.heap t.2.1 t.2.2.y)
    (h : ∀ s₁ env a cd, Keeps s s₁ → env = newEnv scope s₁.heap.objs.size mainGlobals (cellsFrom (s₁.heap.objs.size + 1) scope.names []) (name ++ ".<locals>.") (some a) cd none builtinsNs → Rm (A.deeper env) k →
      ∀ s₂, Ex g s₁ (Plus D env.locals) env s₂ b.rho →
      wpAny (model prog w) (A.deeper env) (execs body env) (fun fl s' => Keeps s₁ s' ∧ P s'.heap (match fl with | .ret v => v | _ => .none)) NE s₂)
    (hn : (b.map (·.1)).Nodup := by decide)
    (hloc : ∀ n, ∀ t ∈ b, scope.names.lookup t.1 = some .local ∨ (scope.names.lookup t.1 = some .cell ∧ ((cellsFrom n scope.names []).lookup t.1).isSome = true))
    (hfr : ∀ y ∈ scope.names, y.2 ≠ .free)
    (hco : scope.isCoroutine = false := by rfl) (hgen : scope.isGenerator = false := by rfl) (hk : scope.kind = .function := by rfl) :
    Hs prog w A D s (call f (b.map (·.2.1))) P := fun s' kp l => by
  obtain ⟨a, o, pm, cd, doc, rfl, ho, hd, hcd⟩ := F.fn
  have hgs : Sub g s'.heap := sub_keeps hg kp
  refine wpAny_call (codeAny_call_function (by have := R.depth; show A.depth < 1000; omega) (hgs _ _ ho) hd hco hgen rfl (by
    obtain ⟨c, oc, vs, t, e1, e2, e3, e4⟩ := hcd
    exact ⟨c, oc, vs, t, e1, hgs _ _ e2, e3, e4⟩) ?_)
  rw [hbind]
  refine wpAny_pure (wpAny_newFunctionEnv_cells hk (fun t ht => ?_) fun env he s₂ x => ?_)
  · obtain ⟨t', ht', rfl⟩ := List.mem_map.mp ht
    exact hloc _ t' ht'
  · have X : Ex g s' (Plus D env.locals) env s₂ b.rho := frame_new hk he x hn (hloc _) (fun t m => t.2.2.T.mono (keeps_le kp D) (ht t m)) hgs l hfr
    refine ⟨(W.lim.keeps hgs).keeps fun b o e => keeps_get X.kp e, codeAny_func ?_⟩
    refine wpAny_mono (h s' env a cd kp he (R.deeper env) s₂ X) (fun fl s'' q => ?_) fun _ _ e => e.elim
    exact q

end
end Mine

end
section

open PySem PySem.W PyProof.Rows PySem.Calls
namespace Mine

theorem are_list {α : Type} {T : Ty α} {D : Addr → Prop} {h : Heap} : ∀ {xs : List α} {vs : List Value}, Are D h vs (xs.map fun x => ⟨T, x⟩) → Paired (T.is D h) vs xs
  | [], _, a => by cases a; exact .nil
  | x :: xs, _, a => by cases a with | cons q r => exact .cons q (are_list r)

theorem isList_of {h : Heap} {p : Addr} {i : Array Value} {n : Nat} (e : h.get? p = some (lstObj i n)) : h.IsList p i := ⟨_, e, rfl, n, rfl⟩
theorem isTuple_of {h : Heap} {p : Addr} {i : Array Value} {n : Nat} (e : h.get? p = some (tupObj i n)) : h.IsTuple p i := ⟨_, e, rfl, n, rfl⟩

section
variable {prog : Program} {w : World} {A : Around} {D : Addr → Prop} {s s₁ s₀ : Shared} {g : Heap} {env : Env} {ρ : Rho} {mg mb : Str → Option Value}

/-- a value that names a list made by this very step -/
def NewList (D : Addr → Prop) {α : Type} (T : Ty α) (s : Shared) (h : Heap) (v : Value) (xs : List α) : Prop :=
  ∃ p n vs, v = .ref p ∧ s.heap.get? p = none ∧ h.get? p = some (lstObj (List.toArray vs) n) ∧ Paired (T.is D h) vs xs

/-- a list made since s₀ -/
def tNew (s₀ : Shared) {α : Type} (T : Ty α) : Ty (List α) where
  is D h v xs := ∃ p n vs, v = .ref p ∧ ¬ D p ∧ h.get? p = some (lstObj (List.toArray vs) n) ∧ Paired (T.is D h) vs xs ∧ s₀.heap.get? p = none
  mono := fun k ⟨p, n, vs, e, d, g, a, z⟩ => ⟨p, n, vs, e, d, k _ _ d (firm_lst _ _) g, paired_mono (fun _ _ => T.mono k) a, z⟩
  wide := fun k ⟨p, n, vs, e, d, g, a, z⟩ => ⟨p, n, vs, e, fun q => d (k _ _ g q), g, paired_mono (fun _ _ => T.wide k) a, z⟩
theorem tNew_old {s₀ : Shared} {α : Type} {T : Ty α} {D : Addr → Prop} {h : Heap} {v : Value} {xs : List α} (x : (tNew s₀ T).is D h v xs) : (tList T).is D h v xs :=
  let ⟨p, n, vs, e, d, g, a, _⟩ := x; ⟨p, n, vs, e, d, g, a⟩
theorem keeps_none {a b : Shared} (k : Keeps a b) {p : Addr} (e : b.heap.get? p = none) : a.heap.get? p = none := by
  cases q : a.heap.get? p with
  | none => rfl
  | some o => rw [keeps_get k q] at e; cases e
theorem Has.old {α : Type} {T : Ty α} {t : Sem Value} {xs : List α} (h : Has prog w A D s t (tNew s T) xs) : Has prog w A D s t (tList T) xs := Hs.weak h fun _ _ _ x => tNew_old x

theorem none_size (h : Heap) : h.get? h.objs.size = none := by
  cases e : h.get? h.objs.size with
  | none => rfl
  | some o => exact absurd (Heap.lt_size e) (Nat.lt_irrefl _)

theorem has_newlistT {es : List Expr} {pos : Pos} {α : Type} {T : Ty α} {xs : List α} (h : HsL prog w A D s pos env es (xs.map fun x => ⟨T, x⟩)) (hsz : xs.length ≤ 1000) :
    Has prog w A D s (eval (.List es pos) env) (tNew s T) xs := fun s' k l =>
  List_ (wpAny_mono (h s' k l) (fun vs s₁ a => by
    have hp := are_list a.2
    have hl : vs.length ≤ 1000 := by rw [hp.length]; exact hsz
    refine wpAny_newList ⟨keeps_trans a.1 (keeps_push _ _), _, 0, vs, rfl, live_fresh (live_keeps l a.1), Heap.get?_push_size _ rfl, paired_mono (fun _ _ q => T.mono (keeps_le (keeps_push s₁ _) D) q) hp, keeps_none (keeps_trans k a.1) (none_size _)⟩ (Nat.le_trans hl (by rw [sizeLine_eq]; decide))) fun _ _ e => e)
theorem has_newlist {es : List Expr} {pos : Pos} {α : Type} {T : Ty α} {xs : List α} (h : HsL prog w A D s pos env es (xs.map fun x => ⟨T, x⟩)) (hsz : xs.length ≤ 1000) :
    Has prog w A D s (eval (.List es pos) env) (tList T) xs := (has_newlistT h hsz).old
theorem has_list0 {pos : Pos} {α : Type} (T : Ty α) : Has prog w A D s (eval (.List [] pos) env) (tList T) [] := has_newlist (xs := []) hsl_nil (by simp)
theorem has_list1 {pos : Pos} {e : Expr} {α : Type} {T : Ty α} {x : α} (he : Has prog w A D s (eval e env) T x) (hp : starEach [e] env = (false, eval e env) :: starEach [] env := by rfl) : Has prog w A D s (eval (.List [e] pos) env) (tList T) [x] :=
  has_newlist (xs := [x]) (hsl_cons he hsl_nil hp) (by simp)

theorem has_tuple2 {a b : Expr} {k : Nat} {pos : Pos} {α β : Type} {T : Ty α} {U : Ty β} {x : α} {y : β} (ha : Has prog w A D s (eval a env) T x) (hb : Has prog w A D s (eval b env) U y)
    (hp : starEach [a, b] env = [(false, eval a env), (false, eval b env)] := by rfl) : Has prog w A D s (eval (.Tuple [a, b] k pos) env) (tPair T U) (x, y) := fun s' k' l =>
  have hl : HsL prog w A D s pos env [a, b] [⟨T, x⟩, ⟨U, y⟩] := by
    have h1 : starEach [b] env = [(false, eval b env)] := by
      have := hp
      have e1 : ∃ c, starEach [a, b] env = c :: starEach [b] env := by cases a <;> exact ⟨_, rfl⟩
      obtain ⟨c, e1⟩ := e1
      rw [e1] at this
      exact (List.cons.inj this).2
    exact hsl_cons ha (hsl_cons hb hsl_nil h1) (by rw [hp, h1])
  Tuple_ (wpAny_mono (hl s' k' l) (fun vs s₁ q => by
    obtain ⟨u, v, rfl, hu, hv⟩ := q.2.two
    refine wpAny_newTuple ⟨keeps_trans q.1 (keeps_push _ _), _, 0, u, v, rfl, live_fresh (live_keeps l q.1), Heap.get?_push_size _ rfl, T.mono (keeps_le (keeps_push s₁ _) D) hu, U.mono (keeps_le (keeps_push s₁ _) D) hv⟩ (by rw [sizeLine_eq]; simp)) fun _ _ e => e)

-- subscripts
theorem hs_sub {value slice : Expr} {pos : Pos} {α β : Type} {T : Ty α} {U : Ty β} {x : α} {y : β} {P : Heap → Value → Prop} (ha : Has prog w A D s (eval value env) T x) (hb : Has prog w A D s (eval slice env) U y)
    (h : ∀ s₁ u v, Keeps s s₁ → T.is D s₁.heap u x → U.is D s₁.heap v y → Hs prog w A D s₁ (subscriptTail value slice u v) P) : Hs prog w A D s (eval (.Subscript value slice pos) env) P :=
  fun s' k L => Subscript_ (wpAny_mono (ha s' k L) (fun u s₁ a => wpAny_mono (hb s₁ (keeps_trans k a.1) (live_keeps L a.1)) (fun v s₂ b =>
    wpAny_mono (h s₂ u v (keeps_trans k (keeps_trans a.1 b.1)) (T.mono (keeps_le b.1 D) a.2) b.2 s₂ (keeps_refl _) (live_keeps L (keeps_trans a.1 b.1)))
      (fun _ _ c => ⟨keeps_trans (keeps_trans a.1 b.1) c.1, c.2⟩) fun _ _ e => e) fun _ _ e => e) fun _ _ e => e)

/-- xs[i], i in bounds -/
theorem has_item {n : Str} {pn pos : Pos} {slice : Expr} {α : Type} {T : Ty α} {xs : List α} {i : Int} {y : α} (ha : Has prog w A D s (eval (.Name n pn) env) (tList T) xs) (hb : Has prog w A D s (eval slice env) tInt i)
    (h0 : 0 ≤ i) (hhi : i < 2 ^ 63) (hy : xs[i.toNat]? = some y) (hs : ∀ o k t, subscripted slice false (.ref o) (.int k t) = operate [.ref o, .int k t] (getItem (.ref o) (.int k t)) := by intro _ _ _; with_unfolding_all rfl) :
    Has prog w A D s (eval (.Subscript (.Name n pn) slice pos) env) T y :=
  hs_sub ha hb fun s₁ u v k hu hv => by
    obtain ⟨p, m, vs, rfl, hd, hg, hp⟩ := hu
    obtain ⟨t, rfl⟩ := hv
    obtain ⟨x, hx, hx'⟩ := paired_get hp _ _ hy
    exact Hs.of fun s' Q k' l q => subscriptTail_builtin (isList_of (keeps_get k' hg)).typeIs slot_list_getitem.lookup (wpAny_getItem_list (isList_of (keeps_get k' hg)) h0 hhi (by simpa using hx) (q _ _ (keeps_refl _) (T.mono (keeps_le k' D) hx'))) (hs _ _ _)

theorem paired_len {α β : Type} {F : α → β → Prop} {a : List α} {b : List β} (h : Paired F a b) : a.length = b.length := h.length

/-- xs[-1] -/
theorem has_last {n : Str} {pn pos : Pos} {slice : Expr} {α : Type} {T : Ty α} {xs : List α} {y : α} (ha : Has prog w A D s (eval (.Name n pn) env) (tList T) xs) (hb : Has prog w A D s (eval slice env) tInt (-1))
    (hy : xs.getLast? = some y) (hs : ∀ o k t, subscripted slice false (.ref o) (.int k t) = operate [.ref o, .int k t] (getItem (.ref o) (.int k t)) := by intro _ _ _; with_unfolding_all rfl) :
    Has prog w A D s (eval (.Subscript (.Name n pn) slice pos) env) T y :=
  hs_sub ha hb fun s₁ u v k hu hv => by
    obtain ⟨p, m, vs, rfl, hd, hg, hp⟩ := hu
    obtain ⟨t, rfl⟩ := hv
    have hl := hp.length
    rw [List.getLast?_eq_getElem?] at hy
    have hpos : 0 < xs.length := by
      cases xs with
      | nil => simp at hy
      | cons _ _ => simp
    obtain ⟨x, hx, hx'⟩ := paired_get hp _ _ hy
    have e : ((-1 : Int) + ((List.toArray vs).size : Int)).toNat = xs.length - 1 := by rw [List.size_toArray, hl]; omega
    exact Hs.of fun s' Q k' l q => subscriptTail_builtin (isList_of (keeps_get k' hg)).typeIs slot_list_getitem.lookup (wpAny_getItem_list_neg (isList_of (keeps_get k' hg)) (by decide) (by rw [List.size_toArray, hl]; omega) (by decide) (by rw [e]; simpa using hx)
      (q _ _ (keeps_refl _) (T.mono (keeps_le k' D) hx'))) (hs _ _ _)

/-- pair[0], pair[1] -/
theorem has_fst {n : Str} {pn pos : Pos} {slice : Expr} {α β : Type} {T : Ty α} {U : Ty β} {p : α × β} (ha : Has prog w A D s (eval (.Name n pn) env) (tPair T U) p) (hb : Has prog w A D s (eval slice env) tInt 0)
    (hs : ∀ o k t, subscripted slice false (.ref o) (.int k t) = operate [.ref o, .int k t] (getItem (.ref o) (.int k t)) := by intro _ _ _; with_unfolding_all rfl) :
    Has prog w A D s (eval (.Subscript (.Name n pn) slice pos) env) T p.1 :=
  hs_sub ha hb fun s₁ u v k hu hv => by
    obtain ⟨q, m, a, b, rfl, hd, hg, hx, hy⟩ := hu
    obtain ⟨t, rfl⟩ := hv
    refine Hs.of fun s' Q k' l r => ?_
    have ht : IsTup s'.heap q #[a, b] := ⟨_, keeps_get k' hg, rfl, m, rfl⟩
    exact subscriptTail_builtin (T := "tuple") ⟨_, keeps_get k' hg, rfl⟩ slot_tuple_getitem.lookup (PyProof.Rows.getItem_tuple (j := 0) ht (by decide) (by decide) (by show seqIndex? 0 2 = some 0; decide) rfl (r _ _ (keeps_refl _) (T.mono (keeps_le k' D) hx))) (hs _ _ _)
theorem has_snd {n : Str} {pn pos : Pos} {slice : Expr} {α β : Type} {T : Ty α} {U : Ty β} {p : α × β} (ha : Has prog w A D s (eval (.Name n pn) env) (tPair T U) p) (hb : Has prog w A D s (eval slice env) tInt 1)
    (hs : ∀ o k t, subscripted slice false (.ref o) (.int k t) = operate [.ref o, .int k t] (getItem (.ref o) (.int k t)) := by intro _ _ _; with_unfolding_all rfl) :
    Has prog w A D s (eval (.Subscript (.Name n pn) slice pos) env) U p.2 :=
  hs_sub ha hb fun s₁ u v k hu hv => by
    obtain ⟨q, m, a, b, rfl, hd, hg, hx, hy⟩ := hu
    obtain ⟨t, rfl⟩ := hv
    refine Hs.of fun s' Q k' l r => ?_
    have ht : IsTup s'.heap q #[a, b] := ⟨_, keeps_get k' hg, rfl, m, rfl⟩
    exact subscriptTail_builtin (T := "tuple") ⟨_, keeps_get k' hg, rfl⟩ slot_tuple_getitem.lookup (PyProof.Rows.getItem_tuple (j := 1) ht (by decide) (by decide) (by show seqIndex? 1 2 = some 1; decide) rfl (r _ _ (keeps_refl _) (U.mono (keeps_le k' D) hy))) (hs _ _ _)

-- equality of data
def EqOk {α : Type} [DecidableEq α] (T : Ty α) : Prop :=
  (∀ {A : Around} {D : Addr → Prop} {s : Shared} {u v : Value} {x y : α}, A.units ≤ 9500 → T.is D s.heap u x → T.is D s.heap v y → SeqAt.EqAt A s u v (decide (x = y))) ∧
  (∀ {D : Addr → Prop} {h : Heap} {v : Value} {x y : α}, T.is D h v x → T.is D h v y → x = y)
theorem eqOk_int : EqOk tInt := by
  refine ⟨fun hu a b => ?_, fun a b => ?_⟩
  · obtain ⟨t, rfl⟩ := a
    obtain ⟨u, rfl⟩ := b
    intro prog w E Q q
    exact wpAny_eqBool_int q
  · obtain ⟨t, rfl⟩ := a
    obtain ⟨u, e⟩ := b
    cases e; rfl
theorem eqv_pair (a b c d : Int) : PyData.eqv (.tuple [.int a, .int b]) (.tuple [.int c, .int d]) = decide ((a, b) = (c, d)) := by
  simp [PyData.eqv, PyData.eqvAll, Prod.ext_iff, Bool.decide_and]
  rfl
abbrev tEdge : Ty (Int × Int) := tPair tInt tInt
theorem reads_edge {D : Addr → Prop} {h : Heap} {v : Value} {x : Int × Int} (a : tEdge.is D h v x) : ∃ as, Reads h v (.tuple [.int x.1, .int x.2]) as := by
  obtain ⟨p, n, u, w, rfl, _, hg, ⟨t, rfl⟩, ⟨t', rfl⟩⟩ := a
  exact ⟨_, .tuple hg rfl rfl (.cons (.int _ _) (.cons (.int _ _) .nil))⟩
theorem eqOk_edge : EqOk tEdge := by
  refine ⟨fun {A D s u v x y} hu a b => ?_, fun a b => ?_⟩
  · obtain ⟨as, ra⟩ := reads_edge a
    obtain ⟨bs, rb⟩ := reads_edge b
    have := SeqAt.eqAt_reads _ _ A s u v as bs ra rb rfl rfl (by
      show A.units + min 1 1 < cLine
      have : cLine = 9900 := rfl
      omega)
    rw [eqv_pair] at this
    exact this
  · obtain ⟨p, n, u, w, rfl, _, hg, ⟨t, e0⟩, ⟨t', e1⟩⟩ := a
    obtain ⟨p', n', u', w', e, _, hg', ⟨t2, e2⟩, ⟨t3, e3⟩⟩ := b
    cases e
    rw [hg] at hg'
    cases hg'
    rw [e0] at e2
    rw [e1] at e3
    exact Prod.ext (Value.int.inj e2).1 (Value.int.inj e3).1

end
end Mine

end
section

open PySem PySem.W PyProof.Rows PySem.Calls
namespace Mine
section
variable {prog : Program} {w : World} {A : Around} {D : Addr → Prop} {s s₁ s₀ : Shared} {g : Heap} {env : Env} {ρ : Rho} {mg mb : Str → Option Value}

theorem cLine_9900 : cLine = 9900 := rfl

/-- a list against a written empty one -/
theorem cmp_eq_nil {α β : Type} {T : Ty α} {U : Ty β} {xs : List α} {u v : Value} (hr : A.units ≤ 9500) (hu : (tList T).is D s₁.heap u xs) (hv : (tList U).is D s₁.heap v []) : Has prog w A D s₁ (compareOp .Eq u v) tBool xs.isEmpty := by
  obtain ⟨p, n, vs, rfl, _, hg, hp⟩ := hu
  obtain ⟨q, m, us, rfl, _, hg', hp'⟩ := hv
  have hl := hp.length
  have hl' := hp'.length
  have hus : us = [] := by simpa using hl'
  subst hus
  have := cLine_9900
  refine Hs.of fun s' Q k l h => ?_
  have h1 := isList_of (keeps_get k hg)
  have h2 := isList_of (keeps_get k hg')
  cases xs with
  | nil =>
    have hvs : vs = [] := by simpa using hl
    subst hvs
    exact SeqAt.eq_listAt (e := fun _ => true) h1 h2 rfl (by omega) (fun j a _ => absurd a (by simp)) (h _ _ (keeps_refl _) rfl)
  | cons x xs =>
    cases vs with
    | nil => simp at hl
    | cons y ys => exact SeqAt.eq_list_lengthsAt h1 h2 (by simp) (by omega) (h _ _ (keeps_refl _) rfl)
theorem cmp_ne_nil {α β : Type} {T : Ty α} {U : Ty β} {xs : List α} {u v : Value} (hr : A.units ≤ 9500) (hu : (tList T).is D s₁.heap u xs) (hv : (tList U).is D s₁.heap v []) : Has prog w A D s₁ (compareOp .NotEq u v) tBool (!xs.isEmpty) := by
  obtain ⟨p, n, vs, rfl, _, hg, hp⟩ := hu
  obtain ⟨q, m, us, rfl, _, hg', hp'⟩ := hv
  have hl := hp.length
  have hl' := hp'.length
  have hus : us = [] := by simpa using hl'
  subst hus
  have := cLine_9900
  refine Hs.of fun s' Q k l h => ?_
  have h1 := isList_of (keeps_get k hg)
  have h2 := isList_of (keeps_get k hg')
  cases xs with
  | nil =>
    have hvs : vs = [] := by simpa using hl
    subst hvs
    exact SeqAt.RcNeAt.lists (e := fun _ => true) h1 h2 rfl (by omega) (fun j a _ => absurd a (by simp)) prog w _ _ (h _ _ (keeps_refl _) rfl)
  | cons x xs =>
    cases vs with
    | nil => simp at hl
    | cons y ys => exact SeqAt.RcNeAt.lists_lengths h1 h2 (by simp) (by omega) prog w _ _ (h _ _ (keeps_refl _) rfl)

theorem cmp_ne_edge {x y : Int × Int} {u v : Value} (hr : A.units ≤ 9500) (hu : tEdge.is D s₁.heap u x) (hv : tEdge.is D s₁.heap v y) : Has prog w A D s₁ (compareOp .NotEq u v) tBool (!decide (x = y)) := by
  refine Hs.of fun s' Q k l h => ?_
  obtain ⟨as, ra⟩ := reads_edge (tEdge.mono (keeps_le k D) hu)
  obtain ⟨bs, rb⟩ := reads_edge (tEdge.mono (keeps_le k D) hv)
  have := cLine_9900
  have hq := h (.bool (!PyData.eqv (.tuple [.int x.1, .int x.2]) (.tuple [.int y.1, .int y.2]))) s' (keeps_refl _) (by rw [eqv_pair]; rfl)
  exact SeqAt.compareNe_reads ra rb rfl rfl (by show A.units + min 1 1 < cLine; omega) hq

open Classical in
theorem any_items {α : Type} [DecidableEq α] {T : Ty α} (hT : EqOk T) {h : Heap} {x : α} : ∀ {vs : List Value} {xs : List α}, Paired (T.is D h) vs xs → vs.any (fun y => decide (T.is D h y x)) = xs.any (fun y => decide (y = x))
  | [], [], _ => rfl
  | v :: vs, y :: ys, .cons a r => by
    rw [List.any_cons, List.any_cons, any_items hT r]
    congr 1
    by_cases e : y = x
    · subst e; simp [a]
    · have : ¬ T.is D h v x := fun b => e (hT.2 a b)
      simp [e, this]

theorem paired_mem {α β : Type} {F : α → β → Prop} {l₁ : List α} {l₂ : List β} (h : Paired F l₁ l₂) : ∀ a ∈ l₁, ∃ b ∈ l₂, F a b := by
  induction h with
  | nil => intro a m; cases m
  | cons q _ ih =>
    intro a m
    cases m with
    | head => exact ⟨_, .head _, q⟩
    | tail _ m => obtain ⟨b, hb, f⟩ := ih a m; exact ⟨b, .tail _ hb, f⟩

open Classical in
theorem items_at {α : Type} [DecidableEq α] {T : Ty α} (hT : EqOk T) {s : Shared} {x : α} {u : Value} {vs : List Value} {xs : List α} (hr : A.units ≤ 9500) (hp : Paired (T.is D s.heap) vs xs) (hu : T.is D s.heap u x) :
    ∀ y, y ∈ vs.toArray → SeqAt.EqAt A s y u (decide (T.is D s.heap y x)) := fun y hy => by
  obtain ⟨z, _, hz⟩ := paired_mem hp y (by simpa using hy)
  have := hT.1 hr hz hu
  by_cases e : z = x
  · subst e
    simpa [hz] using this
  · have ne : ¬ T.is D s.heap y x := fun b => e (hT.2 hz b)
    simpa [e, ne] using this

open Classical in
theorem cmp_in {α : Type} [DecidableEq α] {T : Ty α} (hT : EqOk T) {x : α} {xs : List α} {u v : Value} (hr : A.units ≤ 9000) (hu : T.is D s₁.heap u x) (hv : (tList T).is D s₁.heap v xs) : Has prog w A D s₁ (compareOp .In u v) tBool (xs.any fun y => decide (y = x)) := by
  obtain ⟨p, n, vs, rfl, _, hg, hp⟩ := hv
  refine Hs.of fun s' Q k l h => ?_
  have hp' := paired_mono (fun _ _ => T.mono (keeps_le k D)) hp
  refine SeqAt.in_listAt (fun y => decide (T.is D s'.heap y x)) (isList_of (keeps_get k hg)) (items_at (A := A.in1) hT (by show A.units + 1 ≤ 9500; omega) hp' (T.mono (keeps_le k D) hu)) ?_
  rw [List.any_toArray, any_items hT hp']
  exact h _ _ (keeps_refl _) rfl
open Classical in
theorem cmp_notin {α : Type} [DecidableEq α] {T : Ty α} (hT : EqOk T) {x : α} {xs : List α} {u v : Value} (hr : A.units ≤ 9000) (hu : T.is D s₁.heap u x) (hv : (tList T).is D s₁.heap v xs) : Has prog w A D s₁ (compareOp .NotIn u v) tBool (!xs.any fun y => decide (y = x)) := by
  obtain ⟨p, n, vs, rfl, _, hg, hp⟩ := hv
  refine Hs.of fun s' Q k l h => ?_
  have hp' := paired_mono (fun _ _ => T.mono (keeps_le k D)) hp
  refine SeqAt.notIn_listAt (fun y => decide (T.is D s'.heap y x)) (isList_of (keeps_get k hg)) (items_at (A := A.in1) hT (by show A.units + 1 ≤ 9500; omega) hp' (T.mono (keeps_le k D) hu)) ?_
  rw [List.any_toArray, any_items hT hp']
  exact h _ _ (keeps_refl _) rfl

-- lists put together
theorem has_addlist {l r : Expr} {pos : Pos} {α : Type} {T : Ty α} {xs ys : List α} (ha : Has prog w A D s (eval l env) (tList T) xs) (hb : Has prog w A D s (eval r env) (tList T) ys) (hsz : xs.length + ys.length ≤ 1000) :
    Has prog w A D s (eval (.BinOp l .Add r pos) env) (tList T) (xs ++ ys) :=
  hs_binop ha hb fun s₁ u v _ hu hv => by
    obtain ⟨p, n, vs, rfl, hd, hg, hp⟩ := hu
    obtain ⟨q, m, us, rfl, hd', hg', hp'⟩ := hv
    refine Hs.of fun s' Q k l h => ?_
    have hz : (List.toArray vs).size + (List.toArray us).size ≤ sizeLine := by
      rw [List.size_toArray, List.size_toArray, hp.length, hp'.length, sizeLine_eq]; omega
    refine P.add_list (keeps_get k hg) (keeps_get k hg') (h _ _ (keeps_push _ _) ⟨_, 0, vs ++ us, rfl, live_fresh l, by rw [Heap.get?_push_size _ rfl]; simp, ?_⟩) hz
    have kk := keeps_trans k (keeps_push s' { cls := .type "list", data := .seq (vs.toArray ++ us.toArray) })
    exact paired_append (paired_mono (fun _ _ => T.mono (keeps_le kk D)) hp) (paired_mono (fun _ _ => T.mono (keeps_le kk D)) hp')

-- built-in calls
variable {x : Str} {px pos : Pos}
theorem has_len {e : Expr} {α : Type} {T : Ty α} {xs : List α} (hf : Has prog w A D s (eval (.Name x px) env) tVal (.builtin "len")) (he : Has prog w A D s (eval e env) (tList T) xs) (hsz : xs.length ≤ 1000)
    (hp : starEach [e] env = (false, eval e env) :: starEach [] env := by rfl) (hst : ∀ e' ∈ [e], isStarred e' = false := by simp [isStarred]) : Has prog w A D s (eval (.Call (.Name x px) [e] [] pos) env) tInt xs.length :=
  hs_call hf (.inl fun _ h => nomatch h) (hsl_cons he hsl_nil hp) (fun s₁ vs k a => by
    obtain ⟨v, rfl, hv⟩ := a.one
    obtain ⟨p, n, vs, rfl, _, hg, hp⟩ := hv
    refine Hs.of fun s' Q k' l h => call_len_list (isList_of (keeps_get k' hg)) (by rw [List.size_toArray, hp.length]; omega) (h _ _ (keeps_toks _ _) ⟨s'.toks + 1, by rw [List.size_toArray, hp.length]⟩)) hst
theorem has_abs {e : Expr} {i : Int} (hf : Has prog w A D s (eval (.Name x px) env) tVal (.builtin "abs")) (he : Has prog w A D s (eval e env) tInt i)
    (hp : starEach [e] env = (false, eval e env) :: starEach [] env := by rfl) (hst : ∀ e' ∈ [e], isStarred e' = false := by simp [isStarred]) : Has prog w A D s (eval (.Call (.Name x px) [e] [] pos) env) tInt (if i < 0 then -i else i) :=
  hs_call hf (.inl fun _ h => nomatch h) (hsl_cons he hsl_nil hp) (fun s₁ vs k a => by
    obtain ⟨v, rfl, t, rfl⟩ := a.one
    exact Hs.of fun s' Q k' l h => call_abs_int fun u tk => h _ _ (keeps_toks _ _) ⟨u, rfl⟩) hst
theorem has_intb {e : Expr} {b : Bool} (hf : Has prog w A D s (eval (.Name x px) env) tVal (.type "int")) (he : Has prog w A D s (eval e env) tBool b)
    (hp : starEach [e] env = (false, eval e env) :: starEach [] env := by rfl) (hst : ∀ e' ∈ [e], isStarred e' = false := by simp [isStarred]) : Has prog w A D s (eval (.Call (.Name x px) [e] [] pos) env) tInt (if b then 1 else 0) :=
  hs_call hf (.inl fun _ h => nomatch h) (hsl_cons he hsl_nil hp) (fun s₁ vs k a => by
    obtain ⟨v, rfl, rfl⟩ := a.one
    exact Hs.of fun s' Q k' l h => call_int_bool (h _ _ (keeps_toks _ _) ⟨_, rfl⟩)) hst

theorem keeps_of_heap {s' : Shared} {h' : Heap} {tk : Nat} (hk : ∀ b o, s'.heap.get? b = some o → h'.get? b = some o) : Keeps s' { s' with heap := h', toks := tk } := ⟨h', tk, rfl, hk⟩

theorem has_min2 {a b : Expr} {i j : Int} (hh : A.handled = none) (hf : Has prog w A D s (eval (.Name x px) env) tVal (.builtin "min")) (ha : Has prog w A D s (eval a env) tInt i) (hb : Has prog w A D s (eval b env) tInt j)
    (hp : starEach [a, b] env = (false, eval a env) :: starEach [b] env := by rfl) (hp' : starEach [b] env = (false, eval b env) :: starEach [] env := by rfl) (hst : ∀ e' ∈ [a, b], isStarred e' = false := by simp [isStarred]) :
    Has prog w A D s (eval (.Call (.Name x px) [a, b] [] pos) env) tInt (if j < i then j else i) :=
  hs_call hf (.inl fun _ h => nomatch h) (hsl_cons ha (hsl_cons hb hsl_nil hp') hp) (fun s₁ vs k a => by
    obtain ⟨u, v, rfl, ⟨t, rfl⟩, ⟨t', rfl⟩⟩ := a.two
    exact Hs.of fun s' Q k' l h => min_two_ints hh fun h' tk hk => h _ _ (keeps_of_heap hk) (by split <;> exact ⟨_, rfl⟩)) hst
theorem has_max2 {a b : Expr} {i j : Int} (hh : A.handled = none) (hf : Has prog w A D s (eval (.Name x px) env) tVal (.builtin "max")) (ha : Has prog w A D s (eval a env) tInt i) (hb : Has prog w A D s (eval b env) tInt j)
    (hp : starEach [a, b] env = (false, eval a env) :: starEach [b] env := by rfl) (hp' : starEach [b] env = (false, eval b env) :: starEach [] env := by rfl) (hst : ∀ e' ∈ [a, b], isStarred e' = false := by simp [isStarred]) :
    Has prog w A D s (eval (.Call (.Name x px) [a, b] [] pos) env) tInt (if j > i then j else i) :=
  hs_call hf (.inl fun _ h => nomatch h) (hsl_cons ha (hsl_cons hb hsl_nil hp') hp) (fun s₁ vs k a => by
    obtain ⟨u, v, rfl, ⟨t, rfl⟩, ⟨t', rfl⟩⟩ := a.two
    exact Hs.of fun s' Q k' l h => max_two_ints hh fun h' tk hk => h _ _ (keeps_of_heap hk) (by split <;> exact ⟨_, rfl⟩)) hst
end
end Mine

end
section

open PySem PySem.W PyProof.Rows PySem.Calls
namespace Mine

/-- a step that touches the objects of I alone -/
def StepI (I : List Addr) (s s' : Shared) : Prop := ∃ h' tk, s' = { s with heap := h', toks := tk } ∧ ∀ b o, b ∉ I → s.heap.get? b = some o → h'.get? b = some o
theorem stepI_get {I : List Addr} {s s' : Shared} (a : StepI I s s') {b : Addr} {o : Obj} (n : b ∉ I) (e : s.heap.get? b = some o) : s'.heap.get? b = some o := by
  obtain ⟨h, t, rfl, ha⟩ := a; exact ha b o n e
theorem stepI_same {a : Addr} {I : List Addr} {s : Shared} {h' : Heap} {tk : Nat} (hs : Heap.SameBut a s.heap h') (m : a ∈ I) : StepI I s { s with heap := h', toks := tk } :=
  ⟨h', tk, rfl, fun b o n e => (hs.2 b fun q => n (q ▸ m)).trans e⟩
theorem stepI_ext {a : Addr} {I : List Addr} {s : Shared} {h' : Heap} {tk : Nat} (hs : Heap.ExtBut a s.heap h') (m : a ∈ I) : StepI I s { s with heap := h', toks := tk } :=
  ⟨h', tk, rfl, fun b o n e => hs b o (fun q => n (q ▸ m)) e⟩

/-- an iterator: what it yet gives, and what a draw does -/
structure SrcF (prog : Program) (w : World) (A : Around) (D : Addr → Prop) {α : Type} (T : Ty α) (tg : Expr) (it : Value) (I : List Addr) (St : List α → Heap → Prop) : Prop where
  draw : ∀ {x : α} {xs : List α} {s : Shared} {Q : Value → Shared → Prop} {E : Value → Shared → Prop}, St (x :: xs) s.heap → Live D s.heap → (∀ v s', StepI I s s' → T.is D s'.heap v x → St xs s'.heap → Q v s') →
    wpAny (model prog w) A (pyNext it) (fun r s₁ => ∃ v, r = some v ∧ wpAny (model prog w) A (letOwnedTupleGo tg it v) (fun _ s₂ => Q v s₂) E s₁) E s
  fin : ∀ {s : Shared} {Q : Shared → Prop} {E : Value → Shared → Prop}, St [] s.heap → (∀ s', StepI I s s' → Q s') → wpAny (model prog w) A (pyNext it) (fun r s₁ => r = none ∧ Q s₁) E s
  frame : ∀ {xs : List α} {h h' : Heap}, St xs h → Le D h h' → (∀ a ∈ I, ∀ o, h.get? a = some o → h'.get? a = some o) → St xs h'
  here : ∀ {xs : List α} {h : Heap}, St xs h → ∀ a ∈ I, ∃ o vs, h.get? a = some o ∧ o.data = .fields vs
/-- such an iterator, one that «iter» hands back as it is -/
structure Src (prog : Program) (w : World) (A : Around) (D : Addr → Prop) {α : Type} (T : Ty α) (tg : Expr) (it : Value) (I : List Addr) (St : List α → Heap → Prop) : Prop extends SrcF prog w A D T tg it I St where
  self : ∀ {xs : List α} {s : Shared} {Q : Value → Shared → Prop} {E : Value → Shared → Prop}, St xs s.heap → Q it s → wpAny (model prog w) A (pyIter it) Q E s

theorem letOwned_list {prog : Program} {w : World} {A : Around} {s : Shared} {E : Value → Shared → Prop} {tg : Expr} {it : Addr} {v : Value} {Q : Unit → Shared → Prop} {n : String} {vs : Array Value} {o : Obj}
    (ho : s.heap.get? it = some o) (hc : o.cls = .type n) (hd : o.data = .fields vs) (hn : (["enumerate", "zip", "dict_itemiterator", "dict_reverseitemiterator", "odict_iterator", "itertools.zip_longest", "itertools.pairwise"] : List String).contains n = false)
    (h : Q () s) : wpAny (model prog w) A (letOwnedTupleGo tg (.ref it) v) Q E s := by
  have key : ∀ a, wpAny (model prog w) A (do
      let o ← load it
      match o.cls, o.data with
      | .type n, .fields vs =>
        if ["enumerate", "zip", "dict_itemiterator", "dict_reverseitemiterator", "odict_iterator", "itertools.zip_longest", "itertools.pairwise"].contains n && vs[0]? == some (rawInt a) then
          rule "for.unpacks-the-owned-tuple"
          updateField it 0 .none
      | _, _ => pure ()) Q E s := fun a => by
    refine wpAny_bind (wpAny_load ho ?_)
    rw [hc, hd]
    dsimp only
    rw [hn, Bool.false_and]
    exact wpAny_pure h
  unfold letOwnedTupleGo
  cases tg <;> first | exact wpAny_pure h | (cases v <;> first | exact wpAny_pure h | exact key _)

section
variable {prog : Program} {w : World} {A : Around} {D : Addr → Prop} {s s₁ s₀ : Shared} {g : Heap} {env : Env} {ρ : Rho} {mg mb : Str → Option Value}

/-- over a list that stands -/
def StList {α : Type} (T : Ty α) (D : Addr → Prop) (it : Addr) (xs : List α) (h : Heap) : Prop :=
  ∃ p n vs i, h.IsListIter it p i ∧ ¬ D p ∧ h.get? p = some (lstObj (List.toArray vs) n) ∧ Paired (T.is D h) (vs.drop i) xs

theorem src_list {α : Type} {T : Ty α} (hh : A.handled = none) (tg : Expr) (it : Addr) : Src prog w A D T tg (.ref it) [it] (StList T D it) where
  draw := fun {x xs s Q E} st l q => by
    obtain ⟨p, n, vs, i, hi, hd, hg, hp⟩ := st
    have hx : ∃ u, vs[i]? = some u ∧ T.is D s.heap u x := by
      obtain ⟨u, hu, hu'⟩ := paired_get hp 0 x rfl
      exact ⟨u, by simpa using hu, hu'⟩
    obtain ⟨u, hu, hu'⟩ := hx
    refine wpAny_pyNext_list_item hi (isList_of hg) (x := u) (by simpa using hu) fun h' hi' hs => ⟨u, rfl, ?_⟩
    have hne : p ≠ it := by
      rintro rfl
      obtain ⟨o, ho, _, hd'⟩ := hi
      rw [hg] at ho; cases ho; cases hd'
    have hle : Le D s.heap h' := le_of_sameBut hs (.inr fun o e f => by
      obtain ⟨o', ho', _, hd'⟩ := hi
      rw [e] at ho'; cases ho'
      unfold Firm at f; rw [hd'] at f; exact f)
    obtain ⟨o2, ho2, hc2, hd2⟩ := id hi'
    refine letOwned_list ho2 hc2 hd2 (by decide) (q u _ (stepI_same hs (.head _)) (T.mono hle hu') ⟨p, n, vs, i + 1, hi', hd, (hs.2 p hne).trans hg, ?_⟩)
    have := paired_drop hp 1
    rw [List.drop_drop] at this
    exact paired_mono (fun _ _ => T.mono hle) this
  fin := fun {s Q E} st q => by
    obtain ⟨p, n, vs, i, hi, hd, hg, hp⟩ := st
    have hl := hp.length
    refine wpAny_pyNext_list_end hh hi (isList_of hg) ?_ fun h' hs => ⟨rfl, q _ (stepI_ext hs (.head _))⟩
    simp only [List.length_drop, List.length_nil] at hl
    simp; omega
  frame := fun {xs h h'} st le keep => by
    obtain ⟨p, n, vs, i, ⟨o, ho, hc, hd'⟩, hd, hg, hp⟩ := st
    exact ⟨p, n, vs, i, ⟨o, keep _ (.head _) _ ho, hc, hd'⟩, hd, le _ _ hd (firm_lst _ _) hg, paired_mono (fun _ _ => T.mono le) hp⟩
  here := fun st a m => by
    obtain ⟨p, n, vs, i, ⟨o, ho, hc, hd'⟩, _⟩ := st
    cases m with
    | head => exact ⟨o, _, ho, hd'⟩
    | tail _ m => cases m
  self := fun st q => by
    obtain ⟨p, n, vs, i, hi, _⟩ := st
    exact wpAny_pyIter_listiter hi q

/-- over a range by ones -/
def rangeL (a : Int) : Nat → List Int
  | 0 => []
  | n + 1 => a :: rangeL (a + 1) n
def StRange (it : Addr) (xs : List Int) (h : Heap) : Prop := ∃ a n, IsRangeIter h it a (n : Nat) 1 ∧ xs = rangeL a n

theorem src_range (hh : A.handled = none) (tg : Expr) (it : Addr) : Src prog w A D tInt tg (.ref it) [it] (StRange it) where
  draw := fun {x xs s Q E} st l q => by
    obtain ⟨a, n, hi, hx⟩ := st
    cases n with
    | zero => cases hx
    | succ n =>
      obtain ⟨rfl, rfl⟩ := List.cons.inj hx
      refine wpAny_pyNext_range_item hi (by omega) fun h' hi' hs => ⟨_, rfl, ?_⟩
      have e : ((n + 1 : Nat) : Int) - 1 = (n : Nat) := by omega
      rw [e] at hi'
      exact letOwned_list hi' rfl rfl (by decide) (q _ _ (stepI_same hs (.head _)) ⟨_, rfl⟩ ⟨_, n, hi', rfl⟩)
  fin := fun {s Q E} st q => by
    obtain ⟨a, n, hi, hx⟩ := st
    cases n with
    | succ n => cases hx
    | zero => exact wpAny_pyNext_range_end hh hi (by simp) fun h' hs => ⟨rfl, q _ (stepI_ext hs (.head _))⟩
  frame := fun {xs h h'} st le keep => by
    obtain ⟨a, n, hi, hx⟩ := st
    exact ⟨a, n, keep _ (.head _) _ hi, hx⟩
  here := fun st a m => by
    obtain ⟨b, n, hi, hx⟩ := st
    cases m with
    | head => exact ⟨_, _, hi, rfl⟩
    | tail _ m => cases m
  self := fun st q => by
    obtain ⟨b, n, hi, hx⟩ := st
    exact wpAny_pyIter_rangeiter hi q

/-- over enumerate of a list that stands -/
def enumL {α : Type} : Int → List α → List (Int × α)
  | _, [] => []
  | i, x :: xs => (i, x) :: enumL (i + 1) xs
def StEnum {α : Type} (T : Ty α) (D : Addr → Prop) (e it : Addr) (ps : List (Int × α)) (h : Heap) : Prop :=
  e ≠ it ∧ ∃ p n vs i old xs, IsEnum h e it (i : Nat) old ∧ h.IsListIter it p i ∧ ¬ D p ∧ h.get? p = some (lstObj (List.toArray vs) n) ∧ Paired (T.is D h) (vs.drop i) xs ∧ ps = enumL i xs

theorem src_enum {α : Type} {T : Ty α} (hh : A.handled = none) (els : List Expr) (k : Nat) (pos : Pos) (e it : Addr) (hI : ¬ D e ∧ ¬ D it) : Src prog w A D (tPair tInt T) (.Tuple els k pos) (.ref e) [e, it] (StEnum T D e it) where
  draw := fun {x ps s Q E} st l q => by
    obtain ⟨hne, p, n, vs, i, old, xs, he, hi, hd, hg, hp, hx⟩ := st
    cases xs with
    | nil => cases hx
    | cons y ys =>
      obtain ⟨rfl, rfl⟩ := List.cons.inj hx
      have hy : ∃ u, vs[i]? = some u ∧ T.is D s.heap u y := by
        obtain ⟨u, hu, hu'⟩ := paired_get hp 0 y rfl
        exact ⟨u, by simpa using hu, hu'⟩
      obtain ⟨u, hu, hu'⟩ := hy
      have hpe : p ≠ e := by
        rintro rfl
        exact absurd (hg.symm.trans he) (by simp)
      have hpi : p ≠ it := by
        rintro rfl
        obtain ⟨o, ho, _, hd'⟩ := hi
        rw [hg] at ho; cases ho; cases hd'
      refine wpAny_pyNext_enum_item he hi (isList_of hg) (x := u) (by simpa using hu) hne fun h' he' hi' ht hz hk => ⟨_, rfl, ?_⟩
      refine wpAny_letOwnedTupleGo_enum he' fun h2 he2 hs2 => ?_
      have old' : ∀ b o, b ∉ [e, it] → s.heap.get? b = some o → h2.get? b = some o := fun b o nb eb =>
        (hs2.2 b fun z => nb (z ▸ .head _)).trans (hk b o (fun z => nb (z ▸ .head _)) (fun z => nb (z ▸ .tail _ (.head _))) eb)
      have hle : Le D s.heap h2 := fun b o nd f eb => old' b o (fun m => by
        cases m with
        | head => rw [he] at eb; cases eb; exact f
        | tail _ m => cases m with
          | head =>
            obtain ⟨o', ho', _, hd'⟩ := hi
            rw [eb] at ho'; cases ho'
            unfold Firm at f; rw [hd'] at f; exact f
          | tail _ m => cases m) eb
      have hse : s.heap.objs.size ≠ e := fun z => Nat.lt_irrefl _ (z ▸ Heap.lt_size he)
      have ht2 : h2.get? s.heap.objs.size = some (tupObj #[.int i s.toks, u] 0) := (hs2.2 _ hse).trans ht
      refine q _ _ ⟨h2, _, rfl, old'⟩ ⟨_, 0, _, _, rfl, live_fresh l, ht2, ⟨_, rfl⟩, T.mono hle hu'⟩ ⟨hne, p, n, vs, i + 1, u, ys, he2, hi'.at fun o eo => (hs2.2 it (Ne.symm hne)).trans eo, hd, ?_, ?_, rfl⟩
      · exact old' p _ (fun m => by
          cases m with
          | head => exact hpe rfl
          | tail _ m => cases m with
            | head => exact hpi rfl
            | tail _ m => cases m) hg
      · have := paired_drop hp 1
        rw [List.drop_drop] at this
        exact paired_mono (fun _ _ => T.mono hle) this
  fin := fun {s Q E} st q => by
    obtain ⟨hne, p, n, vs, i, old, xs, he, hi, hd, hg, hp, hx⟩ := st
    cases xs with
    | cons y ys => cases hx
    | nil =>
      have hl := hp.length
      refine wpAny_pyNext_enum_end hh he hi (isList_of hg) ?_ fun h' hs => ⟨rfl, q _ (stepI_ext hs (.tail _ (.head _)))⟩
      simp only [List.length_drop, List.length_nil] at hl
      simp; omega
  frame := fun {xs h h'} st le keep => by
    obtain ⟨hne, p, n, vs, i, old, ys, he, ⟨o, ho, hc, hd'⟩, hd, hg, hp, hx⟩ := st
    exact ⟨hne, p, n, vs, i, old, ys, keep _ (.head _) _ he, ⟨o, keep _ (.tail _ (.head _)) _ ho, hc, hd'⟩, hd, le _ _ hd (firm_lst _ _) hg, paired_mono (fun _ _ => T.mono le) hp, hx⟩
  here := fun st a m => by
    obtain ⟨hne, p, n, vs, i, old, ys, he, ⟨o, ho, hc, hd'⟩, _⟩ := st
    cases m with
    | head => exact ⟨_, _, he, rfl⟩
    | tail _ m => cases m with
      | head => exact ⟨o, _, ho, hd'⟩
      | tail _ m => cases m
  self := fun st q => by
    obtain ⟨hne, p, n, vs, i, old, ys, he, _⟩ := st
    exact wpAny_pyIter_enum he q

/-- what «iter(e)» gives: a source -/
def Iters (prog : Program) (w : World) (A : Around) (D : Addr → Prop) (s : Shared) {α : Type} (e : Expr) (env : Env) (T : Ty α) (tg : Expr) (xs : List α) : Prop :=
  ∀ s', Keeps s s' → Live D s'.heap → wpAny (model prog w) A (eval e env) (fun v s₁ => wpAny (model prog w) A (pyIter v) (fun it s₂ => Keeps s' s₂ ∧ ∃ I, (∀ a ∈ I, s'.heap.get? a = none) ∧
    ∀ D' : Addr → Prop, (∀ a o, s₂.heap.get? a = some o → D' a → D a) → ∃ St, Src prog w A D' T tg it I St ∧ St xs s₂.heap) NE s₁) NE s'

/-- the same for a loop's own use -/
def ItersF (prog : Program) (w : World) (A : Around) (D : Addr → Prop) (s : Shared) {α : Type} (e : Expr) (env : Env) (T : Ty α) (tg : Expr) (xs : List α) : Prop :=
  ∀ s', Keeps s s' → Live D s'.heap → wpAny (model prog w) A (eval e env) (fun v s₁ => wpAny (model prog w) A (pyIter v) (fun it s₂ => Keeps s' s₂ ∧ ∃ I, (∀ a ∈ I, s'.heap.get? a = none) ∧
    ∀ D' : Addr → Prop, (∀ a o, s₂.heap.get? a = some o → D' a → D a) → ∃ St, SrcF prog w A D' T tg it I St ∧ St xs s₂.heap) NE s₁) NE s'
theorem Iters.f {e : Expr} {α : Type} {T : Ty α} {xs : List α} {tg : Expr} (h : Iters prog w A D s e env T tg xs) : ItersF prog w A D s e env T tg xs := fun s' k l =>
  wpAny_mono (h s' k l) (fun v s₁ q => wpAny_mono q (fun it s₂ q => ⟨q.1, q.2.choose, q.2.choose_spec.1, fun D' hD' => let ⟨St, S, st⟩ := q.2.choose_spec.2 D' hD'; ⟨St, S.toSrcF, st⟩⟩) fun _ _ e => e) fun _ _ e => e

theorem none_of_keeps (k : Keeps s s₁) : s.heap.get? s₁.heap.objs.size = none := by
  cases e : s.heap.get? s₁.heap.objs.size with
  | none => rfl
  | some o => exact absurd (Heap.lt_size (keeps_get k e)) (Nat.lt_irrefl _)

theorem none_above (k : Keeps s s₁) {a : Addr} (h : s₁.heap.objs.size ≤ a) : s.heap.get? a = none := by
  cases e : s.heap.get? a with
  | none => rfl
  | some o => exact absurd (Heap.lt_size (keeps_get k e)) (Nat.not_lt.mpr h)

theorem iters_list {e : Expr} {α : Type} {T : Ty α} {xs : List α} {tg : Expr} (hh : A.handled = none) (he : Has prog w A D s (eval e env) (tList T) xs) : Iters prog w A D s e env T tg xs := fun s' k l =>
  wpAny_mono (he s' k l) (fun v s₁ a => by
    obtain ⟨ka, p, n, vs, rfl, hd, hg, hp⟩ := a
    refine wpAny_pyIter_list (isList_of hg) ⟨keeps_trans ka (keeps_push _ _), [_], fun a m => ?_, fun D' hD' => ⟨_, src_list hh tg _, ⟨p, n, vs, 0, ⟨_, Heap.get?_push_size _ rfl, rfl, rfl⟩, fun q => hd (hD' _ _ (Heap.get?_push_of_some _ hg) q), Heap.get?_push_of_some _ hg, ?_⟩⟩⟩
    · cases m with
      | head => exact none_of_keeps ka
      | tail _ m => cases m
    · exact paired_mono (fun _ _ q => T.wide hD' (T.mono (keeps_le (keeps_push s₁ _) D) q)) hp) fun _ _ e => e

theorem size_range (b : Int) (hb : 0 ≤ b) : Builtin.Range.rangeSize 0 b 1 = b := by
  unfold Builtin.Range.rangeSize
  simp only [show ((1 : Int) > 0) = True from eq_true (by decide), if_true]
  split
  · simp
  · omega
theorem size_range2 (a b : Int) (hb : a ≤ b) : Builtin.Range.rangeSize a b 1 = b - a := by
  unfold Builtin.Range.rangeSize
  simp only [show ((1 : Int) > 0) = True from eq_true (by decide), if_true]
  split
  · simp
  · omega

theorem small_range (a b : Int) (h : a ≤ b) (ha : 0 ≤ a) (hb : b ≤ 100000) : Builtin.Range.small a b 1 = true := by
  unfold Builtin.Range.small
  rw [size_range2 a b h]
  unfold Builtin.Range.rangeFitsLong
  simp only [Bool.and_eq_true, decide_eq_true_eq, Bool.or_eq_true]
  refine ⟨⟨⟨⟨⟨by omega, by omega⟩, ⟨by omega, by omega⟩⟩, ⟨by omega, by omega⟩⟩, ⟨by omega, by omega⟩⟩, .inr ?_⟩
  rw [if_pos (by decide)]
  simp only [Bool.and_eq_true, decide_eq_true_eq]
  exact ⟨by omega, by omega⟩

variable {x : Str} {px pos : Pos}
/-- range(b) -/
theorem iters_range1 {e : Expr} {b : Int} {tg : Expr} (hh : A.handled = none) (hf : Has prog w A D s (eval (.Name x px) env) tVal (.type "range")) (he : Has prog w A D s (eval e env) tInt b) (hb : 0 ≤ b) (hb2 : b ≤ 100000)
    (hp : starEach [e] env = (false, eval e env) :: starEach [] env := by rfl) (hst : ∀ e' ∈ [e], isStarred e' = false := by simp [isStarred]) :
    Iters prog w A D s (.Call (.Name x px) [e] [] pos) env tInt tg (rangeL 0 b.toNat) := fun s' k l => by
  have hc : Hs prog w A D s (eval (.Call (.Name x px) [e] [] pos) env) fun h v => ∃ r t u t', v = .ref r ∧ IsRange h r 0 b 1 t u t' :=
    hs_call hf (.inl fun _ h => nomatch h) (hsl_cons he hsl_nil hp) (fun s₁ vs k a => by
      obtain ⟨v, rfl, t, rfl⟩ := a.one
      exact Hs.of fun s' Q k' l h => call_range_1 (h _ _ (keeps_push_toks _ _ _) ⟨_, _, _, _, rfl, Heap.get?_push_size _ rfl⟩)) hst
  refine wpAny_mono (hc s' k l) (fun v s₁ a => ?_) fun _ _ e => e
  obtain ⟨ka, r, t, u, t', rfl, hr⟩ := a
  refine wpAny_pyIter_range hr (small_range 0 b hb (by decide) hb2) ⟨keeps_trans ka (keeps_push _ _), [_], fun a m => ?_, fun D' hD' => ⟨_, src_range hh tg _, ⟨0, b.toNat, ?_, rfl⟩⟩⟩
  · cases m with
    | head => exact none_of_keeps ka
    | tail _ m => cases m
  · have e : Builtin.Range.rangeSize 0 b 1 = (b.toNat : Nat) := by rw [size_range b hb]; omega
    rw [e]
    exact Heap.get?_push_size _ rfl
/-- range(a, b) -/
theorem iters_range2 {ea eb : Expr} {a b : Int} {tg : Expr} (hh : A.handled = none) (hf : Has prog w A D s (eval (.Name x px) env) tVal (.type "range")) (ha : Has prog w A D s (eval ea env) tInt a) (hb : Has prog w A D s (eval eb env) tInt b)
    (h0 : 0 ≤ a) (hab : a ≤ b) (hb2 : b ≤ 100000)
    (hp : starEach [ea, eb] env = (false, eval ea env) :: starEach [eb] env := by rfl) (hp' : starEach [eb] env = (false, eval eb env) :: starEach [] env := by rfl) (hst : ∀ e' ∈ [ea, eb], isStarred e' = false := by simp [isStarred]) :
    Iters prog w A D s (.Call (.Name x px) [ea, eb] [] pos) env tInt tg (rangeL a (b - a).toNat) := fun s' k l => by
  have hc : Hs prog w A D s (eval (.Call (.Name x px) [ea, eb] [] pos) env) fun h v => ∃ r t u t', v = .ref r ∧ IsRange h r a b 1 t u t' :=
    hs_call hf (.inl fun _ h => nomatch h) (hsl_cons ha (hsl_cons hb hsl_nil hp') hp) (fun s₁ vs k a => by
      obtain ⟨u, v, rfl, ⟨t, rfl⟩, ⟨t', rfl⟩⟩ := a.two
      exact Hs.of fun s' Q k' l h => call_range_2 (h _ _ (keeps_push_toks _ _ _) ⟨_, _, _, _, rfl, Heap.get?_push_size _ rfl⟩)) hst
  refine wpAny_mono (hc s' k l) (fun v s₁ q => ?_) fun _ _ e => e
  obtain ⟨ka, r, t, u, t', rfl, hr⟩ := q
  refine wpAny_pyIter_range hr (small_range a b hab h0 hb2) ⟨keeps_trans ka (keeps_push _ _), [_], fun a m => ?_, fun D' hD' => ⟨_, src_range hh tg _, ⟨a, (b - a).toNat, ?_, rfl⟩⟩⟩
  · cases m with
    | head => exact none_of_keeps ka
    | tail _ m => cases m
  · have e : Builtin.Range.rangeSize a b 1 = ((b - a).toNat : Nat) := by rw [size_range2 a b hab]; omega
    rw [e]
    exact Heap.get?_push_size _ rfl
/-- enumerate(xs) -/
theorem iters_enum {e : Expr} {α : Type} {T : Ty α} {xs : List α} {els : List Expr} {kk : Nat} {pt : Pos} (hh : A.handled = none) (hf : Has prog w A D s (eval (.Name x px) env) tVal (.type "enumerate")) (he : Has prog w A D s (eval e env) (tList T) xs)
    (hp : starEach [e] env = (false, eval e env) :: starEach [] env := by rfl) (hst : ∀ e' ∈ [e], isStarred e' = false := by simp [isStarred]) :
    Iters prog w A D s (.Call (.Name x px) [e] [] pos) env (tPair tInt T) (.Tuple els kk pt) (enumL 0 xs) := fun s' k l => by
  have hc : Hs prog w A D s' (eval (.Call (.Name x px) [e] [] pos) env) fun h v => ∃ e' it, v = .ref e' ∧ s'.heap.get? e' = none ∧ s'.heap.get? it = none ∧ StEnum T D e' it (enumL 0 xs) h :=
    hs_call (hf.up k) (.inl fun _ h => nomatch h) (hsl_cons (he.up k) hsl_nil hp) (fun s₁ vs ka a => by
      obtain ⟨v, rfl, p, n, us, rfl, hd, hg, hq⟩ := a.one
      refine Hs.of fun s₂ Q k₂ l₂ h => ?_
      have hg₂ := keeps_get k₂ hg
      refine call_enumerate_list (isList_of hg₂) fun h' he' hi' hz hk => ?_
      have kk : Keeps s₂ { s₂ with heap := h' } := ⟨h', s₂.toks, rfl, hk⟩
      have k02 := keeps_trans ka k₂
      refine h _ _ kk ⟨_, _, rfl, none_above k02 (Nat.le_succ _), none_above k02 (Nat.le_refl _), Nat.succ_ne_self _, p, n, us, 0, _, xs, he', hi', hd, hk _ _ hg₂, ?_, rfl⟩
      exact paired_mono (fun _ _ => T.mono (keeps_le (keeps_trans k₂ kk) D)) hq) hst
  refine wpAny_mono (hc s' (keeps_refl _) l) (fun v s₁ q => ?_) fun _ _ e => e
  obtain ⟨ka, e', it, rfl, n1, n2, st⟩ := q
  obtain ⟨hne, p, n, us, i, old, ys, he', hi', hd, hg, hq, hx⟩ := id st
  obtain ⟨oi, hoi, _⟩ := id hi'
  refine wpAny_pyIter_enum he' ⟨ka, [e', it], fun a m => ?_, fun D' hD' => ⟨_, src_enum hh els kk pt e' it ⟨fun q => live_none l n1 (hD' _ _ he' q), fun q => live_none l n2 (hD' _ _ hoi q)⟩,
    ⟨hne, p, n, us, i, old, ys, he', hi', fun q => hd (hD' _ _ hg q), hg, paired_mono (fun _ _ => T.wide hD') hq, hx⟩⟩⟩
  cases m with
  | head => exact n1
  | tail _ m => cases m with
    | head => exact n2
    | tail _ m => cases m
end
end Mine

end
section

open PySem PySem.W PyProof.Rows PySem.Calls
namespace Mine
section
variable {prog : Program} {w : World} {A : Around} {D : Addr → Prop} {s s₁ s₂ s₀ : Shared} {g : Heap} {env : Env} {ρ : Rho} {mg mb : Str → Option Value}

/-- lists and dicts but the frame's own stand -/
def Oth (env : Env) (s s' : Shared) : Prop := ∀ a o, s.heap.get? a = some o → a ≠ env.locals → Firm o → s'.heap.get? a = some o
theorem Oth.trans {s₂ : Shared} (a : Oth env s s₁) (b : Oth env s₁ s₂) : Oth env s s₂ := fun c o e n f => b c o (a c o e n f) n f
theorem oth_keeps (k : Keeps s s₁) : Oth env s s₁ := fun _ _ e _ _ => keeps_get k e
theorem oth_others (o : Others D env s s₁) : Oth env s s₁ := fun a ob e n f => o.still a ob e n fun v q => by unfold Firm at f; rw [q] at f; exact f

/-- a source's own objects: made since the frame began, no data -/
structure ItOk (s₀ s : Shared) (D : Addr → Prop) (I : List Addr) : Prop where
  new : ∀ a ∈ I, s₀.heap.get? a = none
  apart : ∀ a ∈ I, ¬ D a
  here : ∀ a ∈ I, ∃ o vs, s.heap.get? a = some o ∧ o.data = .fields vs

theorem Ex.stepI {I : List Addr} (X : Ex g s₀ D env s ρ) (O : ItOk s₀ s D I) (st : StepI I s s₁) : Ex g s₀ D env s₁ ρ ∧ Oth env s s₁ := by
  have notI : ∀ {a : Addr} {o : Obj}, s.heap.get? a = some o → (∀ vs, o.data ≠ .fields vs) → a ∉ I := fun {a o} e n m => by
    obtain ⟨o', vs, e', d'⟩ := O.here a m
    rw [e] at e'; cases e'
    exact n vs d'
  have keep : ∀ {a : Addr} {o : Obj}, s.heap.get? a = some o → (∀ vs, o.data ≠ .fields vs) → s₁.heap.get? a = some o := fun {a o} e n => stepI_get st (notI e n) e
  have hns : ∀ {a : Addr} {m : Str → Option Value}, s.heap.Ns a m → s₁.heap.Ns a m := fun {a m} h => by
    obtain ⟨o, es, ep, e, d, r⟩ := h
    exact ⟨o, es, ep, keep e fun vs q => (by rw [d] at q; cases q), d, r⟩
  have hcell : ∀ {a : Addr} {v : Option Value}, s.heap.IsCell a v → s₁.heap.IsCell a v := fun {a v} h => by
    obtain ⟨o, e, d⟩ := h
    exact ⟨o, keep e fun vs q => (by rw [d] at q; cases q), d⟩
  have firm : ∀ {a : Addr} {o : Obj}, s.heap.get? a = some o → Firm o → s₁.heap.get? a = some o := fun {a o} e f => keep e fun vs q => by unfold Firm at f; rw [q] at f; exact f
  obtain ⟨hS, hK, hL, F⟩ := X
  refine ⟨⟨hS, ?_, ?_, ⟨F.kind, let ⟨m, h⟩ := F.ns; ⟨m, hns h⟩, F.newL, F.volL, fun x c e => let ⟨v, h⟩ := F.cells x c e; ⟨v, hcell h⟩, F.apart, F.cellOk, F.glob, fun x e h => ?_⟩⟩, fun a o e n f => firm e f⟩
  · obtain ⟨h0, t0, rfl, hk0⟩ := hK
    obtain ⟨h1, t1, rfl, hk1⟩ := st
    exact ⟨h1, t1, rfl, fun b o e => hk1 b o (fun m => by rw [O.new b m] at e; cases e) (hk0 b o e)⟩
  · intro a d
    obtain ⟨o, e⟩ := hL a d
    exact ⟨o, stepI_get st (fun m => O.apart a m d) e⟩
  · obtain ⟨v, hn, ht⟩ := F.names x e h
    refine ⟨v, ?_, e.T.mono (fun b o _ f q => firm q f) ht⟩
    rcases hn with ⟨a, m, hn, hm⟩ | ⟨a, c, hc, hv⟩
    · exact .inl ⟨a, m, hns hn, hm⟩
    · exact .inr ⟨a, c, hc, hcell hv⟩

/-- a target takes a value -/
def Asg (prog : Program) (w : World) (A : Around) (g : Heap) (s₀ : Shared) (D : Addr → Prop) (env : Env) {α : Type} (tg : Expr) (T : Ty α) (bnd : Rho → α → Rho) : Prop :=
  ∀ {s : Shared} {ρ : Rho} {v : Value} {x : α} {Q : Unit → Shared → Prop} {E : Value → Shared → Prop}, Ex g s₀ D env s ρ → T.is D s.heap v x → (∀ s', Ex g s₀ D env s' (bnd ρ x) → Others D env s s' → Q () s') → wpAny (model prog w) A (assign tg env v) Q E s

theorem asg_name {n : Str} {p : Pos} {α : Type} {T : Ty α} (o : Own s₀ env n) : Asg prog w A g s₀ D env (.Name n p) T fun ρ x => upd ρ n ⟨T, x⟩ :=
  fun X hv q => wpAny_assign_Name (X.store o hv q)

theorem asg_pair {a b : Str} {pa pb p : Pos} {k : Nat} {α β : Type} {T : Ty α} {U : Ty β} (hh : A.handled = none) (oa : Own s₀ env a) (ob : Own s₀ env b) :
    Asg prog w A g s₀ D env (.Tuple [.Name a pa, .Name b pb] k p) (tPair T U) fun ρ x => upd (upd ρ a ⟨T, x.1⟩) b ⟨U, x.2⟩ := by
  intro s ρ v x Q E X hv q
  obtain ⟨t, n, u, y, rfl, hd, hg, hu, hy⟩ := hv
  refine wpAny_assign_Tuple hh (isTuple_of hg) rfl rfl fun h' hs => ?_
  have kk : Keeps s { s with heap := h' } := ⟨h', s.toks, rfl, fun b o e => hs b o (fun z => Nat.lt_irrefl _ (z ▸ Heap.lt_size e)) e⟩
  show wpAny _ _ (assignInOrder [assign (.Name a pa) env, assign (.Name b pb) env] [u, y]) _ _ _
  refine wpAny_assignInOrder_more (wpAny_assign_Name ((X.up kk).store oa (T.mono (keeps_le kk D) hu) fun s₂ X₂ o₂ => wpAny_assignInOrder_more (wpAny_assign_Name (X₂.store ob (U.mono o₂.calm.le (U.mono (keeps_le kk D) hy)) fun s₃ X₃ o₃ =>
    wpAny_assignInOrder_none (q s₃ X₃ (others_trans (others_keeps kk) (others_trans o₂ o₃)))))))

theorem noted_ne {R : Value → Shared → Prop} {E : Value → Shared → Prop} : ∀ {β : Type} {t : Sem β} {Q : β → Shared → Prop}, wpAny (model prog w) A t Q NE s → wpAny (model prog w) A t Q (notedBy (model prog w) A env R) s :=
  fun h => wpAny_mono h (fun _ _ q => q) fun _ _ e => e.elim

theorem ex_for {tg iter : Expr} {body : List Stmt} {pos : Pos} {α : Type} {T : Ty α} {xs : List α} {bnd : Rho → α → Rho} {Q : Flow → Shared → Prop} {E : Value → Shared → Prop} (X : Ex g s₀ D env s ρ) (hi : ItersF prog w A D s iter env T tg xs)
    (ha : Asg prog w A g s₀ D env tg T bnd) (Inv : List α → Rho → Shared → Prop) (h0 : ∀ s', Keeps s s' → Inv xs ρ s')
    (turn : ∀ x rem ρ₁ s₁ s₂, Inv (x :: rem) ρ₁ s₁ → Ex g s₀ D env s₂ (bnd ρ₁ x) → Oth env s₁ s₂ → Calm D s s₂ → wpAny (model prog w) A (execs body env) (fun f s₃ => match f with
      | .next | .cont => (∃ ρ₃, Ex g s₀ D env s₃ ρ₃ ∧ Inv rem ρ₃ s₃) ∧ Calm D s₂ s₃
      | .brk => False
      | .ret v => Q (.ret v) s₃) NE s₂)
    (done : ∀ ρ₁ s₁ s₂, Inv [] ρ₁ s₁ → Ex g s₀ D env s₂ ρ₁ → Oth env s₁ s₂ → Calm D s s₂ → Q .next s₂)
    (hs : ∀ x, foldedSetIterable iter env x = pure x := by intro _; rfl) : wpAny (model prog w) A (exec (.For tg iter body [] pos) env) Q E s := by
  refine wpAny_For (wpAny_mono (hi s (keeps_refl s) X.live) (fun v s₁ h => wpAny_mono h (fun it s₂ h => ?_) fun _ _ e => e.elim) fun _ _ e => e.elim) hs
  obtain ⟨k02, I, new, src⟩ := h
  obtain ⟨St, S, st⟩ := src D fun _ _ _ d => d
  have newI : ∀ a ∈ I, s₀.heap.get? a = none := fun a m => by
    cases e : s₀.heap.get? a with
    | none => rfl
    | some o => have := keeps_get X.kp e; rw [new a m] at this; cases this
  have apI : ∀ a ∈ I, ¬ D a := fun a m => live_none X.live (new a m)
  have step_calm : ∀ {s₃ s₄ : Shared}, Calm D s s₃ → StepI I s₃ s₄ → Calm D s s₄ := fun c st =>
    ⟨fun b o n f e => stepI_get st (fun m => by rw [new b m] at e; cases e) (c.le b o n f e), fun a o vs e d => stepI_get st (fun m => by rw [new a m] at e; cases e) (c.fields a o vs e d)⟩
  refine codeAny_forLoop_any (fun n s₃ => ∃ rem ρ₃, rem.length = n ∧ Ex g s₀ D env s₃ ρ₃ ∧ Inv rem ρ₃ s₃ ∧ St rem s₃.heap ∧ Calm D s s₃) (fun n s₃ hI => ?_) xs.length ⟨xs, ρ, rfl, X.up k02, h0 _ k02, st, .keeps k02⟩
  obtain ⟨rem, ρ₃, hn, X₃, hInv, st₃, c₃⟩ := hI
  refine noted_ne (E := E) ?_
  cases rem with
  | nil =>
    refine wpAny_mono (S.fin (Q := fun s₄ => Q .next s₄) (E := NE) st₃ fun s₄ hst => ?_) (fun r s₄ h => ?_) fun _ _ e => e
    · obtain ⟨X₄, o₄⟩ := X₃.stepI ⟨newI, apI, S.here st₃⟩ hst
      exact done ρ₃ s₃ s₄ hInv X₄ o₄ (step_calm c₃ hst)
    · obtain ⟨rfl, h⟩ := h
      exact wpAny_execs_nil h
  | cons x rem =>
    refine wpAny_mono (S.draw (E := NE) (Q := fun v s₄ => wpAny (model prog w) A (assign tg env v) (fun _ s₅ => wpAny (model prog w) A (execs body env) (fun f s₆ => match f with
          | .next | .cont => ∃ m, m < n ∧ ∃ rem ρ₃, rem.length = m ∧ Ex g s₀ D env s₆ ρ₃ ∧ Inv rem ρ₃ s₆ ∧ St rem s₆.heap ∧ Calm D s s₆
          | .brk => Q .next s₆
          | .ret v => Q (.ret v) s₆) NE s₅) NE s₄) st₃ X₃.live fun v s₄ hst hv st₄ => ?_) (fun r s₄ h => ?_) fun _ _ e => e
    · obtain ⟨X₄, o₄⟩ := X₃.stepI ⟨newI, apI, S.here st₃⟩ hst
      refine ha X₄ hv fun s₅ X₅ o₅ => ?_
      have c₅ : Calm D s s₅ := (step_calm c₃ hst).trans o₅.calm
      refine wpAny_mono (turn x rem ρ₃ s₃ s₅ hInv X₅ (o₄.trans (oth_others o₅)) c₅) (fun f s₆ h => ?_) fun _ _ e => e
      have fin : ∀ {P : Prop}, ((∃ ρ₃, Ex g s₀ D env s₆ ρ₃ ∧ Inv rem ρ₃ s₆) ∧ Calm D s₅ s₆) → ∃ m, m < n ∧ ∃ rem ρ₃, rem.length = m ∧ Ex g s₀ D env s₆ ρ₃ ∧ Inv rem ρ₃ s₆ ∧ St rem s₆.heap ∧ Calm D s s₆ := fun ⟨⟨ρ₆, X₆, i₆⟩, c₆⟩ =>
        ⟨rem.length, by simp at hn; omega, rem, ρ₆, rfl, X₆, i₆, S.frame st₄ (o₅.calm.trans c₆).le fun a m o e => by
          obtain ⟨o', vs, e', d'⟩ := S.here st₄ a m
          rw [e] at e'; cases e'
          exact c₆.fields a o vs (o₅.calm.fields a o vs e d') d', c₅.trans c₆⟩
      cases f with
      | next => exact fin (P := True) h
      | cont => exact fin (P := True) h
      | brk => exact h.elim
      | ret v => exact h
    · obtain ⟨v, rfl, h⟩ := h
      refine noted_ne (E := E) (wpAny_mono h (fun _ s₅ h => noted_ne (E := E) (wpAny_mono h (fun _ s₆ h => noted_ne (E := E) (wpAny_mono h (fun f s₇ h => ?_) fun _ _ e => e)) fun _ _ e => e)) fun _ _ e => e)
      cases f <;> exact h
end
end Mine

end
section

open PySem PySem.W PyProof.Rows PySem.Calls
namespace Mine
section
variable {prog : Program} {w : World} {A : Around} {D : Addr → Prop} {s s₁ s₂ s₀ : Shared} {g : Heap} {env : Env} {ρ : Rho} {mg mb : Str → Option Value}

-- the cells that a comprehension closes over
def freeCells (cells : List (Str × Addr)) : List (Str × NameKind) → List (Str × Addr) → List (Str × Addr)
  | [], acc => acc
  | (n, k) :: r, acc => if k == .free then (match cells.lookup n with | some a => freeCells cells r ((n, a) :: acc) | none => freeCells cells r acc) else freeCells cells r acc

theorem closureFor_is {scope : Scope} (h : ∀ y ∈ scope.names, y.2 = .free → ∃ c, env.cells.lookup y.1 = some c) : closureFor scope env = pure (freeCells env.cells scope.names []) := by
  unfold closureFor
  have key : ∀ (names : List (Str × NameKind)) (acc : List (Str × Addr)), (∀ y ∈ names, y.2 = .free → ∃ c, env.cells.lookup y.1 = some c) →
      (forIn names acc fun (x : Str × NameKind) (r : List (Str × Addr)) => (if (x.2 == NameKind.free) = true then (do let y ← cellOf env x.1; pure (ForInStep.yield ((x.1, y) :: r)) : Sem (ForInStep (List (Str × Addr)))) else pure (ForInStep.yield r))) = pure (freeCells env.cells names acc) := by
    intro names
    induction names with
    | nil => intro acc _; rfl
    | cons y r ih =>
      obtain ⟨n, k⟩ := y
      intro acc hn
      rw [List.forIn_cons]
      unfold freeCells
      have hr : ∀ y ∈ r, y.2 = .free → ∃ c, env.cells.lookup y.1 = some c := fun y m => hn y (.tail _ m)
      by_cases hk : (k == NameKind.free) = true
      · obtain ⟨c, hc⟩ := hn (n, k) (.head _) (beq_iff_eq.mp hk)
        simp only [hk, if_true]
        simp only at hc
        rw [hc]
        simp only [cellOf, hc]
        exact ih ((n, c) :: acc) hr
      · simp only [hk, if_false]
        exact ih acc hr
  simpa using key scope.names [] h

theorem mem_other {α : Type} {a b : α} {r : List α} (h : a ≠ b) : a ∈ b :: r ↔ a ∈ r := by
  rw [List.mem_cons]; exact or_iff_right h
theorem freeCells_lookup {cells : List (Str × Addr)} : ∀ (names : List (Str × NameKind)) (acc : List (Str × Addr)) (x : Str),
    (freeCells cells names acc).lookup x = (if (x, NameKind.free) ∈ names ∧ (cells.lookup x).isSome then cells.lookup x else acc.lookup x) ∨ (∃ c, acc.lookup x = some c ∧ cells.lookup x = some c ∧ (freeCells cells names acc).lookup x = some c)
  | [], acc, x => .inl (by simp [freeCells])
  | (n, k) :: r, acc, x => by
    unfold freeCells
    split
    · rename_i hk
      have hk' : k = .free := beq_iff_eq.mp hk
      subst hk'
      cases hc : cells.lookup n with
      | none =>
        dsimp only
        rcases freeCells_lookup r acc x with e | e
        · left
          rw [e]
          by_cases hx : x = n
          · subst hx; simp [hc]
          · simp only [mem_other (fun q : (x, NameKind.free) = (n, NameKind.free) => hx (Prod.mk.inj q).1)]
        · exact .inr e
      | some a =>
        dsimp only
        rcases freeCells_lookup r ((n, a) :: acc) x with e | ⟨c, e1, e2, e3⟩
        · by_cases hx : x = n
          · subst hx
            left
            rw [e]
            simp [hc, List.lookup_cons]
          · left
            rw [e]
            have : (x == n) = false := by simpa using hx
            simp only [mem_other (fun q : (x, NameKind.free) = (n, NameKind.free) => hx (Prod.mk.inj q).1), List.lookup_cons, this]
        · by_cases hx : x = n
          · subst hx
            left
            rw [e3]
            simp [hc, e2] at *
            exact e2.symm
          · right
            have : (x == n) = false := by simpa using hx
            rw [List.lookup_cons, this] at e1
            exact ⟨c, e1, e2, e3⟩
    · rename_i hk
      rcases freeCells_lookup r acc x with e | e
      · left
        rw [e]
        have : (x, NameKind.free) ≠ (n, k) := by
          rintro e'
          cases e'
          exact hk rfl
        simp only [mem_other this]
      · exact .inr e
theorem freeCells_some {cells : List (Str × Addr)} {names : List (Str × NameKind)} {x : Str} {c : Addr} (h : (freeCells cells names []).lookup x = some c) : cells.lookup x = some c := by
  rcases freeCells_lookup (cells := cells) names [] x with e | ⟨c', e1, _⟩
  · rw [e] at h
    split at h
    · exact h
    · cases h
  · cases e1
theorem freeCells_of {cells : List (Str × Addr)} {names : List (Str × NameKind)} {x : Str} {c : Addr} (hm : (x, NameKind.free) ∈ names) (h : cells.lookup x = some c) : (freeCells cells names []).lookup x = some c := by
  rcases freeCells_lookup (cells := cells) names [] x with e | ⟨c', e1, _⟩
  · rw [e, if_pos ⟨hm, by rw [h]; rfl⟩, h]
  · cases e1

-- the cells that a comprehension makes
theorem cellsFrom_keep {x : Str} : ∀ (names : List (Str × NameKind)) (n : Nat) (acc : List (Str × Addr)), (x, NameKind.cell) ∉ names → (cellsFrom n names acc).lookup x = acc.lookup x
  | [], _, _, _ => rfl
  | (y, k) :: r, n, acc, h => by
    unfold cellsFrom
    have hr : (x, NameKind.cell) ∉ r := fun m => h (.tail _ m)
    split
    · rename_i hk
      rw [cellsFrom_keep r _ _ hr]
      have : ¬ x = y := fun e => h (by rw [e, ← beq_iff_eq.mp hk]; exact .head _)
      rw [List.lookup_cons, show (x == y) = false by simpa using this]
    · exact cellsFrom_keep r _ _ hr
structure CellsGood (h : Heap) (cs : List (Str × Addr)) : Prop where
  cell : ∀ x c, cs.lookup x = some c → ∃ v, h.IsCell c v
  apart : ∀ x y c, cs.lookup x = some c → cs.lookup y = some c → x = y
theorem cellsGood_push : ∀ (names : List (Str × NameKind)) (h : Heap) (acc : List (Str × Addr)), CellsGood h acc → CellsGood (pushCells h names) (cellsFrom h.objs.size names acc)
  | [], _, _, x => x
  | (n, k) :: r, h, acc, x => by
    unfold pushCells cellsFrom
    split
    · have good : CellsGood (h.push { cls := .type "cell", data := .cell none }) ((n, h.objs.size) :: acc) := by
        have lt : ∀ y c, acc.lookup y = some c → c ≠ h.objs.size := fun y c e q => by
          obtain ⟨v, hv⟩ := x.cell y c e
          exact Nat.lt_irrefl _ (q ▸ hv.lt)
        refine ⟨fun y c e => ?_, fun y z c e e' => ?_⟩
        · rw [List.lookup_cons] at e
          split at e
          · cases e; exact ⟨_, _, Heap.get?_push_size _ rfl, rfl⟩
          · obtain ⟨v, hv⟩ := x.cell y c e
            exact ⟨v, hv.keeps fun b o q => Heap.get?_push_of_some _ q⟩
        · rw [List.lookup_cons] at e e'
          split at e
          · rename_i hy
            cases e
            split at e'
            · rename_i hz
              rw [beq_iff_eq.mp hy, beq_iff_eq.mp hz]
            · exact absurd rfl (lt z _ e')
          · split at e'
            · cases e'
              exact absurd rfl (lt y _ e)
            · exact x.apart y z c e e'
      have := cellsGood_push r _ _ good
      rwa [Heap.size_push] at this
    · exact cellsGood_push r h acc x
theorem cellsFrom_new {x : Str} : ∀ (names : List (Str × NameKind)) (n : Nat) (acc : List (Str × Addr)), (x, NameKind.cell) ∈ names → ∃ c, (cellsFrom n names acc).lookup x = some c ∧ n ≤ c
  | (y, k) :: r, n, acc, h => by
    unfold cellsFrom
    by_cases hr : (x, NameKind.cell) ∈ r
    · split
      · obtain ⟨c, e, l⟩ := cellsFrom_new r (n + 1) ((y, n) :: acc) hr
        exact ⟨c, e, by omega⟩
      · exact cellsFrom_new r n acc hr
    · cases h with
      | tail _ h => exact absurd h hr
      | head =>
        rw [if_pos (by rfl)]
        refine ⟨n, ?_, Nat.le_refl _⟩
        rw [cellsFrom_keep r _ _ hr, List.lookup_cons]
        simp

/-- the names that a comprehension takes from around it -/
def pick (fl : List Str) (ρ : Rho) : Rho := fun z => if fl.contains z then ρ z else none

theorem lookup_relabel_free {names : List (Str × NameKind)} {x : Str} (h : names.lookup x = some .free) :
    (names.map fun (n, k) => if (k == NameKind.free && env.scope.kind == .function && env.kindOf n == some .cell) then (n, NameKind.cell) else (n, k)).lookup x = some .cell ∨
    (names.map fun (n, k) => if (k == NameKind.free && env.scope.kind == .function && env.kindOf n == some .cell) then (n, NameKind.cell) else (n, k)).lookup x = some .free := by
  induction names with
  | nil => simp at h
  | cons y r ih =>
    obtain ⟨n, k⟩ := y
    rw [List.lookup_cons] at h
    rw [List.map_cons]
    cases hx : x == n with
    | true =>
      rw [hx] at h
      cases h
      dsimp only
      split
      · left; rw [List.lookup_cons, hx]
      · right; rw [List.lookup_cons, hx]
    | false =>
      rw [hx] at h
      dsimp only
      split
      · rw [List.lookup_cons, hx]; exact ih h
      · rw [List.lookup_cons, hx]; exact ih h
theorem lookup_relabel_cell {names : List (Str × NameKind)} {x : Str} (h : (names.map fun (n, k) => if (k == NameKind.free && env.scope.kind == .function && env.kindOf n == some .cell) then (n, NameKind.cell) else (n, k)).lookup x = some .cell ∨
    (names.map fun (n, k) => if (k == NameKind.free && env.scope.kind == .function && env.kindOf n == some .cell) then (n, NameKind.cell) else (n, k)).lookup x = some .free) : (x, NameKind.cell) ∈ names ∨ (x, NameKind.free) ∈ names := by
  induction names with
  | nil => simp at h
  | cons y r ih =>
    obtain ⟨n, k⟩ := y
    rw [List.map_cons] at h
    cases hx : x == n with
    | true =>
      have hx' := beq_iff_eq.mp hx
      subst hx'
      dsimp only at h
      split at h
      · rename_i hc
        have : k = .free := by
          simp only [Bool.and_eq_true, beq_iff_eq] at hc
          exact hc.1.1
        subst this
        exact .inr (.head _)
      · rw [List.lookup_cons, hx] at h
        rcases h with h | h
        · cases h; exact .inl (.head _)
        · cases h; exact .inr (.head _)
    | false =>
      dsimp only at h
      have h' : (r.map fun (n, k) => if (k == NameKind.free && env.scope.kind == .function && env.kindOf n == some .cell) then (n, NameKind.cell) else (n, k)).lookup x = some .cell ∨
          (r.map fun (n, k) => if (k == NameKind.free && env.scope.kind == .function && env.kindOf n == some .cell) then (n, NameKind.cell) else (n, k)).lookup x = some .free := by
        split at h
        · rw [List.lookup_cons, hx] at h; exact h
        · rw [List.lookup_cons, hx] at h; exact h
      exact (ih h').imp (.tail _) (.tail _)

/-- what is known of a comprehension's scope, once for all -/
structure CompScope (scope : Scope) (env : Env) (fl : List Str) : Prop where
  kind : scope.kind = .function
  names : ∀ x ∈ scope.names, x.2 = .local → scope.names.lookup x.1 = some .local
  free : ∀ x ∈ scope.names, x.2 = .free → env.kindOf x.1 = some .cell ∨ env.kindOf x.1 = some .free
  pick : ∀ z ∈ fl, scope.names.lookup z = some .free ∧ (z, NameKind.cell) ∉ scope.names ∧ (z == ("__classdict__" : Str)) = false

/-- the frame of a comprehension -/
theorem comp_frame {scope : Scope} {fl : List Str} (cs : CompScope scope env fl) (X : Ex g s₀ D env s ρ) {X' : Addr} {k1 : Keeps s s₁} (hX : s.heap.get? X' = none) (hX1 : s₁.heap.get? X' = some (lstObj #[] 0))
    {D' : Addr → Prop} (hD' : D' = fun a => (D a ∨ a = X') ∨ a = s₁.heap.objs.size) :
    Ex g s D' (compEnvC scope (cellsFrom (s₁.heap.objs.size + 1) scope.names (freeCells env.cells scope.names [])) s₁.heap.objs.size env)
      { s₁ with heap := pushCells (s₁.heap.push { cls := .type "dict", data := .dict #[] }) scope.names } (pick fl ρ) ∧
    Keeps s₁ { s₁ with heap := pushCells (s₁.heap.push { cls := .type "dict", data := .dict #[] }) scope.names } := by
  have kk : Keeps s₁ { s₁ with heap := pushCells (s₁.heap.push { cls := .type "dict", data := .dict #[] }) scope.names } :=
    ⟨_, s₁.toks, rfl, fun b o e => pushCells_keeps _ _ b o (Heap.get?_push_of_some _ e)⟩
  have hC : (pushCells (s₁.heap.push { cls := .type "dict", data := .dict #[] }) scope.names).Ns s₁.heap.objs.size fun _ => none :=
    (Heap.Ns.new s₁.heap (.type "dict")).keeps (pushCells_keeps _ _)
  have hCn : s.heap.get? s₁.heap.objs.size = none := none_of_keeps k1
  have k2 := keeps_trans k1 kk
  have X₁ := X.up k1
  have good : CellsGood (s₁.heap.push { cls := .type "dict", data := .dict #[] }) (freeCells env.cells scope.names []) := by
    refine ⟨fun x c e => ?_, fun x y c e e' => X.fm.apart x y c (freeCells_some e) (freeCells_some e')⟩
    obtain ⟨v, hv⟩ := X₁.fm.cells x c (freeCells_some e)
    exact ⟨v, hv.keeps fun b o q => Heap.get?_push_of_some _ q⟩
  have good' := cellsGood_push scope.names _ _ good
  rw [Heap.size_push] at good'
  refine ⟨⟨X.subs, k2, ?_, ?_⟩, kk⟩
  · subst hD'
    rintro a ((d | rfl) | rfl)
    · obtain ⟨o, e⟩ := X.live a d
      exact ⟨o, keeps_get k2 e⟩
    · exact ⟨_, keeps_get kk hX1⟩
    · obtain ⟨o, _, _, e, _⟩ := hC
      exact ⟨o, e⟩
  · refine ⟨cs.kind, ⟨_, hC⟩, hCn, by subst hD'; exact .inr rfl, good'.cell, good'.apart, fun x q => ?_, X.fm.glob, fun z e hz => ?_⟩
    · rcases lookup_relabel_cell (env := env) q with m | m
      · obtain ⟨c, hc, _⟩ := cellsFrom_new scope.names (s₁.heap.objs.size + 1) (freeCells env.cells scope.names []) m
        exact ⟨c, hc⟩
      · by_cases mc : (x, NameKind.cell) ∈ scope.names
        · obtain ⟨c, hc, _⟩ := cellsFrom_new scope.names (s₁.heap.objs.size + 1) (freeCells env.cells scope.names []) mc
          exact ⟨c, hc⟩
        · obtain ⟨c, hc⟩ := X.fm.cellOk x (cs.free _ m rfl)
          exact ⟨c, by show (cellsFrom _ scope.names _).lookup x = some c; rw [cellsFrom_keep _ _ _ mc]; exact freeCells_of m hc⟩
    · unfold pick at hz
      split at hz
      · rename_i hfl
        obtain ⟨q1, q2, q3⟩ := cs.pick z (by simpa using hfl)
        obtain ⟨v, hn, ht⟩ := X.fm.names z e hz
        refine ⟨v, ?_, e.T.mono (keeps_le k2 _) (e.T.wide (fun a o ea da => ?_) ht)⟩
        · have mf := mem_of_lookup q1
          have hfree := cs.free _ mf rfl
          rcases hn with ⟨a, _⟩ | ⟨_, c, hc, hv⟩
          · rw [a] at hfree
            rcases hfree with h | h <;> cases h
          · refine .inr ⟨?_, c, ?_, hv.keeps fun b o q => keeps_get k2 q⟩
            · rcases lookup_relabel_free (env := env) q1 with h | h
              · exact .inl h
              · exact .inr ⟨h, q3⟩
            · show (cellsFrom _ scope.names _).lookup z = some c
              rw [cellsFrom_keep _ _ _ q2]
              exact freeCells_of mf hc
        · subst hD'
          rcases da with (d | rfl) | rfl
          · exact d
          · rw [hX] at ea; cases ea
          · rw [hCn] at ea; cases ea
      · cases hz
end
end Mine

end
section

open PySem PySem.W PyProof.Rows PySem.Calls
namespace Mine
section
variable {prog : Program} {w : World} {A : Around} {D : Addr → Prop} {s s₁ s₂ s₀ : Shared} {g : Heap} {env : Env} {ρ : Rho} {mg mb : Str → Option Value}

/-- a list or dict of the frame's own turned -/
theorem Ex.mut {a : Addr} {h' : Heap} {tk : Nat} {o o' : Obj} (X : Ex g s₀ D env s ρ) (hs : Heap.SameBut a s.heap h') (da : D a) (na : s₀.heap.get? a = none) (ho : s.heap.get? a = some o) (fo : Firm o) (ho' : h'.get? a = some o') (hL : a ≠ env.locals) :
    Ex g s₀ D env { s with heap := h', toks := tk } ρ ∧ Calm D s { s with heap := h', toks := tk } := by
  have hle : Le D s.heap h' := le_of_sameBut hs (.inl da)
  have hcell : ∀ {c : Addr} {v : Option Value}, s.heap.IsCell c v → h'.IsCell c v := fun {c v} hc => hc.sameBut hs fun q => by
    obtain ⟨o2, e2, d2⟩ := hc
    rw [q, ho] at e2; cases e2
    unfold Firm at fo; rw [d2] at fo; exact fo
  obtain ⟨hS, hK, hLv, F⟩ := X
  refine ⟨⟨hS, ?_, ?_, ⟨F.kind, let ⟨m, hn⟩ := F.ns; ⟨m, hn.sameBut hs (Ne.symm hL)⟩, F.newL, F.volL, fun x c e => let ⟨v, hv⟩ := F.cells x c e; ⟨v, hcell hv⟩, F.apart, F.cellOk, F.glob, fun x e h => ?_⟩⟩, hle, fun b ob vs e d => (hs.2 b fun q => ?_).trans e⟩
  · obtain ⟨h0, t0, rfl, hk0⟩ := hK
    exact ⟨h', tk, rfl, fun b o e => (hs.2 b (fun q => by rw [q, na] at e; cases e)).trans (hk0 b o e)⟩
  · intro b d
    by_cases hb : b = a
    · exact ⟨o', hb ▸ ho'⟩
    · obtain ⟨ob, e⟩ := hLv b d
      exact ⟨ob, (hs.2 b hb).trans e⟩
  · obtain ⟨v, hn, ht⟩ := F.names x e h
    refine ⟨v, ?_, e.T.mono hle ht⟩
    rcases hn with ⟨q, m, hn, hm⟩ | ⟨q, c, hc, hv⟩
    · exact .inl ⟨q, m, hn.sameBut hs (Ne.symm hL), hm⟩
    · exact .inr ⟨q, c, hc, hcell hv⟩
  · rw [q, ho] at e; cases e
    unfold Firm at fo; rw [d] at fo; exact fo

/-- the list that a comprehension fills -/
def Acc {β : Type} (U : Ty β) (D : Addr → Prop) (X : Addr) (h : Heap) (ys : List β) : Prop := ∃ vs n, h.get? X = some (lstObj (List.toArray vs) n) ∧ Paired (U.is D h) vs ys
theorem acc_oth {β : Type} {U : Ty β} {X : Addr} {ys : List β} (a : Acc U D X s.heap ys) (o : Oth env s s₁) (le : Le D s.heap s₁.heap) (n : X ≠ env.locals) : Acc U D X s₁.heap ys := by
  obtain ⟨vs, m, e, p⟩ := a
  exact ⟨vs, m, o X _ e n (firm_lst _ _), paired_mono (fun _ _ => U.mono le) p⟩
theorem acc_keeps {β : Type} {U : Ty β} {X : Addr} {ys : List β} (a : Acc U D X s.heap ys) (k : Keeps s s₁) : Acc U D X s₁.heap ys := by
  obtain ⟨vs, m, e, p⟩ := a
  exact ⟨vs, m, keeps_get k e, paired_mono (fun _ _ => U.mono (keeps_le k D)) p⟩

/-- one turn of a comprehension, taken apart -/
def Turns (prog : Program) (w : World) (A : Around) (e : Expr) (d : Nat) (it acc : Value) (env : Env) (tg : Expr) (body : Sem Unit) : Prop :=
  ∀ (s : Shared) (Q : Fin → Shared → Prop), wpAny (model prog w) A (pyNext it) (fun r s₁ => (r = none ∧ Q (.done .next) s₁) ∨ ∃ v, r = some v ∧ wpAny (model prog w) A (letOwnedTupleGo tg it v) (fun _ s₂ =>
    wpAny (model prog w) A (assign tg env v) (fun _ s₃ => wpAny (model prog w) A body (fun _ s₄ => Q (.again (.compLoop e d it acc env)) s₄) NE s₃) NE s₂) NE s₁) NE s → wpAny (model prog w) A (compTurn e d it acc env) Q NE s

theorem comp_loop {elt : Expr} {gens : List Comprehension} {scope : Scope} {pos : Pos} {d : Nat} {it : Value} {X : Addr} {tg : Expr} {body : Sem Unit} {α β : Type} {T : Ty α} {U : Ty β} {I : List Addr} {St : List α → Heap → Prop} {bnd : Rho → α → Rho} {f : α → List β} {xs : List α} {ys : List β}
    {R : Result → Shared → Prop} (tn : Turns prog w A (.ListComp elt gens scope pos) d it (.ref X) env tg body) (S : Src prog w A D T tg it I St) (ha : Asg prog w A g s₀ D env tg T bnd) (hb : ∀ x z e, ρ z = some e → bnd ρ x z = some e)
    (hX : X ≠ env.locals) (newI : ∀ a ∈ I, s₀.heap.get? a = none) (apI : ∀ a ∈ I, ¬ D a)
    (hbody : ∀ x ∈ xs, ∀ s₁ ys', Ex g s₀ D env s₁ (bnd ρ x) → Acc U D X s₁.heap ys' → ys'.length ≤ (ys ++ xs.flatMap f).length → wpAny (model prog w) A body (fun _ s₂ => Ex g s₀ D env s₂ (bnd ρ x) ∧ Acc U D X s₂.heap (ys' ++ f x) ∧ Calm D s₁ s₂) NE s₁)
    (E₀ : Ex g s₀ D env s ρ) (a₀ : Acc U D X s.heap ys) (st₀ : St xs s.heap)
    (hR : ∀ s', Ex g s₀ D env s' ρ → Acc U D X s'.heap (ys ++ xs.flatMap f) → (∀ a o vs, a ∉ I → s.heap.get? a = some o → o.data = .fields vs → s'.heap.get? a = some o) → Le D s.heap s'.heap → R (.ok .next) s') :
    codeAny (model prog w) A (.compLoop (.ListComp elt gens scope pos) d it (.ref X) env) R s := by
  refine codeAny_loop rfl (fun n s₁ => ∃ done rem, rem.length = n ∧ xs = done ++ rem ∧ Ex g s₀ D env s₁ ρ ∧ Acc U D X s₁.heap (ys ++ done.flatMap f) ∧ St rem s₁.heap ∧ (∀ a o vs, a ∉ I → s.heap.get? a = some o → o.data = .fields vs → s₁.heap.get? a = some o) ∧ Le D s.heap s₁.heap) (fun n s₁ hI => ?_) xs.length ⟨[], xs, rfl, rfl, E₀, by simpa using a₀, st₀, (fun _ _ _ _ e _ => e), fun _ _ _ _ e => e⟩
  obtain ⟨done, rem, hn, hxs, X₁, a₁, st₁, c₁, l₁⟩ := hI
  show wpAny _ A ((compTurn (.ListComp elt gens scope pos) d it (.ref X) env).onRaise (fun x => do noteFrame x env; theTreesLotGoes x)) _ _ s₁
  refine wpAny_noted (noted_ne (E := fun _ _ => True) ?_)
  refine wpAny_mono (tn s₁ _ ?_) (fun _ _ q => q) fun _ _ e => e
  have step : ∀ {s₂ : Shared}, StepI I s₁ s₂ → ∀ a o vs, a ∉ I → s.heap.get? a = some o → o.data = .fields vs → s₂.heap.get? a = some o := fun st a o vs n e d => stepI_get st n (c₁ a o vs n e d)
  cases rem with
  | nil =>
    refine wpAny_mono (S.fin (E := NE) (Q := fun s₂ => R (.ok .next) s₂) st₁ fun s₂ hst => ?_) (fun r s₂ h => .inl ⟨h.1, h.2⟩) fun _ _ e => e
    obtain ⟨X₂, o₂⟩ := X₁.stepI ⟨newI, apI, S.here st₁⟩ hst
    refine hR s₂ X₂ ?_ (step hst) (fun b o nd f e => o₂ b o (l₁ b o nd f e) (fun q => nd (q ▸ X₁.fm.volL)) f)
    have : xs = done := by simpa using hxs
    rw [this]
    exact acc_oth a₁ o₂ (fun b o nd f e => o₂ b o e (fun q => nd (q ▸ X₁.fm.volL)) f) hX
  | cons x rem =>
    refine wpAny_mono (S.draw (E := NE) (Q := fun v s₂ => wpAny (model prog w) A (assign tg env v) (fun _ s₃ => wpAny (model prog w) A body (fun _ s₄ => Code.compLoop (.ListComp elt gens scope pos) d it (.ref X) env = Code.compLoop (.ListComp elt gens scope pos) d it (.ref X) env ∧ ∃ m, m < n ∧
        ∃ done rem, rem.length = m ∧ xs = done ++ rem ∧ Ex g s₀ D env s₄ ρ ∧ Acc U D X s₄.heap (ys ++ done.flatMap f) ∧ St rem s₄.heap ∧ (∀ a o vs, a ∉ I → s.heap.get? a = some o → o.data = .fields vs → s₄.heap.get? a = some o) ∧ Le D s.heap s₄.heap) NE s₃) NE s₂) st₁ X₁.live fun v s₂ hst hv st₂ => ?_)
      (fun r s₂ h => .inr ?_) fun _ _ e => e
    · obtain ⟨X₂, o₂⟩ := X₁.stepI ⟨newI, apI, S.here st₁⟩ hst
      have a₂ := acc_oth a₁ o₂ (fun b o nd f e => o₂ b o e (fun q => nd (q ▸ X₁.fm.volL)) f) hX
      refine ha X₂ hv fun s₃ X₃ o₃ => ?_
      have a₃ := acc_oth a₂ (oth_others o₃) o₃.calm.le hX
      refine wpAny_mono (hbody x (by rw [hxs]; simp) s₃ _ X₃ a₃ (by rw [hxs]; simp [List.flatMap_append])) (fun _ s₄ h => ⟨rfl, rem.length, by simp at hn; omega, done ++ [x], rem, rfl, by rw [hxs]; simp, ?_, ?_, ?_, ?_, ?_⟩) fun _ _ e => e
      · exact h.1.weak (hb x)
      · have := h.2.1
        rw [List.append_assoc] at this
        simpa [List.flatMap_append] using this
      · exact S.frame st₂ (o₃.calm.trans h.2.2).le fun a m o e => by
          obtain ⟨o', vs, e', d'⟩ := S.here st₂ a m
          rw [e] at e'; cases e'
          exact h.2.2.fields a o vs (o₃.calm.fields a o vs e d') d'
      · exact fun a o vs n e d => h.2.2.fields a o vs (o₃.calm.fields a o vs (step hst a o vs n e d) d) d
      · exact fun b o nd f e => h.2.2.le b o nd f (o₃.calm.le b o nd f (o₂ b o (l₁ b o nd f e) (fun q => nd (q ▸ X₁.fm.volL)) f))
    · obtain ⟨v, rfl, h⟩ := h
      exact ⟨v, rfl, h⟩

/-- the end of a turn of the innermost clause -/
def emit (elt : Expr) (ifs : List Expr) (acc : Value) (env : Env) : Sem Unit := do
  let ok ← forIn ifs true fun c r => if r = true then do let ok ← isTrue c env (eval c env); pure (ForInStep.yield ok) else pure (ForInStep.yield r)
  if ok = true then do
    let x ← eval elt env
    let _ ← call (.builtin "list.append") [acc, x]
    pure ()
  else pure ()

theorem turns_one {elt iter tg : Expr} {ifs : List Expr} {scope : Scope} {pos : Pos} {it acc : Value} : Turns prog w A (.ListComp elt [⟨tg, iter, ifs, 0⟩] scope pos) 0 it acc env tg (emit elt ifs acc env) := fun s Q h => by
  rw [compTurn_list]
  refine wpAny_bind (wpAny_standAt (wpAny_bind (wpAny_mono h (fun r s₁ h₁ => ?_) fun _ _ e => e)))
  rcases h₁ with ⟨rfl, h₁⟩ | ⟨v, rfl, h₁⟩
  · exact wpAny_pure h₁
  · refine wpAny_bind (wpAny_mono h₁ (fun _ s₂ h₂ => wpAny_bind (wpAny_mono h₂ (fun _ s₃ h₃ => ?_) fun _ _ e => e)) fun _ _ e => e)
    intro Γ p hΓ
    have h₃' := h₃ Γ p hΓ
    unfold emit at h₃'
    rw [Sem.wp_bind'] at h₃' ⊢
    refine Sem.wp_mono _ Γ _ (fun ok p' s₄ h₄ => ?_) (fun _ _ _ e => e) p s₃ h₃'
    cases ok with
    | false => exact h₄
    | true =>
      simp only [if_true] at h₄ ⊢
      rw [Sem.wp_bind'] at h₄ ⊢
      rw [Sem.wp_bind']
      refine Sem.wp_mono _ Γ _ (fun x p'' s₅ h₅ => ?_) (fun _ _ _ e => e) p' s₄ h₄
      rw [Sem.wp_bind'] at h₅ ⊢
      refine Sem.wp_mono _ Γ _ (fun x p'' s₅ h₅ => ?_) (fun _ _ _ e => e) p'' s₅ h₅
      exact h₅

theorem call_append {l : Addr} {items : Array Value} {n : Nat} {x : Value} {Q : Value → Shared → Prop} {E : Value → Shared → Prop} (hl : s.heap.get? l = some (lstObj items n)) (hsz : items.size ≤ 20000)
    (h : ∀ h' n', h'.get? l = some (lstObj (items.push x) n') → Heap.SameBut l s.heap h' → Q .none { s with heap := h' }) : wpAny (model prog w) A (call (.builtin "list.append") [.ref l, x]) Q E s := by
  refine wpAny_call_entry slot_list_append (isList_of hl).typeIs entry_list_append ?_ (args_list_append _ _)
  show wpAny _ _ (updateSeq l (·.push x) >>= fun _ => ret .none) _ _ s
  refine wpAny_bind (wpAny_updateSeq hl rfl (wpAny_pure ⟨.none, rfl, h _ _ (Heap.get?_update_self _ hl rfl) (Heap.SameBut.update ..)⟩) ?_)
  rw [sizeLine_eq]; omega

/-- the tests of a clause, none or one -/
abbrev Tests (prog : Program) (w : World) (A : Around) (D : Addr → Prop) (s : Shared) (ifs : List Expr) (env : Env) (b : Bool) : Prop :=
  Hs prog w A D s (forIn ifs true fun c r => if r = true then do let ok ← isTrue c env (eval c env); pure (ForInStep.yield ok) else pure (ForInStep.yield r)) fun _ ok => ok = b
theorem tests_none : Tests prog w A D s [] env true := Hs.of fun s' Q k l h => wpAny_tests_nil (h _ _ (keeps_refl _) rfl)
theorem tests_one {c : Expr} {b : Bool} (h : Tst prog w A D s c env b) : Tests prog w A D s [c] env b := fun s' k l => wpAny_tests_one (h s' k l)

theorem emit_ok {elt : Expr} {ifs : List Expr} {X : Addr} {β : Type} {U : Ty β} {b : Bool} {y : β} {ys : List β} (E₀ : Ex g s₀ D env s ρ) (a₀ : Acc U D X s.heap ys) (hX : X ≠ env.locals) (dX : D X) (nX : s₀.heap.get? X = none) (ht : Tests prog w A D s ifs env b)
    (he : b = true → Has prog w A D s (eval elt env) U y) (hsz : ys.length ≤ 10000) :
    wpAny (model prog w) A (emit elt ifs (.ref X) env) (fun _ s₂ => Ex g s₀ D env s₂ ρ ∧ Acc U D X s₂.heap (ys ++ if b then [y] else []) ∧ Calm D s s₂) NE s := by
  unfold emit
  refine wpAny_bind (wpAny_mono (ht s (keeps_refl s) E₀.live) (fun ok s₁ h₁ => ?_) fun _ _ e => e)
  obtain ⟨k₁, rfl⟩ := h₁
  cases ok with
  | false => exact wpAny_pure ⟨E₀.up k₁, by simpa using acc_keeps a₀ k₁, .keeps k₁⟩
  | true =>
    simp only [if_true]
    refine wpAny_bind (wpAny_mono (he rfl s₁ k₁ (live_keeps E₀.live k₁)) (fun v s₂ h₂ => ?_) fun _ _ e => e)
    obtain ⟨k₂, hv⟩ := h₂
    have k := keeps_trans k₁ k₂
    obtain ⟨vs, n, e, p⟩ := acc_keeps a₀ k
    have hvs : vs.length ≤ 10000 := by rw [p.length]; exact hsz
    refine wpAny_bind (call_append e (by rw [List.size_toArray]; omega) fun h' n' hl hs => wpAny_pure ?_)
    have X₂ := E₀.up k
    obtain ⟨X₃, c₃⟩ := X₂.mut (tk := s₂.toks) hs dX nX e (firm_lst _ _) hl hX
    refine ⟨X₃, ⟨vs ++ [v], n', by rw [hl]; simp, ?_⟩, (Calm.keeps k).trans c₃⟩
    exact paired_append (paired_mono (fun _ _ => U.mono c₃.le) p) (.cons (U.mono c₃.le hv) .nil)
end
end Mine

end
section

open PySem PySem.W PyProof.Rows PySem.Calls
namespace Mine
section
variable {prog : Program} {w : World} {A : Around} {D : Addr → Prop} {s s₁ s₂ s₀ : Shared} {g : Heap} {env : Env} {ρ : Rho} {mg mb : Str → Option Value}

theorem new_comp_env {scope : Scope} {cl : List (Str × Addr)} {Q : Env → Shared → Prop} {E : Value → Shared → Prop}
    (h : Q (newEnv scope s.heap.objs.size env.globals (cellsFrom (s.heap.objs.size + 1) scope.names cl) env.qual none .none (some env) builtinsNs) { s with heap := pushCells (s.heap.push { cls := .type "dict", data := .dict #[] }) scope.names }) :
    wpAny (model prog w) A (newFunctionEnv scope env.globals cl [] env.qual none .none (some env)) Q E s := by
  simp only [newFunctionEnv, Option.isSome_some, if_true]
  refine wpAny_bind (wpAny_alloc ?_)
  refine wpAny_bind (wpAny_layCells _ (fun name kind cells => by cases hkc : kind == NameKind.cell <;> simp [hkc]) _ _ _ _ ?_)
  rw [show ({ s with heap := s.heap.push { cls := .type "dict", data := .dict #[] } } : Shared).heap.objs.size = s.heap.objs.size + 1 from Heap.size_push ..]
  rw [List.forIn_nil]
  exact wpAny_bind (wpAny_pure (wpAny_pure h))

/-- what the writer of a comprehension's inside may lean on -/
structure CompIn (s : Shared) (scope : Scope) (cs : List (Str × Addr)) (C X : Addr) (D' : Addr → Prop) : Prop where
  cells : ∀ n, (n, NameKind.cell) ∈ scope.names → ∃ c, cs.lookup n = some c ∧ s.heap.get? c = none
  ne : X ≠ C
  dX : D' X
  nX : s.heap.get? X = none

theorem pushCells_size (names : List (Str × NameKind)) : ∀ h : Heap, h.objs.size ≤ (pushCells h names).objs.size := by
  induction names with
  | nil => intro h; exact Nat.le_refl _
  | cons y r ih =>
    obtain ⟨n, k⟩ := y
    intro h
    unfold pushCells
    split
    · exact Nat.le_trans (by rw [Heap.size_push]; omega) (ih _)
    · exact ih h

theorem comp_run {elt tg iter : Expr} {ifs : List Expr} {rest : List Comprehension} {scope : Scope} {pos : Pos} {α β : Type} {T : Ty α} {U : Ty β} {bnd : Rho → α → Rho} {f : α → List β} {xs : List α} {fl : List Str} {use : Option (Value → Sem Unit)} {Q : Value → Shared → Prop} {p0 : Pos}
    (X : Ex g s₀ D env s ρ) (hi : Iters prog w A D s iter env T tg xs) (cs : CompScope scope env fl) (hb : ∀ x z e, pick fl ρ z = some e → bnd (pick fl ρ) x z = some e) (hsz : (xs.flatMap f).length ≤ 9000)
    (hin : ∀ s' cl C X' D', Keeps s s' → CompIn s' scope cl C X' D' → ∃ body, (∀ it, Turns prog w A (.ListComp elt (⟨tg, iter, ifs, 0⟩ :: rest) scope pos) 0 it (.ref X') (compEnvC scope cl C env) tg body) ∧
      Asg prog w A g s' D' (compEnvC scope cl C env) tg T bnd ∧
      ∀ x ∈ xs, ∀ s₁ ys, Ex g s' D' (compEnvC scope cl C env) s₁ (bnd (pick fl ρ) x) → Acc U D' X' s₁.heap ys → ys.length ≤ 9000 →
        wpAny (model prog w) A body (fun _ s₂ => Ex g s' D' (compEnvC scope cl C env) s₂ (bnd (pick fl ρ) x) ∧ Acc U D' X' s₂.heap (ys ++ f x) ∧ Calm D' s₁ s₂) NE s₁)
    (hQ : ∀ s' C X' D' cl, Keeps s s' → s.heap.get? X' = none → s.heap.get? C = none → X' ≠ C → (D' = fun a => (D a ∨ a = X') ∨ a = C) → (∃ m, s'.heap.Ns C m) → Ex g s D' (compEnvC scope cl C env) s' (pick fl ρ) → Acc U D' X' s'.heap (xs.flatMap f) →
      compPost (model prog w) A NE use Q (.ref X') C (.ok .next) s')
    (hs : ∀ x, foldedSetIterable iter env x = pure x := by intro _; rfl) :
    wpAny (model prog w) A (comprehension (.ListComp elt (⟨tg, iter, ifs, 0⟩ :: rest) scope pos) scope env p0 (newList []) false (eval iter env) use) Q NE s := by
  refine wpAny_comprehension_free rfl hs (closureFor_is fun y m e => X.fm.cellOk y.1 (cs.free y m e)) cs.kind cs.names (wpAny_mono (hi s (keeps_refl s) X.live) (fun v s₁ h => wpAny_mono h (fun it s₂ h => ?_) fun _ _ e => e.elim) fun _ _ e => e.elim)
  obtain ⟨k02, I, newI, src⟩ := h
  refine wpAny_newList (new_comp_env ?_) (by rw [sizeLine_eq]; simp)
  have k2 : Keeps s₂ { s₂ with heap := s₂.heap.push { cls := .type "list", data := .seq ([] : List Value).toArray } } := keeps_push s₂ _
  generalize hs3 : ({ s₂ with heap := s₂.heap.push { cls := .type "list", data := .seq ([] : List Value).toArray } } : Shared) = s₃ at k2 ⊢
  have k03 := keeps_trans k02 k2
  have hX0 : s.heap.get? s₂.heap.objs.size = none := none_of_keeps k02
  have hX2 : s₂.heap.get? s₂.heap.objs.size = none := none_size _
  have hX3 : s₃.heap.get? s₂.heap.objs.size = some (lstObj #[] 0) := by rw [← hs3]; exact Heap.get?_push_size _ rfl
  have hC0 : s.heap.get? s₃.heap.objs.size = none := none_of_keeps k03
  have hC2 : s₂.heap.get? s₃.heap.objs.size = none := none_of_keeps k2
  have hXC : s₂.heap.objs.size ≠ s₃.heap.objs.size := by rw [← hs3]; show s₂.heap.objs.size ≠ (s₂.heap.push _).objs.size; rw [Heap.size_push]; omega
  obtain ⟨E₄, k34⟩ := comp_frame (D' := fun a => (D a ∨ a = s₂.heap.objs.size) ∨ a = s₃.heap.objs.size) (k1 := k03) cs X hX0 hX3 rfl
  generalize hs4 : ({ s₃ with heap := pushCells (s₃.heap.push { cls := .type "dict", data := .dict #[] }) scope.names } : Shared) = s₄ at E₄ k34 ⊢
  have hD' : ∀ a o, s₂.heap.get? a = some o → ((D a ∨ a = s₂.heap.objs.size) ∨ a = s₃.heap.objs.size) → D a := fun a o e d => by
    rcases d with (d | rfl) | rfl
    · exact d
    · rw [hX2] at e; cases e
    · rw [hC2] at e; cases e
  obtain ⟨St, S, st⟩ := src (fun a => (D a ∨ a = s₂.heap.objs.size) ∨ a = s₃.heap.objs.size) hD'
  have ci : CompIn s scope (cellsFrom (s₃.heap.objs.size + 1) scope.names (freeCells env.cells scope.names [])) s₃.heap.objs.size s₂.heap.objs.size (fun a => (D a ∨ a = s₂.heap.objs.size) ∨ a = s₃.heap.objs.size) := by
    refine ⟨fun n m => ?_, hXC, .inl (.inr rfl), hX0⟩
    obtain ⟨c, hc, hge⟩ := cellsFrom_new scope.names (s₃.heap.objs.size + 1) (freeCells env.cells scope.names []) m
    exact ⟨c, hc, none_above k03 (by omega)⟩
  obtain ⟨body, tn, asg, hbody⟩ := hin s _ _ _ _ (keeps_refl s) ci
  have loop : codeAny (model prog w) A (.compLoop (.ListComp elt (⟨tg, iter, ifs, 0⟩ :: rest) scope pos) 0 it (.ref s₂.heap.objs.size) (compEnvC scope (cellsFrom (s₃.heap.objs.size + 1) scope.names (freeCells env.cells scope.names [])) s₃.heap.objs.size env))
      (compPost (model prog w) A NE use Q (.ref s₂.heap.objs.size) s₃.heap.objs.size) s₄ := by
    refine comp_loop (f := f) (ys := []) (tn it) S asg hb hXC newI (fun a m d => ?_) (fun x hx s₁ ys hE ha hl => hbody x hx s₁ ys hE ha (Nat.le_trans hl (by simpa using hsz))) E₄ ?_ ?_ fun s' E' a' _ _ => ?_
    · obtain ⟨o, vs, e, _⟩ := S.here st a m
      have := newI a m
      obtain ⟨o2, e2⟩ := X.live a (hD' a o e d)
      rw [this] at e2; cases e2
    · exact ⟨[], 0, keeps_get k34 hX3, .nil⟩
    · exact S.frame st (fun b o _ _ e => keeps_get (keeps_trans k2 k34) e) fun a m o e => keeps_get (keeps_trans k2 k34) e
    · refine hQ s' _ _ _ _ E'.kp hX0 hC0 hXC rfl E'.fm.ns E' (by simpa using a')
  exact codeAny_compStart_list loop (S.self (S.frame st (fun b o _ _ e => keeps_get (keeps_trans k2 k34) e) fun a m o e => keeps_get (keeps_trans k2 k34) e) loop)

theorem has_compT {elt tg iter : Expr} {ifs : List Expr} {rest : List Comprehension} {scope : Scope} {pos : Pos} {α β : Type} {T : Ty α} {U : Ty β} {bnd : Rho → α → Rho} {f : α → List β} {xs : List α} {fl : List Str}
    (X : Ex g s₀ D env s ρ) (hi : Iters prog w A D s iter env T tg xs) (cs : CompScope scope env fl) (hb : ∀ x z e, pick fl ρ z = some e → bnd (pick fl ρ) x z = some e) (hsz : (xs.flatMap f).length ≤ 9000)
    (hin : ∀ s' cl C X' D', Keeps s s' → CompIn s' scope cl C X' D' → ∃ body, (∀ it, Turns prog w A (.ListComp elt (⟨tg, iter, ifs, 0⟩ :: rest) scope pos) 0 it (.ref X') (compEnvC scope cl C env) tg body) ∧
      Asg prog w A g s' D' (compEnvC scope cl C env) tg T bnd ∧
      ∀ x ∈ xs, ∀ s₁ ys, Ex g s' D' (compEnvC scope cl C env) s₁ (bnd (pick fl ρ) x) → Acc U D' X' s₁.heap ys → ys.length ≤ 9000 →
        wpAny (model prog w) A body (fun _ s₂ => Ex g s' D' (compEnvC scope cl C env) s₂ (bnd (pick fl ρ) x) ∧ Acc U D' X' s₂.heap (ys ++ f x) ∧ Calm D' s₁ s₂) NE s₁)
    (hs : ∀ x, foldedSetIterable iter env x = pure x := by intro _; rfl) :
    Has prog w A D s (eval (.ListComp elt (⟨tg, iter, ifs, 0⟩ :: rest) scope pos) env) (tNew s U) (xs.flatMap f) := fun s' k l => by
  rw [eval_ListComp]
  refine comp_run (use := none) (X.up k) (fun s'' k' l' => hi s'' (keeps_trans k k') l') cs hb hsz (fun s'' cl C X' D' k' ci => hin s'' cl C X' D' (keeps_trans k k') ci) (fun s₅ C X' D' cl k5 hX hC hne hD' hns E' a' => ?_) hs
  obtain ⟨m, hn⟩ := hns
  refine ⟨m, hn, fun h' hs' => ?_⟩
  obtain ⟨vs, n, e, p⟩ := a'
  have hle : Le D' s₅.heap h' := le_of_sameBut hs' (.inl (by rw [hD']; exact .inr rfl))
  have kk : Keeps s' { s₅ with heap := h' } := by
    obtain ⟨h5, t5, rfl, hk5⟩ := k5
    exact ⟨h', t5, rfl, fun b o e => (hs'.2 b (fun q => by rw [q, hC] at e; cases e)).trans (hk5 b o e)⟩
  refine ⟨kk, X', n, vs, rfl, fun d => live_none l hX d, (hs'.2 X' hne).trans e, paired_mono (fun u y q => ?_) p, keeps_none k hX⟩
  exact U.wide (fun a o _ d => by rw [hD']; exact .inl (.inl d)) (U.mono hle q)

theorem has_comp {elt tg iter : Expr} {ifs : List Expr} {rest : List Comprehension} {scope : Scope} {pos : Pos} {α β : Type} {T : Ty α} {U : Ty β} {bnd : Rho → α → Rho} {f : α → List β} {xs : List α} {fl : List Str}
    (X : Ex g s₀ D env s ρ) (hi : Iters prog w A D s iter env T tg xs) (cs : CompScope scope env fl) (hb : ∀ x z e, pick fl ρ z = some e → bnd (pick fl ρ) x z = some e) (hsz : (xs.flatMap f).length ≤ 9000)
    (hin : ∀ s' cl C X' D', Keeps s s' → CompIn s' scope cl C X' D' → ∃ body, (∀ it, Turns prog w A (.ListComp elt (⟨tg, iter, ifs, 0⟩ :: rest) scope pos) 0 it (.ref X') (compEnvC scope cl C env) tg body) ∧
      Asg prog w A g s' D' (compEnvC scope cl C env) tg T bnd ∧
      ∀ x ∈ xs, ∀ s₁ ys, Ex g s' D' (compEnvC scope cl C env) s₁ (bnd (pick fl ρ) x) → Acc U D' X' s₁.heap ys → ys.length ≤ 9000 →
        wpAny (model prog w) A body (fun _ s₂ => Ex g s' D' (compEnvC scope cl C env) s₂ (bnd (pick fl ρ) x) ∧ Acc U D' X' s₂.heap (ys ++ f x) ∧ Calm D' s₁ s₂) NE s₁)
    (hs : ∀ x, foldedSetIterable iter env x = pure x := by intro _; rfl) :
    Has prog w A D s (eval (.ListComp elt (⟨tg, iter, ifs, 0⟩ :: rest) scope pos) env) (tList U) (xs.flatMap f) := (has_compT X hi cs hb hsz hin hs).old

/-- one clause, a test or none -/
theorem has_comp1T {elt tg iter : Expr} {ifs : List Expr} {scope : Scope} {pos : Pos} {α β : Type} {T : Ty α} {U : Ty β} {bnd : Rho → α → Rho} {p : α → Bool} {f : α → β} {xs : List α} {fl : List Str}
    (X : Ex g s₀ D env s ρ) (hi : Iters prog w A D s iter env T tg xs) (cs : CompScope scope env fl) (hb : ∀ x z e, pick fl ρ z = some e → bnd (pick fl ρ) x z = some e) (hsz : xs.length ≤ 9000)
    (ha : ∀ s' cl C X' D', Keeps s s' → CompIn s' scope cl C X' D' → Asg prog w A g s' D' (compEnvC scope cl C env) tg T bnd)
    (ht : ∀ x ∈ xs, ∀ s' cl C X' D' s₁, Keeps s s' → CompIn s' scope cl C X' D' → Ex g s' D' (compEnvC scope cl C env) s₁ (bnd (pick fl ρ) x) → Tests prog w A D' s₁ ifs (compEnvC scope cl C env) (p x))
    (he : ∀ x ∈ xs, p x = true → ∀ s' cl C X' D' s₁, Keeps s s' → CompIn s' scope cl C X' D' → Ex g s' D' (compEnvC scope cl C env) s₁ (bnd (pick fl ρ) x) → Has prog w A D' s₁ (eval elt (compEnvC scope cl C env)) U (f x))
    (hs : ∀ x, foldedSetIterable iter env x = pure x := by intro _; rfl) :
    Has prog w A D s (eval (.ListComp elt [⟨tg, iter, ifs, 0⟩] scope pos) env) (tNew s U) (xs.flatMap fun x => if p x then [f x] else []) := by
  refine has_compT X hi cs hb ?_ (fun s' cl C X' D' k ci => ⟨emit elt ifs (.ref X') (compEnvC scope cl C env), fun it => turns_one, ha s' cl C X' D' k ci, fun x hx s₁ ys hE ac hl => ?_⟩) hs
  · refine Nat.le_trans ?_ hsz
    clear hsz hi ht he
    induction xs with
    | nil => simp
    | cons x xs ih =>
      rw [List.flatMap_cons, List.length_append, List.length_cons]
      split
      · simp only [List.length_cons, List.length_nil]; omega
      · simp only [List.length_nil]; omega
  · exact emit_ok hE ac ci.ne ci.dX ci.nX (ht x hx s' cl C X' D' s₁ k ci hE) (fun hp => he x hx hp s' cl C X' D' s₁ k ci hE) (by omega)

theorem has_comp1 {elt tg iter : Expr} {ifs : List Expr} {scope : Scope} {pos : Pos} {α β : Type} {T : Ty α} {U : Ty β} {bnd : Rho → α → Rho} {p : α → Bool} {f : α → β} {xs : List α} {fl : List Str}
    (X : Ex g s₀ D env s ρ) (hi : Iters prog w A D s iter env T tg xs) (cs : CompScope scope env fl) (hb : ∀ x z e, pick fl ρ z = some e → bnd (pick fl ρ) x z = some e) (hsz : xs.length ≤ 9000)
    (ha : ∀ s' cl C X' D', Keeps s s' → CompIn s' scope cl C X' D' → Asg prog w A g s' D' (compEnvC scope cl C env) tg T bnd)
    (ht : ∀ x ∈ xs, ∀ s' cl C X' D' s₁, Keeps s s' → CompIn s' scope cl C X' D' → Ex g s' D' (compEnvC scope cl C env) s₁ (bnd (pick fl ρ) x) → Tests prog w A D' s₁ ifs (compEnvC scope cl C env) (p x))
    (he : ∀ x ∈ xs, p x = true → ∀ s' cl C X' D' s₁, Keeps s s' → CompIn s' scope cl C X' D' → Ex g s' D' (compEnvC scope cl C env) s₁ (bnd (pick fl ρ) x) → Has prog w A D' s₁ (eval elt (compEnvC scope cl C env)) U (f x))
    (hs : ∀ x, foldedSetIterable iter env x = pure x := by intro _; rfl) :
    Has prog w A D s (eval (.ListComp elt [⟨tg, iter, ifs, 0⟩] scope pos) env) (tList U) (xs.flatMap fun x => if p x then [f x] else []) := (has_comp1T X hi cs hb hsz ha ht he hs).old

theorem flatMap_filter {α β : Type} (p : α → Bool) (f : α → β) : ∀ xs : List α, (xs.flatMap fun x => if p x then [f x] else []) = (xs.filter p).map f
  | [] => rfl
  | x :: xs => by
    rw [List.flatMap_cons, flatMap_filter p f xs, List.filter_cons]
    split <;> simp
end
end Mine

end
section

open PySem PySem.W PyProof.Rows PySem.Calls
namespace Mine
section
variable {prog : Program} {w : World} {A : Around} {D : Addr → Prop} {s s₁ s₂ s₀ : Shared} {g : Heap} {env : Env} {ρ : Rho} {mg mb : Str → Option Value}

theorem Ex.retype {x : Str} {α β : Type} {T : Ty α} {y : α} {U : Ty β} {z : β} (X : Ex g s₀ D env s (upd ρ x ⟨T, y⟩)) (h : ∀ v, T.is D s.heap v y → U.is D s.heap v z) : Ex g s₀ D env s (upd ρ x ⟨U, z⟩) :=
  ⟨X.sub, X.kp, X.live, ⟨X.fm.kind, X.fm.ns, X.fm.newL, X.fm.volL, X.fm.cells, X.fm.apart, X.fm.cellOk, X.fm.glob, fun n e q => by
    unfold upd at q
    split at q
    · rename_i hn
      cases q
      subst hn
      obtain ⟨v, a, b⟩ := X.fm.names n _ (if_pos rfl)
      exact ⟨v, a, h v b⟩
    · rename_i hn
      exact X.fm.names n e (by unfold upd; rw [if_neg hn]; exact q)⟩⟩

/-- a name store whose list is made by a comprehension, on the road that stores ahead of the clean-up -/
theorem ex_assign_compM {y : Str} {py spos : Pos} {elt tg iter : Expr} {ifs : List Expr} {rest : List Comprehension} {scope : Scope} {pos : Pos} {α β : Type} {T : Ty α} {U : Ty β} {bnd : Rho → α → Rho} {f : α → List β} {xs : List α} {fl : List Str}
    {Q : Flow → Shared → Prop} {E : Value → Shared → Prop} (X : Ex g s₀ D env s ρ) (o : Own s₀ env y) (hi : Iters prog w A D s iter env T tg xs) (cs : CompScope scope env fl) (hb : ∀ x z e, pick fl ρ z = some e → bnd (pick fl ρ) x z = some e) (hsz : (xs.flatMap f).length ≤ 9000)
    (hin : ∀ s' cl C X' D', Keeps s s' → CompIn s' scope cl C X' D' → ∃ body, (∀ it, Turns prog w A (.ListComp elt (⟨tg, iter, ifs, 0⟩ :: rest) scope pos) 0 it (.ref X') (compEnvC scope cl C env) tg body) ∧
      Asg prog w A g s' D' (compEnvC scope cl C env) tg T bnd ∧
      ∀ x ∈ xs, ∀ s₁ ys, Ex g s' D' (compEnvC scope cl C env) s₁ (bnd (pick fl ρ) x) → Acc U D' X' s₁.heap ys → ys.length ≤ 9000 →
        wpAny (model prog w) A body (fun _ s₂ => Ex g s' D' (compEnvC scope cl C env) s₂ (bnd (pick fl ρ) x) ∧ Acc U D' X' s₂.heap (ys ++ f x) ∧ Calm D' s₁ s₂) NE s₁)
    (h : ∀ s' p, s.heap.get? p = none → Ex g s₀ (Plus D p) env s' (upd ρ y ⟨tVal, .ref p⟩) → Acc U (Plus D p) p s'.heap (xs.flatMap f) → p ≠ env.locals → Others D env s s' → Q .next s')
    (hsw : swapsWith (.ListComp elt (⟨tg, iter, ifs, 0⟩ :: rest) scope pos) (some (.Name y py)) spos.line env = pure true := by rfl)
    (hs : ∀ x, foldedSetIterable iter env x = pure x := by intro _; rfl) :
    wpAny (model prog w) A (exec (.Assign [.Name y py] (.ListComp elt (⟨tg, iter, ifs, 0⟩ :: rest) scope pos) spos) env) Q E s := by
  rw [exec_Assign_Name_used _ _ _ _ hsw]
  refine wpAny_bind (wpAny_standAt (wpAny_bind ?_))
  show wpAny _ A (do let _ ← comprehension (.ListComp elt (⟨tg, iter, ifs, 0⟩ :: rest) scope pos) scope env _ (newList []) false (eval iter env) (some (assign (.Name y py) env))) _ _ s
  refine wpAny_bind (wpAny_mono (comp_run (use := some (assign (.Name y py) env)) (Q := fun _ s' => Q .next s') X hi cs hb hsz hin (fun s' C X' D' cl k hX hC hne hD' hns E' a' => ?_) hs) (fun _ s' q => wpAny_pure (wpAny_pure q)) fun _ _ e => e.elim)
  show wpAny _ A (assign (.Name y py) env (.ref X')) _ _ s'
  obtain ⟨m, hn⟩ := hns
  obtain ⟨vs, n, e, p⟩ := a'
  have hD1 : ∀ a o, s.heap.get? a = some o → (Plus D X' a ∨ a = C) → D a := fun a oa ea d => by
    rcases d with (d | d) | d
    · exact d
    · rw [d, hX] at ea; cases ea
    · rw [d, hC] at ea; cases ea
  have hl1 : Live (fun a => Plus D X' a ∨ a = C) s'.heap := fun a d => E'.live a (by rw [hD']; exact d)
  have X1 := X.grow k hD1 hl1 (.inl (.inl X.fm.volL))
  have hCL : C ≠ env.locals := by
    rintro rfl
    obtain ⟨m0, o0, _, _, e0, _⟩ := X.fm.ns
    rw [hC] at e0; cases e0
  have hXL : X' ≠ env.locals := by
    rintro rfl
    obtain ⟨m0, o0, _, _, e0, _⟩ := X.fm.ns
    rw [hX] at e0; cases e0
  refine wpAny_assign_Name (X1.store (T := tVal) (y := .ref X') o rfl fun s'' X2 ot => ?_)
  obtain ⟨oC, es, ep, eC, dC, rC⟩ := id hn
  have eC'' : s''.heap.get? C = some oC := ot.still C oC eC hCL fun v q => by rw [dC] at q; cases q
  refine ⟨m, ⟨oC, es, ep, eC'', dC, rC⟩, fun h' hs' => ?_⟩
  have sC : s.heap.get? C = none := hC
  have old : ∀ a ob, s.heap.get? a = some ob → a ≠ C := fun a ob ea q => by rw [q, sC] at ea; cases ea
  have hle : Le (fun a => Plus D X' a ∨ a = C) s''.heap h' := le_of_sameBut hs' (.inl (.inr rfl))
  refine h _ X' hX ⟨X2.sub, ?_, ?_, ⟨X2.fm.kind, ?_, X2.fm.newL, .inl X.fm.volL, fun x c q => ?_, X2.fm.apart, X2.fm.cellOk, X2.fm.glob, fun x ee q => ?_⟩⟩ ⟨vs, n, (hs'.2 X' hne).trans (ot.still X' _ e hXL fun v q => by cases q), paired_mono (fun u z q => ?_) p⟩ hXL ⟨fun a ob ea na nc => ?_, ?_, fun a ob vs ea d => ?_⟩
  · obtain ⟨h2, t2, rfl, hk2⟩ := X2.kp
    exact ⟨h', t2, rfl, fun b ob eb => (hs'.2 b fun q => by
      have := keeps_get X.kp eb
      rw [q, sC] at this; cases this).trans (hk2 b ob eb)⟩
  · intro a d
    obtain ⟨ob, ea⟩ := X2.live a (.inl d)
    refine ⟨ob, (hs'.2 a fun q => ?_).trans ea⟩
    rcases d with d | d
    · exact live_none X.live sC (q ▸ d)
    · exact hne (d.symm.trans q)
  · obtain ⟨m2, hn2⟩ := X2.fm.ns
    exact ⟨m2, hn2.sameBut hs' (Ne.symm hCL)⟩
  · obtain ⟨v, hv⟩ := X2.fm.cells x c q
    refine ⟨v, hv.sameBut hs' fun z => ?_⟩
    obtain ⟨o3, e3, d3⟩ := hv
    rw [z, eC''] at e3; cases e3
    rw [dC] at d3; cases d3
  · obtain ⟨v, hv, ht⟩ := X2.fm.names x ee q
    refine ⟨v, ?_, ee.T.wide (fun a _ _ d => .inl d) (ee.T.mono hle ht)⟩
    rcases hv with ⟨q1, m2, hn2, hm2⟩ | ⟨q1, c, hc, hcv⟩
    · exact .inl ⟨q1, m2, hn2.sameBut hs' (Ne.symm hCL), hm2⟩
    · refine .inr ⟨q1, c, hc, hcv.sameBut hs' fun z => ?_⟩
      obtain ⟨o3, e3, d3⟩ := hcv
      rw [z, eC''] at e3; cases e3
      rw [dC] at d3; cases d3
  · refine U.wide (fun a _ _ d => .inl d) (U.mono hle (U.mono ot.calm.le (U.wide (fun a _ _ d => ?_) q)))
    rw [hD']; exact d
  · exact (hs'.2 a (old a ob ea)).trans (ot.still a ob (keeps_get k ea) na nc)
  · exact fun a ob nd f ea => (hs'.2 a (old a ob ea)).trans (ot.calm.le a ob (fun d => nd (hD1 a ob ea d)) f (keeps_get k ea))
  · exact (hs'.2 a (old a ob ea)).trans (ot.calm.fields a ob vs (keeps_get k ea) d)

/-- a list of the frame's own that turns no more -/
theorem Ex.freeze {x : Str} {p : Addr} {α : Type} {U : Ty α} {ys : List α} {D' : Addr → Prop} (X : Ex g s₀ D' env s (upd ρ x ⟨tVal, .ref p⟩)) (a : Acc U D' p s.heap ys) (hD : ∀ b o, s.heap.get? b = some o → D b → D' b) (hp : ¬ D p) (hL : D env.locals) (hl : Live D s.heap) (n : s₁.heap.get? p = none) :
    Ex g s₀ D env s (upd ρ x ⟨tNew s₁ U, ys⟩) :=
  (X.wide hD hl hL).retype fun v e => by
    obtain ⟨vs, m, e', q⟩ := a
    exact ⟨p, m, vs, e, hp, e', paired_mono (fun _ _ => U.wide hD) q, n⟩

theorem ex_assign_compT {y : Str} {py spos : Pos} {elt tg iter : Expr} {ifs : List Expr} {rest : List Comprehension} {scope : Scope} {pos : Pos} {α β : Type} {T : Ty α} {U : Ty β} {bnd : Rho → α → Rho} {f : α → List β} {xs : List α} {fl : List Str}
    {Q : Flow → Shared → Prop} {E : Value → Shared → Prop} (X : Ex g s₀ D env s ρ) (o : Own s₀ env y) (hi : Iters prog w A D s iter env T tg xs) (cs : CompScope scope env fl) (hb : ∀ x z e, pick fl ρ z = some e → bnd (pick fl ρ) x z = some e) (hsz : (xs.flatMap f).length ≤ 9000)
    (hin : ∀ s' cl C X' D', Keeps s s' → CompIn s' scope cl C X' D' → ∃ body, (∀ it, Turns prog w A (.ListComp elt (⟨tg, iter, ifs, 0⟩ :: rest) scope pos) 0 it (.ref X') (compEnvC scope cl C env) tg body) ∧
      Asg prog w A g s' D' (compEnvC scope cl C env) tg T bnd ∧
      ∀ x ∈ xs, ∀ s₁ ys, Ex g s' D' (compEnvC scope cl C env) s₁ (bnd (pick fl ρ) x) → Acc U D' X' s₁.heap ys → ys.length ≤ 9000 →
        wpAny (model prog w) A body (fun _ s₂ => Ex g s' D' (compEnvC scope cl C env) s₂ (bnd (pick fl ρ) x) ∧ Acc U D' X' s₂.heap (ys ++ f x) ∧ Calm D' s₁ s₂) NE s₁)
    (h : ∀ s', Ex g s₀ D env s' (upd ρ y ⟨tNew s U, xs.flatMap f⟩) → Others D env s s' → Q .next s')
    (hsw : swapsWith (.ListComp elt (⟨tg, iter, ifs, 0⟩ :: rest) scope pos) (some (.Name y py)) spos.line env = pure true := by rfl)
    (hs : ∀ x, foldedSetIterable iter env x = pure x := by intro _; rfl) :
    wpAny (model prog w) A (exec (.Assign [.Name y py] (.ListComp elt (⟨tg, iter, ifs, 0⟩ :: rest) scope pos) spos) env) Q E s :=
  ex_assign_compM X o hi cs hb hsz hin (fun s' p hp X' a hL ot => h s' (X'.freeze a (fun _ _ _ d => .inl d) (fun d => live_none X.live hp d) X.fm.volL (fun b d => X'.live b (.inl d)) hp) ot) hsw hs

theorem ex_assign_comp {y : Str} {py spos : Pos} {elt tg iter : Expr} {ifs : List Expr} {rest : List Comprehension} {scope : Scope} {pos : Pos} {α β : Type} {T : Ty α} {U : Ty β} {bnd : Rho → α → Rho} {f : α → List β} {xs : List α} {fl : List Str}
    {Q : Flow → Shared → Prop} {E : Value → Shared → Prop} (X : Ex g s₀ D env s ρ) (o : Own s₀ env y) (hi : Iters prog w A D s iter env T tg xs) (cs : CompScope scope env fl) (hb : ∀ x z e, pick fl ρ z = some e → bnd (pick fl ρ) x z = some e) (hsz : (xs.flatMap f).length ≤ 9000)
    (hin : ∀ s' cl C X' D', Keeps s s' → CompIn s' scope cl C X' D' → ∃ body, (∀ it, Turns prog w A (.ListComp elt (⟨tg, iter, ifs, 0⟩ :: rest) scope pos) 0 it (.ref X') (compEnvC scope cl C env) tg body) ∧
      Asg prog w A g s' D' (compEnvC scope cl C env) tg T bnd ∧
      ∀ x ∈ xs, ∀ s₁ ys, Ex g s' D' (compEnvC scope cl C env) s₁ (bnd (pick fl ρ) x) → Acc U D' X' s₁.heap ys → ys.length ≤ 9000 →
        wpAny (model prog w) A body (fun _ s₂ => Ex g s' D' (compEnvC scope cl C env) s₂ (bnd (pick fl ρ) x) ∧ Acc U D' X' s₂.heap (ys ++ f x) ∧ Calm D' s₁ s₂) NE s₁)
    (h : ∀ s', Ex g s₀ D env s' (upd ρ y ⟨tList U, xs.flatMap f⟩) → Others D env s s' → Q .next s')
    (hsw : swapsWith (.ListComp elt (⟨tg, iter, ifs, 0⟩ :: rest) scope pos) (some (.Name y py)) spos.line env = pure true := by rfl)
    (hs : ∀ x, foldedSetIterable iter env x = pure x := by intro _; rfl) :
    wpAny (model prog w) A (exec (.Assign [.Name y py] (.ListComp elt (⟨tg, iter, ifs, 0⟩ :: rest) scope pos) spos) env) Q E s :=
  ex_assign_compT X o hi cs hb hsz hin (fun s' X' ot => h s' (X'.retype fun _ => tNew_old) ot) hsw hs

/-- the same, one clause -/
theorem ex_assign_comp1M {y : Str} {py spos : Pos} {elt tg iter : Expr} {ifs : List Expr} {scope : Scope} {pos : Pos} {α β : Type} {T : Ty α} {U : Ty β} {bnd : Rho → α → Rho} {p : α → Bool} {f : α → β} {xs : List α} {fl : List Str}
    {Q : Flow → Shared → Prop} {E : Value → Shared → Prop} (X : Ex g s₀ D env s ρ) (o : Own s₀ env y) (hi : Iters prog w A D s iter env T tg xs) (cs : CompScope scope env fl) (hb : ∀ x z e, pick fl ρ z = some e → bnd (pick fl ρ) x z = some e) (hsz : xs.length ≤ 9000)
    (ha : ∀ s' cl C X' D', Keeps s s' → CompIn s' scope cl C X' D' → Asg prog w A g s' D' (compEnvC scope cl C env) tg T bnd)
    (ht : ∀ x ∈ xs, ∀ s' cl C X' D' s₁, Keeps s s' → CompIn s' scope cl C X' D' → Ex g s' D' (compEnvC scope cl C env) s₁ (bnd (pick fl ρ) x) → Tests prog w A D' s₁ ifs (compEnvC scope cl C env) (p x))
    (he : ∀ x ∈ xs, p x = true → ∀ s' cl C X' D' s₁, Keeps s s' → CompIn s' scope cl C X' D' → Ex g s' D' (compEnvC scope cl C env) s₁ (bnd (pick fl ρ) x) → Has prog w A D' s₁ (eval elt (compEnvC scope cl C env)) U (f x))
    (h : ∀ s' q, s.heap.get? q = none → Ex g s₀ (Plus D q) env s' (upd ρ y ⟨tVal, .ref q⟩) → Acc U (Plus D q) q s'.heap ((xs.filter p).map f) → q ≠ env.locals → Others D env s s' → Q .next s')
    (hsw : swapsWith (.ListComp elt [⟨tg, iter, ifs, 0⟩] scope pos) (some (.Name y py)) spos.line env = pure true := by rfl)
    (hs : ∀ x, foldedSetIterable iter env x = pure x := by intro _; rfl) :
    wpAny (model prog w) A (exec (.Assign [.Name y py] (.ListComp elt [⟨tg, iter, ifs, 0⟩] scope pos) spos) env) Q E s := by
  refine ex_assign_compM (f := fun x => if p x then [f x] else []) X o hi cs hb ?_ (fun s' cl C X' D' k ci => ⟨emit elt ifs (.ref X') (compEnvC scope cl C env), fun it => turns_one, ha s' cl C X' D' k ci, fun x hx s₁ ys hE ac hl => ?_⟩) (fun s' q hq X' a hL ot => h s' q hq X' (by rw [flatMap_filter] at a; exact a) hL ot) hsw hs
  · rw [flatMap_filter, List.length_map]
    exact Nat.le_trans (List.length_filter_le _ _) hsz
  · exact emit_ok hE ac ci.ne ci.dX ci.nX (ht x hx s' cl C X' D' s₁ k ci hE) (fun hp => he x hx hp s' cl C X' D' s₁ k ci hE) (by omega)

theorem ex_assign_comp1T {y : Str} {py spos : Pos} {elt tg iter : Expr} {ifs : List Expr} {scope : Scope} {pos : Pos} {α β : Type} {T : Ty α} {U : Ty β} {bnd : Rho → α → Rho} {p : α → Bool} {f : α → β} {xs : List α} {fl : List Str}
    {Q : Flow → Shared → Prop} {E : Value → Shared → Prop} (X : Ex g s₀ D env s ρ) (o : Own s₀ env y) (hi : Iters prog w A D s iter env T tg xs) (cs : CompScope scope env fl) (hb : ∀ x z e, pick fl ρ z = some e → bnd (pick fl ρ) x z = some e) (hsz : xs.length ≤ 9000)
    (ha : ∀ s' cl C X' D', Keeps s s' → CompIn s' scope cl C X' D' → Asg prog w A g s' D' (compEnvC scope cl C env) tg T bnd)
    (ht : ∀ x ∈ xs, ∀ s' cl C X' D' s₁, Keeps s s' → CompIn s' scope cl C X' D' → Ex g s' D' (compEnvC scope cl C env) s₁ (bnd (pick fl ρ) x) → Tests prog w A D' s₁ ifs (compEnvC scope cl C env) (p x))
    (he : ∀ x ∈ xs, p x = true → ∀ s' cl C X' D' s₁, Keeps s s' → CompIn s' scope cl C X' D' → Ex g s' D' (compEnvC scope cl C env) s₁ (bnd (pick fl ρ) x) → Has prog w A D' s₁ (eval elt (compEnvC scope cl C env)) U (f x))
    (h : ∀ s', Ex g s₀ D env s' (upd ρ y ⟨tNew s U, (xs.filter p).map f⟩) → Others D env s s' → Q .next s')
    (hsw : swapsWith (.ListComp elt [⟨tg, iter, ifs, 0⟩] scope pos) (some (.Name y py)) spos.line env = pure true := by rfl)
    (hs : ∀ x, foldedSetIterable iter env x = pure x := by intro _; rfl) :
    wpAny (model prog w) A (exec (.Assign [.Name y py] (.ListComp elt [⟨tg, iter, ifs, 0⟩] scope pos) spos) env) Q E s := by
  refine ex_assign_compT (f := fun x => if p x then [f x] else []) X o hi cs hb ?_ (fun s' cl C X' D' k ci => ⟨emit elt ifs (.ref X') (compEnvC scope cl C env), fun it => turns_one, ha s' cl C X' D' k ci, fun x hx s₁ ys hE ac hl => ?_⟩) (fun s' X' ot => h s' (by rw [flatMap_filter] at X'; exact X') ot) hsw hs
  · rw [flatMap_filter, List.length_map]
    exact Nat.le_trans (List.length_filter_le _ _) hsz
  · exact emit_ok hE ac ci.ne ci.dX ci.nX (ht x hx s' cl C X' D' s₁ k ci hE) (fun hp => he x hx hp s' cl C X' D' s₁ k ci hE) (by omega)

/-- the same, one clause -/
theorem ex_assign_comp1 {y : Str} {py spos : Pos} {elt tg iter : Expr} {ifs : List Expr} {scope : Scope} {pos : Pos} {α β : Type} {T : Ty α} {U : Ty β} {bnd : Rho → α → Rho} {p : α → Bool} {f : α → β} {xs : List α} {fl : List Str}
    {Q : Flow → Shared → Prop} {E : Value → Shared → Prop} (X : Ex g s₀ D env s ρ) (o : Own s₀ env y) (hi : Iters prog w A D s iter env T tg xs) (cs : CompScope scope env fl) (hb : ∀ x z e, pick fl ρ z = some e → bnd (pick fl ρ) x z = some e) (hsz : xs.length ≤ 9000)
    (ha : ∀ s' cl C X' D', Keeps s s' → CompIn s' scope cl C X' D' → Asg prog w A g s' D' (compEnvC scope cl C env) tg T bnd)
    (ht : ∀ x ∈ xs, ∀ s' cl C X' D' s₁, Keeps s s' → CompIn s' scope cl C X' D' → Ex g s' D' (compEnvC scope cl C env) s₁ (bnd (pick fl ρ) x) → Tests prog w A D' s₁ ifs (compEnvC scope cl C env) (p x))
    (he : ∀ x ∈ xs, p x = true → ∀ s' cl C X' D' s₁, Keeps s s' → CompIn s' scope cl C X' D' → Ex g s' D' (compEnvC scope cl C env) s₁ (bnd (pick fl ρ) x) → Has prog w A D' s₁ (eval elt (compEnvC scope cl C env)) U (f x))
    (h : ∀ s', Ex g s₀ D env s' (upd ρ y ⟨tList U, (xs.filter p).map f⟩) → Others D env s s' → Q .next s')
    (hsw : swapsWith (.ListComp elt [⟨tg, iter, ifs, 0⟩] scope pos) (some (.Name y py)) spos.line env = pure true := by rfl)
    (hs : ∀ x, foldedSetIterable iter env x = pure x := by intro _; rfl) :
    wpAny (model prog w) A (exec (.Assign [.Name y py] (.ListComp elt [⟨tg, iter, ifs, 0⟩] scope pos) spos) env) Q E s := by
  refine ex_assign_comp (f := fun x => if p x then [f x] else []) X o hi cs hb ?_ (fun s' cl C X' D' k ci => ⟨emit elt ifs (.ref X') (compEnvC scope cl C env), fun it => turns_one, ha s' cl C X' D' k ci, fun x hx s₁ ys hE ac hl => ?_⟩) (fun s' X' ot => h s' (by rw [flatMap_filter] at X'; exact X') ot) hsw hs
  · rw [flatMap_filter, List.length_map]
    exact Nat.le_trans (List.length_filter_le _ _) hsz
  · exact emit_ok hE ac ci.ne ci.dX ci.nX (ht x hx s' cl C X' D' s₁ k ci hE) (fun hp => he x hx hp s' cl C X' D' s₁ k ci hE) (by omega)

-- two clauses
/-- the end of a turn of the outer clause: the inner clause run -/
def inner (e : Expr) (it1 : Expr) (acc : Value) (env : Env) : Sem Unit := do
  let x ← eval it1 env
  standAt it1.pos
  let x ← foldedSetIterable it1 env x
  let _ ← runOwn (.compStart e 1 (← holding [x] (pyIter x)) acc env) env
  pure ()

theorem turns_outer {elt it0 it1 tg0 tg1 : Expr} {ifs1 : List Expr} {scope : Scope} {pos : Pos} {it acc : Value} :
    Turns prog w A (.ListComp elt [⟨tg0, it0, [], 0⟩, ⟨tg1, it1, ifs1, 0⟩] scope pos) 0 it acc env tg0 (inner (.ListComp elt [⟨tg0, it0, [], 0⟩, ⟨tg1, it1, ifs1, 0⟩] scope pos) it1 acc env) := fun s Q h => by
  have e : compTurn (.ListComp elt [⟨tg0, it0, [], 0⟩, ⟨tg1, it1, ifs1, 0⟩] scope pos) 0 it acc env = (standAt it0.pos >>= fun _ => pyNext it >>= fun r => match r with
      | none => pure (.done .next)
      | some v => letOwnedTupleGo tg0 it v >>= fun _ => assign tg0 env v >>= fun _ => eval it1 env >>= fun x => standAt it1.pos >>= fun _ => foldedSetIterable it1 env x >>= fun x => holding [x] (pyIter x) >>= fun i =>
          runOwn (.compStart (.ListComp elt [⟨tg0, it0, [], 0⟩, ⟨tg1, it1, ifs1, 0⟩] scope pos) 1 i acc env) env >>= fun _ =>
          again (.compLoop (.ListComp elt [⟨tg0, it0, [], 0⟩, ⟨tg1, it1, ifs1, 0⟩] scope pos) 0 it acc env)) := by rfl
  rw [e]
  refine wpAny_bind (wpAny_standAt (wpAny_bind (wpAny_mono h (fun r s₁ h₁ => ?_) fun _ _ e => e)))
  rcases h₁ with ⟨rfl, h₁⟩ | ⟨v, rfl, h₁⟩
  · exact wpAny_pure h₁
  · refine wpAny_bind (wpAny_mono h₁ (fun _ s₂ h₂ => wpAny_bind (wpAny_mono h₂ (fun _ s₃ h₃ => ?_) fun _ _ e => e)) fun _ _ e => e)
    unfold inner at h₃
    intro Γ p hΓ
    have h₃' := h₃ Γ p hΓ
    simp only [Sem.wp_bind', Sem.wp_pure'] at h₃' ⊢
    exact h₃'

theorem turns_inner {elt it0 it1 tg0 tg1 : Expr} {ifs0 ifs1 : List Expr} {scope : Scope} {pos : Pos} {it acc : Value} :
    Turns prog w A (.ListComp elt [⟨tg0, it0, ifs0, 0⟩, ⟨tg1, it1, ifs1, 0⟩] scope pos) 1 it acc env tg1 (emit elt ifs1 acc env) := fun s Q h => by
  have e : compTurn (.ListComp elt [⟨tg0, it0, ifs0, 0⟩, ⟨tg1, it1, ifs1, 0⟩] scope pos) 1 it acc env = (do
      standAt it1.pos
      match ← pyNext it with
      | none => pure (.done .next)
      | some v =>
        letOwnedTupleGo tg1 it v
        assign tg1 env v
        let mut ok := true
        for c in ifs1 do
          if ok then ok ← isTrue c env (eval c env)
        if ok then
          (do let _ ← call (.builtin "list.append") [acc, ← eval elt env])
        again (.compLoop (.ListComp elt [⟨tg0, it0, ifs0, 0⟩, ⟨tg1, it1, ifs1, 0⟩] scope pos) 1 it acc env)) := by rfl
  rw [e]
  refine wpAny_bind (wpAny_standAt (wpAny_bind (wpAny_mono h (fun r s₁ h₁ => ?_) fun _ _ e => e)))
  rcases h₁ with ⟨rfl, h₁⟩ | ⟨v, rfl, h₁⟩
  · exact wpAny_pure h₁
  · refine wpAny_bind (wpAny_mono h₁ (fun _ s₂ h₂ => wpAny_bind (wpAny_mono h₂ (fun _ s₃ h₃ => ?_) fun _ _ e => e)) fun _ _ e => e)
    intro Γ p hΓ
    have h₃' := h₃ Γ p hΓ
    unfold emit at h₃'
    rw [Sem.wp_bind'] at h₃' ⊢
    refine Sem.wp_mono _ Γ _ (fun ok p' s₄ h₄ => ?_) (fun _ _ _ e => e) p s₃ h₃'
    cases ok with
    | false => exact h₄
    | true =>
      simp only [if_true] at h₄ ⊢
      rw [Sem.wp_bind'] at h₄ ⊢
      rw [Sem.wp_bind']
      refine Sem.wp_mono _ Γ _ (fun x p'' s₅ h₅ => ?_) (fun _ _ _ e => e) p' s₄ h₄
      rw [Sem.wp_bind'] at h₅ ⊢
      refine Sem.wp_mono _ Γ _ (fun x p'' s₅ h₅ => ?_) (fun _ _ _ e => e) p'' s₅ h₅
      exact h₅

theorem codeAny_compStart1 {elt it0 it1 tg0 tg1 : Expr} {ifs0 ifs1 : List Expr} {scope : Scope} {pos : Pos} {it acc : Value} {R : Result → Shared → Prop}
    (h0 : codeAny (model prog w) A (.compLoop (.ListComp elt [⟨tg0, it0, ifs0, 0⟩, ⟨tg1, it1, ifs1, 0⟩] scope pos) 1 it acc env) R s)
    (h : wpAny (model prog w) A (pyIter it) (fun it' s' => codeAny (model prog w) A (.compLoop (.ListComp elt [⟨tg0, it0, ifs0, 0⟩, ⟨tg1, it1, ifs1, 0⟩] scope pos) 1 it' acc env) R s') NE s) :
    codeAny (model prog w) A (.compStart (.ListComp elt [⟨tg0, it0, ifs0, 0⟩, ⟨tg1, it1, ifs1, 0⟩] scope pos) 1 it acc env) R s := by
  refine codeAny_of_tree ?_
  show wpAny _ _ ((compStart (.ListComp elt [⟨tg0, it0, ifs0, 0⟩, ⟨tg1, it1, ifs1, 0⟩] scope pos) 1 it acc env).onRaise (fun x => do noteFrame x env; standAt theWindowsPlace)) _ _ s
  refine wpAny_notedAt (noted_ne (E := fun _ _ => True) ?_)
  unfold compStart
  show wpAny _ _ (ask >>= _) _ _ s
  refine wpAny_bind (wpAny_askSetting (wpAny_ite ?_))
  split
  · first
      | exact wpAny_bind (wpAny_pure (wpAny_pure (And.intro rfl h0)))
      | exact wpAny_pure (And.intro rfl h0)
  · first
      | exact wpAny_bind (wpAny_rule (wpAny_bind (wpAny_standAt (wpAny_bind (wpAny_mono h (fun it' s' h' => wpAny_pure (And.intro rfl h')) fun _ _ x => x)))))
      | (refine wpAny_bind (wpAny_rule ?_); show wpAny _ _ (standAt it1.pos >>= _) _ _ s; exact wpAny_bind (wpAny_standAt (wpAny_bind (wpAny_mono h (fun it' s' h' => wpAny_pure (And.intro rfl h')) fun _ _ x => x))))

/-- the inner clause, run whole -/
theorem inner_ok {elt it0 it1 tg0 tg1 : Expr} {ifs0 ifs1 : List Expr} {scope : Scope} {pos : Pos} {X : Addr} {α β : Type} {T : Ty α} {U : Ty β} {bnd : Rho → α → Rho} {p : α → Bool} {f : α → β} {xs : List α} {ys : List β}
    (E₀ : Ex g s₀ D env s ρ) (a₀ : Acc U D X s.heap ys) (hX : X ≠ env.locals) (dX : D X) (nX : s₀.heap.get? X = none)
    (hi : Iters prog w A D s it1 env T tg1 xs) (ha : Asg prog w A g s₀ D env tg1 T bnd) (hb : ∀ x z e, ρ z = some e → bnd ρ x z = some e) (hsz : ys.length + xs.length ≤ 10000)
    (ht : ∀ x ∈ xs, ∀ s₁, Ex g s₀ D env s₁ (bnd ρ x) → Tests prog w A D s₁ ifs1 env (p x))
    (he : ∀ x ∈ xs, p x = true → ∀ s₁, Ex g s₀ D env s₁ (bnd ρ x) → Has prog w A D s₁ (eval elt env) U (f x))
    (hs : ∀ x, foldedSetIterable it1 env x = pure x := by intro _; rfl) :
    wpAny (model prog w) A (inner (.ListComp elt [⟨tg0, it0, ifs0, 0⟩, ⟨tg1, it1, ifs1, 0⟩] scope pos) it1 (.ref X) env) (fun _ s₂ => Ex g s₀ D env s₂ ρ ∧ Acc U D X s₂.heap (ys ++ xs.flatMap fun x => if p x then [f x] else []) ∧ Calm D s s₂) NE s := by
  unfold inner
  refine wpAny_bind (wpAny_mono (hi s (keeps_refl s) E₀.live) (fun v s₁ h => ?_) fun _ _ e => e)
  refine wpAny_bind (wpAny_standAt (wpAny_bind (wpAny_of_eq (hs v) (wpAny_bind (wpAny_holding (wpAny_mono h (fun it s₂ h => ?_) fun _ _ e => e))))))
  obtain ⟨k, I, newI, src⟩ := h
  obtain ⟨St, S, st⟩ := src D fun _ _ _ d => d
  have lenf : ∀ l : List α, (l.flatMap fun x => if p x then [f x] else []).length ≤ l.length := fun l => by
    rw [flatMap_filter, List.length_map]; exact List.length_filter_le _ _
  have newI' : ∀ a ∈ I, s₀.heap.get? a = none := fun a m => by
    cases e : s₀.heap.get? a with
    | none => rfl
    | some o => have := keeps_get E₀.kp e; rw [newI a m] at this; cases this
  have E₂ := E₀.up k
  have loop : codeAny (model prog w) A (.compLoop (.ListComp elt [⟨tg0, it0, ifs0, 0⟩, ⟨tg1, it1, ifs1, 0⟩] scope pos) 1 it (.ref X) env) (fun r s' => r = .ok .next ∧ Ex g s₀ D env s' ρ ∧ Acc U D X s'.heap (ys ++ xs.flatMap fun x => if p x then [f x] else []) ∧ Calm D s s') s₂ :=
    comp_loop turns_inner S ha hb hX newI' (fun a m => live_none E₀.live (newI a m)) (fun x hx s₁ ys' hE ac hl => emit_ok hE ac hX dX nX (ht x hx s₁ hE) (fun q => he x hx q s₁ hE) (by
      have := lenf xs
      rw [List.length_append] at hl
      omega)) E₂ (acc_keeps a₀ k) st fun s' E' a' c' l' => ⟨rfl, E', a', fun b o nd f e => l' b o nd f (keeps_get k e), fun a o vs e d => c' a o vs (fun m => by rw [newI a m] at e; cases e) (keeps_get k e) d⟩
  refine wpAny_bind (wpAny_runOwn (codeAny_mono (codeAny_compStart1 loop (S.self st loop)) fun r s' h => ?_))
  obtain ⟨rfl, h⟩ := h
  exact wpAny_pure h
end
end Mine

end
section

open PySem PySem.W PyProof.Rows PySem.Calls
namespace Mine

/-- the kinds of a frame's names are its scope's -/
structure Kinds (scope : Scope) (env : Env) : Prop where
  kd : ∀ {z : Str} {k : NameKind}, scope.names.lookup z = some k → k ≠ .free → env.kindOf z = some k
  kf : ∀ {z : Str}, scope.names.lookup z = some .free → env.kindOf z = some .cell ∨ env.kindOf z = some .free

theorem kinds_of {scope : Scope} {env : Env} (h : env.scope = scope) : Kinds scope env := by
  subst h
  exact ⟨fun e _ => e, fun e => .inr e⟩
theorem kinds_comp {scope : Scope} {env : Env} {cl : List (Str × Addr)} {C : Addr} : Kinds scope (compEnvC scope cl C env) := by
  refine ⟨fun {z k} h hk => ?_, fun {z} h => lookup_relabel_free (env := env) h⟩
  show (scope.names.map fun (n, k) => if (k == NameKind.free && env.scope.kind == .function && env.kindOf n == some .cell) then (n, NameKind.cell) else (n, k)).lookup z = some k
  generalize scope.names = names at h
  induction names with
  | nil => simp at h
  | cons y r ih =>
    obtain ⟨n, k'⟩ := y
    rw [List.lookup_cons] at h
    rw [List.map_cons]
    cases hx : z == n with
    | true =>
      rw [hx] at h
      cases h
      have : (k == NameKind.free) = false := by simpa using hk
      simp only [this, Bool.false_and]
      rw [if_neg (by decide), List.lookup_cons, hx]
    | false =>
      rw [hx] at h
      dsimp only
      split
      · rw [List.lookup_cons, hx]; exact ih h
      · rw [List.lookup_cons, hx]; exact ih h

section
variable {prog : Program} {w : World} {A : Around} {D : Addr → Prop} {s s₁ s₂ s₀ : Shared} {g : Heap} {env : Env} {ρ : Rho} {mg mb : Str → Option Value}

theorem own_local {scope : Scope} (K : Kinds scope env) {n : Str} (h : scope.names.lookup n = some .local) : Own s₀ env n := .inl (K.kd h (by decide))

def freeOf (scope : Scope) : List Str := (scope.names.filter fun x => x.2 == .free).map (·.1)

theorem compScope_mk {scope sc : Scope} (K : Kinds sc env) (hfree : ∀ x ∈ freeOf scope, sc.names.lookup x = some .cell ∨ sc.names.lookup x = some .free) (hk : scope.kind = .function := by rfl)
    (hn : ∀ x ∈ scope.names, x.2 = .local → scope.names.lookup x.1 = some .local := by decide)
    (hp : ∀ z ∈ freeOf scope, scope.names.lookup z = some .free ∧ (z, NameKind.cell) ∉ scope.names ∧ (z == ("__classdict__" : Str)) = false := by decide) : CompScope scope env (freeOf scope) := by
  refine ⟨hk, hn, fun x m e => ?_, hp⟩
  have : x.1 ∈ freeOf scope := List.mem_map.mpr ⟨x, List.mem_filter.mpr ⟨m, by rw [e]; rfl⟩, rfl⟩
  rcases hfree x.1 this with h | h
  · exact .inl (K.kd h (by decide))
  · exact K.kf h

theorem upd_keep {fl : List Str} {n : Str} {e' : Ent} (h : fl.contains n = false) : ∀ z e, pick fl ρ z = some e → upd (pick fl ρ) n e' z = some e := fun z e q => by
  unfold upd
  split
  · rename_i hz
    subst hz
    unfold pick at q
    rw [h] at q
    cases q
  · exact q
theorem upd2_keep {fl : List Str} {n m : Str} {e' e'' : Ent} (h : fl.contains n = false) (h' : fl.contains m = false) : ∀ z e, pick fl ρ z = some e → upd (upd (pick fl ρ) n e') m e'' z = some e := fun z e q => by
  unfold upd
  split
  · rename_i hz
    subst hz
    unfold pick at q
    rw [h'] at q
    cases q
  · exact upd_keep h z e q

theorem own_comp {scope : Scope} {cl : List (Str × Addr)} {C X' : Addr} {D' : Addr → Prop} (ci : CompIn s scope cl C X' D') {n : Str} (h : scope.names.lookup n = some .local ∨ scope.names.lookup n = some .cell) : Own s (compEnvC scope cl C env) n := by
  rcases h with h | h
  · exact .inl (kinds_comp.kd h (by decide))
  · obtain ⟨c, hc, hf⟩ := ci.cells n (mem_of_lookup h)
    exact .inr ⟨kinds_comp.kd h (by decide), c, hc, hf⟩

/-- a clause with a plain name -/
theorem has_compNT {elt iter : Expr} {n : Str} {pn : Pos} {ifs : List Expr} {scope : Scope} {pos : Pos} {α β : Type} {T : Ty α} {U : Ty β} {p : α → Bool} {f : α → β} {xs : List α} {fl : List Str}
    (X : Ex g s₀ D env s ρ) (hi : Iters prog w A D s iter env T (.Name n pn) xs) (cs : CompScope scope env fl) (hsz : xs.length ≤ 9000)
    (hn : scope.names.lookup n = some .local ∨ scope.names.lookup n = some .cell) (hfl : fl.contains n = false)
    (ht : ∀ x ∈ xs, ∀ env' s' D' s₁, Keeps s s' → Kinds scope env' → Ex g s' D' env' s₁ (upd (pick fl ρ) n ⟨T, x⟩) → Tests prog w A D' s₁ ifs env' (p x))
    (he : ∀ x ∈ xs, p x = true → ∀ env' s' D' s₁, Keeps s s' → Kinds scope env' → Ex g s' D' env' s₁ (upd (pick fl ρ) n ⟨T, x⟩) → Has prog w A D' s₁ (eval elt env') U (f x))
    (hs : ∀ x, foldedSetIterable iter env x = pure x := by intro _; rfl) :
    Has prog w A D s (eval (.ListComp elt [⟨.Name n pn, iter, ifs, 0⟩] scope pos) env) (tNew s U) ((xs.filter p).map f) := by
  rw [← flatMap_filter]
  exact has_comp1T X hi cs (fun x => upd_keep hfl) hsz (fun s' cl C X' D' k ci => asg_name (own_comp ci hn)) (fun x hx s' cl C X' D' s₁ k ci E => ht x hx _ s' D' s₁ k kinds_comp E) (fun x hx hp s' cl C X' D' s₁ k ci E => he x hx hp _ s' D' s₁ k kinds_comp E) hs

/-- a clause with a plain name -/
theorem has_compN {elt iter : Expr} {n : Str} {pn : Pos} {ifs : List Expr} {scope : Scope} {pos : Pos} {α β : Type} {T : Ty α} {U : Ty β} {p : α → Bool} {f : α → β} {xs : List α} {fl : List Str}
    (X : Ex g s₀ D env s ρ) (hi : Iters prog w A D s iter env T (.Name n pn) xs) (cs : CompScope scope env fl) (hsz : xs.length ≤ 9000)
    (hn : scope.names.lookup n = some .local ∨ scope.names.lookup n = some .cell) (hfl : fl.contains n = false)
    (ht : ∀ x ∈ xs, ∀ env' s' D' s₁, Keeps s s' → Kinds scope env' → Ex g s' D' env' s₁ (upd (pick fl ρ) n ⟨T, x⟩) → Tests prog w A D' s₁ ifs env' (p x))
    (he : ∀ x ∈ xs, p x = true → ∀ env' s' D' s₁, Keeps s s' → Kinds scope env' → Ex g s' D' env' s₁ (upd (pick fl ρ) n ⟨T, x⟩) → Has prog w A D' s₁ (eval elt env') U (f x))
    (hs : ∀ x, foldedSetIterable iter env x = pure x := by intro _; rfl) :
    Has prog w A D s (eval (.ListComp elt [⟨.Name n pn, iter, ifs, 0⟩] scope pos) env) (tList U) ((xs.filter p).map f) := by
  rw [← flatMap_filter]
  exact has_comp1 X hi cs (fun x => upd_keep hfl) hsz (fun s' cl C X' D' k ci => asg_name (own_comp ci hn)) (fun x hx s' cl C X' D' s₁ k ci E => ht x hx _ s' D' s₁ k kinds_comp E) (fun x hx hp s' cl C X' D' s₁ k ci E => he x hx hp _ s' D' s₁ k kinds_comp E) hs

/-- a clause that unpacks a pair -/
theorem has_compPT {elt iter : Expr} {n m : Str} {pn pm pt : Pos} {kt : Nat} {ifs : List Expr} {scope : Scope} {pos : Pos} {α α' β : Type} {T : Ty α} {T' : Ty α'} {U : Ty β} {p : α × α' → Bool} {f : α × α' → β} {xs : List (α × α')} {fl : List Str}
    (hh : A.handled = none) (X : Ex g s₀ D env s ρ) (hi : Iters prog w A D s iter env (tPair T T') (.Tuple [.Name n pn, .Name m pm] kt pt) xs) (cs : CompScope scope env fl) (hsz : xs.length ≤ 9000)
    (hn : scope.names.lookup n = some .local ∨ scope.names.lookup n = some .cell) (hfl : fl.contains n = false) (hm : scope.names.lookup m = some .local ∨ scope.names.lookup m = some .cell) (hfm : fl.contains m = false)
    (ht : ∀ x ∈ xs, ∀ env' s' D' s₁, Keeps s s' → Kinds scope env' → Ex g s' D' env' s₁ (upd (upd (pick fl ρ) n ⟨T, x.1⟩) m ⟨T', x.2⟩) → Tests prog w A D' s₁ ifs env' (p x))
    (he : ∀ x ∈ xs, p x = true → ∀ env' s' D' s₁, Keeps s s' → Kinds scope env' → Ex g s' D' env' s₁ (upd (upd (pick fl ρ) n ⟨T, x.1⟩) m ⟨T', x.2⟩) → Has prog w A D' s₁ (eval elt env') U (f x))
    (hs : ∀ x, foldedSetIterable iter env x = pure x := by intro _; rfl) :
    Has prog w A D s (eval (.ListComp elt [⟨.Tuple [.Name n pn, .Name m pm] kt pt, iter, ifs, 0⟩] scope pos) env) (tNew s U) ((xs.filter p).map f) := by
  rw [← flatMap_filter]
  exact has_comp1T X hi cs (fun x => upd2_keep hfl hfm) hsz (fun s' cl C X' D' k ci => asg_pair hh (own_comp ci hn) (own_comp ci hm)) (fun x hx s' cl C X' D' s₁ k ci E => ht x hx _ s' D' s₁ k kinds_comp E) (fun x hx hp s' cl C X' D' s₁ k ci E => he x hx hp _ s' D' s₁ k kinds_comp E) hs

/-- a clause that unpacks a pair -/
theorem has_compP {elt iter : Expr} {n m : Str} {pn pm pt : Pos} {kt : Nat} {ifs : List Expr} {scope : Scope} {pos : Pos} {α α' β : Type} {T : Ty α} {T' : Ty α'} {U : Ty β} {p : α × α' → Bool} {f : α × α' → β} {xs : List (α × α')} {fl : List Str}
    (hh : A.handled = none) (X : Ex g s₀ D env s ρ) (hi : Iters prog w A D s iter env (tPair T T') (.Tuple [.Name n pn, .Name m pm] kt pt) xs) (cs : CompScope scope env fl) (hsz : xs.length ≤ 9000)
    (hn : scope.names.lookup n = some .local ∨ scope.names.lookup n = some .cell) (hfl : fl.contains n = false) (hm : scope.names.lookup m = some .local ∨ scope.names.lookup m = some .cell) (hfm : fl.contains m = false)
    (ht : ∀ x ∈ xs, ∀ env' s' D' s₁, Keeps s s' → Kinds scope env' → Ex g s' D' env' s₁ (upd (upd (pick fl ρ) n ⟨T, x.1⟩) m ⟨T', x.2⟩) → Tests prog w A D' s₁ ifs env' (p x))
    (he : ∀ x ∈ xs, p x = true → ∀ env' s' D' s₁, Keeps s s' → Kinds scope env' → Ex g s' D' env' s₁ (upd (upd (pick fl ρ) n ⟨T, x.1⟩) m ⟨T', x.2⟩) → Has prog w A D' s₁ (eval elt env') U (f x))
    (hs : ∀ x, foldedSetIterable iter env x = pure x := by intro _; rfl) :
    Has prog w A D s (eval (.ListComp elt [⟨.Tuple [.Name n pn, .Name m pm] kt pt, iter, ifs, 0⟩] scope pos) env) (tList U) ((xs.filter p).map f) := by
  rw [← flatMap_filter]
  exact has_comp1 X hi cs (fun x => upd2_keep hfl hfm) hsz (fun s' cl C X' D' k ci => asg_pair hh (own_comp ci hn) (own_comp ci hm)) (fun x hx s' cl C X' D' s₁ k ci E => ht x hx _ s' D' s₁ k kinds_comp E) (fun x hx hp s' cl C X' D' s₁ k ci E => he x hx hp _ s' D' s₁ k kinds_comp E) hs

theorem ex_assign_compNM {y : Str} {py spos : Pos} {elt iter : Expr} {n : Str} {pn : Pos} {ifs : List Expr} {scope : Scope} {pos : Pos} {α β : Type} {T : Ty α} {U : Ty β} {p : α → Bool} {f : α → β} {xs : List α} {fl : List Str}
    {Q : Flow → Shared → Prop} {E : Value → Shared → Prop} (X : Ex g s₀ D env s ρ) (o : Own s₀ env y) (hi : Iters prog w A D s iter env T (.Name n pn) xs) (cs : CompScope scope env fl) (hsz : xs.length ≤ 9000)
    (hn : scope.names.lookup n = some .local ∨ scope.names.lookup n = some .cell) (hfl : fl.contains n = false)
    (ht : ∀ x ∈ xs, ∀ env' s' D' s₁, Keeps s s' → Kinds scope env' → Ex g s' D' env' s₁ (upd (pick fl ρ) n ⟨T, x⟩) → Tests prog w A D' s₁ ifs env' (p x))
    (he : ∀ x ∈ xs, p x = true → ∀ env' s' D' s₁, Keeps s s' → Kinds scope env' → Ex g s' D' env' s₁ (upd (pick fl ρ) n ⟨T, x⟩) → Has prog w A D' s₁ (eval elt env') U (f x))
    (h : ∀ s' q, s.heap.get? q = none → Ex g s₀ (Plus D q) env s' (upd ρ y ⟨tVal, .ref q⟩) → Acc U (Plus D q) q s'.heap ((xs.filter p).map f) → q ≠ env.locals → Others D env s s' → Q .next s')
    (hsw : swapsWith (.ListComp elt [⟨.Name n pn, iter, ifs, 0⟩] scope pos) (some (.Name y py)) spos.line env = pure true)
    (hs : ∀ x, foldedSetIterable iter env x = pure x := by intro _; rfl) :
    wpAny (model prog w) A (exec (.Assign [.Name y py] (.ListComp elt [⟨.Name n pn, iter, ifs, 0⟩] scope pos) spos) env) Q E s :=
  ex_assign_comp1M X o hi cs (fun x => upd_keep hfl) hsz (fun s' cl C X' D' k ci => asg_name (own_comp ci hn)) (fun x hx s' cl C X' D' s₁ k ci E => ht x hx _ s' D' s₁ k kinds_comp E) (fun x hx hp s' cl C X' D' s₁ k ci E => he x hx hp _ s' D' s₁ k kinds_comp E) h hsw hs

theorem ex_assign_compNT {y : Str} {py spos : Pos} {elt iter : Expr} {n : Str} {pn : Pos} {ifs : List Expr} {scope : Scope} {pos : Pos} {α β : Type} {T : Ty α} {U : Ty β} {p : α → Bool} {f : α → β} {xs : List α} {fl : List Str}
    {Q : Flow → Shared → Prop} {E : Value → Shared → Prop} (X : Ex g s₀ D env s ρ) (o : Own s₀ env y) (hi : Iters prog w A D s iter env T (.Name n pn) xs) (cs : CompScope scope env fl) (hsz : xs.length ≤ 9000)
    (hn : scope.names.lookup n = some .local ∨ scope.names.lookup n = some .cell) (hfl : fl.contains n = false)
    (ht : ∀ x ∈ xs, ∀ env' s' D' s₁, Keeps s s' → Kinds scope env' → Ex g s' D' env' s₁ (upd (pick fl ρ) n ⟨T, x⟩) → Tests prog w A D' s₁ ifs env' (p x))
    (he : ∀ x ∈ xs, p x = true → ∀ env' s' D' s₁, Keeps s s' → Kinds scope env' → Ex g s' D' env' s₁ (upd (pick fl ρ) n ⟨T, x⟩) → Has prog w A D' s₁ (eval elt env') U (f x))
    (h : ∀ s', Ex g s₀ D env s' (upd ρ y ⟨tNew s U, (xs.filter p).map f⟩) → Others D env s s' → Q .next s')
    (hsw : swapsWith (.ListComp elt [⟨.Name n pn, iter, ifs, 0⟩] scope pos) (some (.Name y py)) spos.line env = pure true)
    (hs : ∀ x, foldedSetIterable iter env x = pure x := by intro _; rfl) :
    wpAny (model prog w) A (exec (.Assign [.Name y py] (.ListComp elt [⟨.Name n pn, iter, ifs, 0⟩] scope pos) spos) env) Q E s :=
  ex_assign_comp1T X o hi cs (fun x => upd_keep hfl) hsz (fun s' cl C X' D' k ci => asg_name (own_comp ci hn)) (fun x hx s' cl C X' D' s₁ k ci E => ht x hx _ s' D' s₁ k kinds_comp E) (fun x hx hp s' cl C X' D' s₁ k ci E => he x hx hp _ s' D' s₁ k kinds_comp E) h hsw hs

theorem ex_assign_compN {y : Str} {py spos : Pos} {elt iter : Expr} {n : Str} {pn : Pos} {ifs : List Expr} {scope : Scope} {pos : Pos} {α β : Type} {T : Ty α} {U : Ty β} {p : α → Bool} {f : α → β} {xs : List α} {fl : List Str}
    {Q : Flow → Shared → Prop} {E : Value → Shared → Prop} (X : Ex g s₀ D env s ρ) (o : Own s₀ env y) (hi : Iters prog w A D s iter env T (.Name n pn) xs) (cs : CompScope scope env fl) (hsz : xs.length ≤ 9000)
    (hn : scope.names.lookup n = some .local ∨ scope.names.lookup n = some .cell) (hfl : fl.contains n = false)
    (ht : ∀ x ∈ xs, ∀ env' s' D' s₁, Keeps s s' → Kinds scope env' → Ex g s' D' env' s₁ (upd (pick fl ρ) n ⟨T, x⟩) → Tests prog w A D' s₁ ifs env' (p x))
    (he : ∀ x ∈ xs, p x = true → ∀ env' s' D' s₁, Keeps s s' → Kinds scope env' → Ex g s' D' env' s₁ (upd (pick fl ρ) n ⟨T, x⟩) → Has prog w A D' s₁ (eval elt env') U (f x))
    (h : ∀ s', Ex g s₀ D env s' (upd ρ y ⟨tList U, (xs.filter p).map f⟩) → Others D env s s' → Q .next s')
    (hsw : swapsWith (.ListComp elt [⟨.Name n pn, iter, ifs, 0⟩] scope pos) (some (.Name y py)) spos.line env = pure true)
    (hs : ∀ x, foldedSetIterable iter env x = pure x := by intro _; rfl) :
    wpAny (model prog w) A (exec (.Assign [.Name y py] (.ListComp elt [⟨.Name n pn, iter, ifs, 0⟩] scope pos) spos) env) Q E s :=
  ex_assign_comp1 X o hi cs (fun x => upd_keep hfl) hsz (fun s' cl C X' D' k ci => asg_name (own_comp ci hn)) (fun x hx s' cl C X' D' s₁ k ci E => ht x hx _ s' D' s₁ k kinds_comp E) (fun x hx hp s' cl C X' D' s₁ k ci E => he x hx hp _ s' D' s₁ k kinds_comp E) h hsw hs

/-- two clauses with plain names, the first without a test -/
theorem has_comp2 {elt it0 it1 : Expr} {n m : Str} {pn pm : Pos} {ifs : List Expr} {scope : Scope} {pos : Pos} {α α' β : Type} {T : Ty α} {T' : Ty α'} {U : Ty β} {xs : List α} {ys : α → List α'} {p : α → α' → Bool} {f : α → α' → β} {fl : List Str}
    (X : Ex g s₀ D env s ρ) (hi : Iters prog w A D s it0 env T (.Name n pn) xs) (cs : CompScope scope env fl)
    (hsz : (xs.flatMap fun x => ((ys x).filter (p x)).map (f x)).length ≤ 9000) (hsz' : ∀ x ∈ xs, (ys x).length ≤ 1000)
    (hn : scope.names.lookup n = some .local ∨ scope.names.lookup n = some .cell) (hfl : fl.contains n = false) (hm : scope.names.lookup m = some .local ∨ scope.names.lookup m = some .cell) (hfm : fl.contains m = false) (hnm : n ≠ m)
    (hi1 : ∀ x ∈ xs, ∀ env' s' D' s₁, Keeps s s' → Kinds scope env' → Ex g s' D' env' s₁ (upd (pick fl ρ) n ⟨T, x⟩) → Iters prog w A D' s₁ it1 env' T' (.Name m pm) (ys x))
    (ht : ∀ x ∈ xs, ∀ y ∈ ys x, ∀ env' s' D' s₁, Keeps s s' → Kinds scope env' → Ex g s' D' env' s₁ (upd (upd (pick fl ρ) n ⟨T, x⟩) m ⟨T', y⟩) → Tests prog w A D' s₁ ifs env' (p x y))
    (he : ∀ x ∈ xs, ∀ y ∈ ys x, p x y = true → ∀ env' s' D' s₁, Keeps s s' → Kinds scope env' → Ex g s' D' env' s₁ (upd (upd (pick fl ρ) n ⟨T, x⟩) m ⟨T', y⟩) → Has prog w A D' s₁ (eval elt env') U (f x y))
    (hs : ∀ x, foldedSetIterable it0 env x = pure x := by intro _; rfl) (hs1 : ∀ env' x, foldedSetIterable it1 env' x = pure x := by intro _ _; rfl) :
    Has prog w A D s (eval (.ListComp elt [⟨.Name n pn, it0, [], 0⟩, ⟨.Name m pm, it1, ifs, 0⟩] scope pos) env) (tList U) (xs.flatMap fun x => ((ys x).filter (p x)).map (f x)) :=
  has_comp X hi cs (fun x => upd_keep hfl) hsz (fun s' cl C X' D' k ci => ⟨inner _ it1 (.ref X') (compEnvC scope cl C env), fun it => turns_outer, asg_name (own_comp ci hn), fun x hx s₁ acc hE ac hl => by
    have key : ∀ l : List α', (l.flatMap fun y => if p x y then [f x y] else []) = (l.filter (p x)).map (f x) := flatMap_filter (p x) (f x)
    rw [← key]
    refine inner_ok hE ac ci.ne ci.dX ci.nX (hi1 x hx _ s' D' s₁ k kinds_comp hE) (asg_name (own_comp ci hm)) (fun y z e q => ?_) (by have := hsz' x hx; omega) (fun y hy s₂ E => ht x hx y hy _ s' D' s₂ k kinds_comp E) (fun y hy hp s₂ E => he x hx y hy hp _ s' D' s₂ k kinds_comp E) (hs1 _)
    show (if z = m then _ else upd (pick fl ρ) n ⟨T, x⟩ z) = some e
    split
    · rename_i hz
      subst hz
      unfold upd at q
      rw [if_neg (Ne.symm hnm)] at q
      unfold pick at q
      rw [hfm] at q
      cases q
    · exact q⟩) hs

-- calls of a module's functions with one, two arguments
theorem hs_fn1 {name : Str} {params : Arguments} {body : List Stmt} {scope : Scope} {f : Value} {k : Nat} {P : Heap → Value → Prop} {x : Str} {v : Value} {α : Type} {T : Ty α} {y : α} (W : Wd g mg mb) (hg : Sub g s.heap) (F : FnAt g mg name params body scope f) (R : Rm A (k + 1))
    (hv : T.is D s.heap v y) (hx : scope.names.lookup x = some .local ∨ scope.names.lookup x = some .cell) (hfr : ∀ y ∈ scope.names, y.2 ≠ .free)
    (hbind : ∀ pm cd doc, bindArgs (docDef name params body scope pm cd doc) ⟨[v], []⟩ = pure [(x, v)])
    (h : ∀ s₁ env, Keeps s s₁ → Kinds scope env → (env.scope = scope) → Rm (A.deeper env) k → ∀ s₂ D', (∀ b, D b → D' b) → Ex g s₁ D' env s₂ (upd (fun _ => none) x ⟨T, y⟩) → (∀ n, scope.names.lookup n = some .local ∨ scope.names.lookup n = some .cell → Own s₁ env n) →
      wpAny (model prog w) (A.deeper env) (execs body env) (fun fl s' => Keeps s₁ s' ∧ P s'.heap (match fl with | .ret v => v | _ => .none)) NE s₂)
    (hco : scope.isCoroutine = false := by rfl) (hgen : scope.isGenerator = false := by rfl) (hk : scope.kind = .function := by rfl) : Hs prog w A D s (call f [v]) P := by
  refine hs_fn W hg F R [(x, v, ⟨T, y⟩)] hbind (fun t m => ?_) (fun s₁ env a cd ks he R' s₂ X => ?_) (by simp) (fun n t m => ?_) hfr hco hgen hk
  · cases m with
    | head => exact hv
    | tail _ m => cases m
  · have hsc : env.scope = scope := by rw [he]; rfl
    refine h s₁ env ks (kinds_of hsc) hsc R' s₂ _ (fun b d => .inl d) X fun n hn => ?_
    rcases hn with hn | hn
    · exact .inl ((kinds_of hsc).kd hn (by decide))
    · obtain ⟨c, hc, hge⟩ := cellsFrom_new scope.names (s₁.heap.objs.size + 1) [] (mem_of_lookup hn)
      exact .inr ⟨(kinds_of hsc).kd hn (by decide), c, by rw [he]; exact hc, none_above (keeps_refl s₁) (by omega)⟩
  · cases m with
    | head => exact hx.imp id fun e => ⟨e, cellsFrom_some _ _ _ (.inl e)⟩
    | tail _ m => cases m
theorem hs_fn2 {name : Str} {params : Arguments} {body : List Stmt} {scope : Scope} {f : Value} {k : Nat} {P : Heap → Value → Prop} {x x' : Str} {v v' : Value} {α α' : Type} {T : Ty α} {y : α} {T' : Ty α'} {y' : α'} (W : Wd g mg mb) (hg : Sub g s.heap) (F : FnAt g mg name params body scope f) (R : Rm A (k + 1))
    (hv : T.is D s.heap v y) (hv' : T'.is D s.heap v' y') (hx : scope.names.lookup x = some .local ∨ scope.names.lookup x = some .cell) (hx' : scope.names.lookup x' = some .local ∨ scope.names.lookup x' = some .cell) (hne : x ≠ x') (hfr : ∀ y ∈ scope.names, y.2 ≠ .free)
    (hbind : ∀ pm cd doc, bindArgs (docDef name params body scope pm cd doc) ⟨[v, v'], []⟩ = pure [(x, v), (x', v')])
    (h : ∀ s₁ env, Keeps s s₁ → Kinds scope env → (env.scope = scope) → Rm (A.deeper env) k → ∀ s₂ D', (∀ b, D b → D' b) → Ex g s₁ D' env s₂ (upd (upd (fun _ => none) x' ⟨T', y'⟩) x ⟨T, y⟩) → (∀ n, scope.names.lookup n = some .local ∨ scope.names.lookup n = some .cell → Own s₁ env n) →
      wpAny (model prog w) (A.deeper env) (execs body env) (fun fl s' => Keeps s₁ s' ∧ P s'.heap (match fl with | .ret v => v | _ => .none)) NE s₂)
    (hco : scope.isCoroutine = false := by rfl) (hgen : scope.isGenerator = false := by rfl) (hk : scope.kind = .function := by rfl) : Hs prog w A D s (call f [v, v']) P := by
  refine hs_fn W hg F R [(x, v, ⟨T, y⟩), (x', v', ⟨T', y'⟩)] hbind (fun t m => ?_) (fun s₁ env a cd ks he R' s₂ X => ?_) (by simpa using hne) (fun n t m => ?_) hfr hco hgen hk
  · cases m with
    | head => exact hv
    | tail _ m => cases m with
      | head => exact hv'
      | tail _ m => cases m
  · have hsc : env.scope = scope := by rw [he]; rfl
    refine h s₁ env ks (kinds_of hsc) hsc R' s₂ _ (fun b d => .inl d) X fun n hn => ?_
    rcases hn with hn | hn
    · exact .inl ((kinds_of hsc).kd hn (by decide))
    · obtain ⟨c, hc, hge⟩ := cellsFrom_new scope.names (s₁.heap.objs.size + 1) [] (mem_of_lookup hn)
      exact .inr ⟨(kinds_of hsc).kd hn (by decide), c, by rw [he]; exact hc, none_above (keeps_refl s₁) (by omega)⟩
  · cases m with
    | head => exact hx.imp id fun e => ⟨e, cellsFrom_some _ _ _ (.inl e)⟩
    | tail _ m => cases m with
      | head => exact hx'.imp id fun e => ⟨e, cellsFrom_some _ _ _ (.inl e)⟩
      | tail _ m => cases m

/-- the end of a body: a returned value, typed for the caller -/
theorem ret_ok {e : Expr} {pos : Pos} {D' : Addr → Prop} {α : Type} {T : Ty α} {y : α} {E : Value → Shared → Prop} (X : Ex g s₁ D' env s ρ) (sub : ∀ b, D b → D' b) (he : Has prog w A D' s (eval e env) T y) :
    wpAny (model prog w) A (exec (.Return (some e) pos) env) (fun fl s' => match fl with | .next => True | fl => Keeps s₁ s' ∧ T.is D s'.heap (match fl with | .ret v => v | _ => .none) y) E s :=
  ex_return X he fun v s' k hv => ⟨keeps_trans X.kp k, T.wide (fun a _ _ d => sub a d) hv⟩
end
end Mine

end
section

open PySem PySem.W PyProof.Rows PySem.Calls
namespace Mine

theorem intsAre_of {D : Addr → Prop} {h : Heap} {vs : List Value} {ns : List Int} (p : Paired (tInt.is D h) vs ns) : IntsAre vs ns := by
  induction p with
  | nil => exact .nil
  | cons q _ ih => obtain ⟨t, rfl⟩ := q; exact .cons _ _ ih
theorem intsAre_to {D : Addr → Prop} {h : Heap} {vs : List Value} {ns : List Int} (p : IntsAre vs ns) : Paired (tInt.is D h) vs ns := by
  induction p with
  | nil => exact .nil
  | cons n t _ ih => exact .cons ⟨t, rfl⟩ ih

/-- the least of a list that is not empty -/
def leastL : List Int → Int
  | [] => 0
  | x :: xs => xs.foldl (fun a b => if b < a then b else a) x
theorem foldl_least : ∀ (xs : List Int) (x : Int), (xs.foldl (fun a b => if b < a then b else a) x = x ∨ xs.foldl (fun a b => if b < a then b else a) x ∈ xs) ∧ xs.foldl (fun a b => if b < a then b else a) x ≤ x ∧ ∀ y ∈ xs, xs.foldl (fun a b => if b < a then b else a) x ≤ y
  | [], x => by simp
  | y :: ys, x => by
    rw [List.foldl_cons]
    obtain ⟨h1, h2, h3⟩ := foldl_least ys (if y < x then y else x)
    generalize hm : List.foldl (fun a b => if b < a then b else a) (if y < x then y else x) ys = m at *
    refine ⟨?_, ?_, ?_⟩
    · rcases h1 with h1 | h1
      · split at h1
        · right; rw [h1]; exact .head _
        · left; exact h1
      · right; exact .tail _ h1
    · split at h2 <;> omega
    · intro z hz
      cases hz with
      | head => split at h2 <;> omega
      | tail _ hz => exact h3 z hz
theorem least_unique {ns : List Int} {m : Int} (hm : m ∈ ns) (hl : ∀ a ∈ ns, m ≤ a) : m = leastL ns := by
  cases ns with
  | nil => cases hm
  | cons x xs =>
    obtain ⟨h1, h2, h3⟩ := foldl_least xs x
    have a : leastL (x :: xs) ∈ x :: xs := by
      show List.foldl _ _ _ ∈ _
      rcases h1 with h1 | h1
      · rw [h1]; exact .head _
      · exact .tail _ h1
    have b := hl _ a
    have c : leastL (x :: xs) ≤ m := by
      show List.foldl _ _ _ ≤ _
      cases hm with
      | head => exact h2
      | tail _ hm => exact h3 m hm
    omega

section
variable {prog : Program} {w : World} {A : Around} {D : Addr → Prop} {s s₁ s₀ : Shared} {g : Heap} {env : Env} {ρ : Rho} {mg mb : Str → Option Value} {x : Str} {px pos : Pos}

theorem has_sum {e : Expr} {xs : List Int} (hh : A.handled = none) (hf : Has prog w A D s (eval (.Name x px) env) tVal (.builtin "sum")) (he : Has prog w A D s (eval e env) (tList tInt) xs)
    (hp : starEach [e] env = (false, eval e env) :: starEach [] env := by rfl) (hst : ∀ e' ∈ [e], isStarred e' = false := by simp [isStarred]) : Has prog w A D s (eval (.Call (.Name x px) [e] [] pos) env) tInt xs.sum :=
  hs_call hf (.inl fun _ h => nomatch h) (hsl_cons he hsl_nil hp) (fun s₁ vs k a => by
    obtain ⟨v, rfl, p, n, us, rfl, hd, hg, hq⟩ := a.one
    refine Hs.of fun s₂ Q k₂ l₂ h => ?_
    have hi := intsAre_of hq
    obtain ⟨ys, e⟩ := AllInts.items hi.allInts
    refine sum_intListG hh (e ▸ isList_of (keeps_get k₂ hg)) fun h' tk t' hk => ?_
    rw [preSum_eq, List.take_of_length_le (by simp), ← nums_intItems, ← e]
    exact h _ _ (keeps_of_heap hk) ⟨t', by rw [show us.toArray.toList = us from rfl, hi.numsOf]⟩) hst

theorem has_min {e : Expr} {xs : List Int} (hh : A.handled = none) (hf : Has prog w A D s (eval (.Name x px) env) tVal (.builtin "min")) (he : Has prog w A D s (eval e env) (tList tInt) xs) (hne : 0 < xs.length)
    (hp : starEach [e] env = (false, eval e env) :: starEach [] env := by rfl) (hst : ∀ e' ∈ [e], isStarred e' = false := by simp [isStarred]) : Has prog w A D s (eval (.Call (.Name x px) [e] [] pos) env) tInt (leastL xs) :=
  hs_call hf (.inl fun _ h => nomatch h) (hsl_cons he hsl_nil hp) (fun s₁ vs k a => by
    obtain ⟨v, rfl, p, n, us, rfl, hd, hg, hq⟩ := a.one
    refine Hs.of fun s₂ Q k₂ l₂ h => ?_
    have hi := intsAre_of hq
    obtain ⟨ys, e⟩ := AllInts.items hi.allInts
    have hlen : us.length = xs.length := hq.length
    have hsz : 0 < ys.size := by
      have := congrArg Array.size e
      simp [intItems] at this
      omega
    refine min_intList hh (e ▸ isList_of (keeps_get k₂ hg)) hsz fun v h' tk hv hk => ?_
    obtain ⟨t, rfl⟩ := intItems_at hv
    obtain ⟨h1, h2⟩ := argBest_lt (numAt ys) (ys.size - 1)
    have hxs : ys.toList.map (·.1) = xs := by rw [← nums_intItems, ← e]; exact hi.numsOf
    refine h _ _ (keeps_of_heap hk) ⟨t, ?_⟩
    congr 1
    refine least_unique ?_ fun a ha => ?_
    · rw [← hxs, numAt_eq]; exact getD_mem (by rw [List.length_map, Array.length_toList]; omega)
    · rw [← hxs] at ha
      obtain ⟨j, hj, rfl⟩ := mem_getD ha
      rw [List.length_map, Array.length_toList] at hj
      rw [← numAt_eq]; exact h2 j (by omega)) hst

theorem paired_rep {α β : Type} {F : α → β → Prop} {a : List α} {b : List β} (h : Paired F a b) : ∀ n, Paired F (List.replicate n a).flatten (List.replicate n b).flatten
  | 0 => .nil
  | n + 1 => by
    rw [List.replicate_succ, List.replicate_succ, List.flatten_cons, List.flatten_cons]
    exact paired_append h (paired_rep h n)

theorem mul_list_any {l : Addr} {items : Array Value} {k : Nat} {x : Int} {u : Tok} {Q : Value → Shared → Prop} {E : Value → Shared → Prop}
    (hl : s.heap.get? l = some (lstObj items k)) (hlo : -(2 ^ 63 : Int) ≤ x) (hhi : x < 2 ^ 63) (hsz : items.size * x.toNat ≤ 2 ^ 24)
    (h : Q (.ref s.heap.objs.size) { s with heap := s.heap.push (lstObj (List.replicate x.toNat items.toList).flatten.toArray 0) }) :
    wpAny (model prog w) A (binaryOp .Mult (.ref l) (.int x u)) Q E s := by
  rw [← listMul_foldl_if] at h
  exact wpAny_binaryOp_repeat_ref (T := "list") (U := "int") (by decide) ⟨_, hl, rfl⟩ (fun s' => typeIs_int s' x u) noFill_list_mul F.fills_int_mul F.slot_int_rmul repeat_list F.slot_int_index.lookup
    (call_meets F.slot_int_rmul (typeIs_int s x u) F.entry_int_rmul (F.args_int_rmul_2 _ _) (int___rmul___int_list x u l items k)
      ⟨hl, rfl, ⟨_, hl, rfl⟩, call_meets F.slot_list_mul ⟨_, hl, rfl⟩ F.entry_list_mul (F.args_list_mul_2 _ _)
        (AutoListH.list___mul___list_int_3 l items k x u (by simp [Builtin.List.listFitsIndex]; omega) (by omega) (by simp [Builtin.List.listTooLong, sizeLine]; omega))
        ⟨hl, h⟩⟩)

/-- xs * n -/
theorem has_mullistT {l r : Expr} {α : Type} {T : Ty α} {xs : List α} {n : Int} (ha : Has prog w A D s (eval l env) (tList T) xs) (hb : Has prog w A D s (eval r env) tInt n) (h0 : 0 ≤ n) (hn : n ≤ 1000) (hx : xs.length ≤ 1000) :
    Has prog w A D s (eval (.BinOp l .Mult r pos) env) (tNew s T) (List.replicate n.toNat xs).flatten :=
  hs_binop ha hb fun s₁ u v k0 hu hv => by
    obtain ⟨p, m, vs, rfl, hd, hg, hp⟩ := hu
    obtain ⟨t, rfl⟩ := hv
    refine Hs.of fun s' Q k l h => ?_
    have ks := keeps_trans k0 k
    refine mul_list_any (keeps_get k hg) (by omega) (by omega) ?_ (h _ _ (keeps_push _ _) ⟨_, 0, _, rfl, live_fresh l, Heap.get?_push_size _ rfl, ?_, keeps_none ks (none_size _)⟩)
    · rw [List.size_toArray, hp.length]
      exact Nat.le_trans (Nat.mul_le_mul hx (show n.toNat ≤ 1000 by omega)) (by decide)
    · exact paired_rep (paired_mono (fun _ _ => T.mono (keeps_le (keeps_trans k (keeps_push s' _)) D)) hp) _

theorem has_mullist {l r : Expr} {α : Type} {T : Ty α} {xs : List α} {n : Int} (ha : Has prog w A D s (eval l env) (tList T) xs) (hb : Has prog w A D s (eval r env) tInt n) (h0 : 0 ≤ n) (hn : n ≤ 1000) (hx : xs.length ≤ 1000) :
    Has prog w A D s (eval (.BinOp l .Mult r pos) env) (tList T) (List.replicate n.toNat xs).flatten := (has_mullistT ha hb h0 hn hx).old

/-- xs[:n] -/
theorem has_upto {value e : Expr} {p : Pos} {α : Type} {T : Ty α} {xs : List α} {n : Int} (ha : Has prog w A D s (eval value env) (tList T) xs) (hb : Has prog w A D s (eval e env) tInt n) (h0 : 0 ≤ n) (hx : xs.length ≤ 1000) :
    Has prog w A D s (eval (.Subscript value (.Slice none (some e) none p) pos) env) (tList T) (xs.take n.toNat) := fun s' k L =>
  Subscript_ (wpAny_mono (ha s' k L) (fun u s₁ a => by
    refine wpAny_Slice (wpAny_evalPart_none (wpAny_evalPart_some (wpAny_mono (hb s₁ (keeps_trans k a.1) (live_keeps L a.1)) (fun v s₂ b => ?_) fun _ _ e => e)))
    refine wpAny_evalPart_none ?_
    obtain ⟨ka, q, m, vs, rfl, hd, hg, hp⟩ := a
    obtain ⟨kb, t, rfl⟩ := b
    have kk := keeps_trans kb (keeps_push s₂ { cls := .type "slice", data := .fields #[.none, .int n t, .none] })
    have hg' := keeps_get kk hg
    refine tail_any (isList_of hg').typeIs slot_list_getitem.lookup (wpAny_getItem_list_slice (isList_of hg') (Heap.IsSliceOf.new _ _ _ _) .none (.int n t) .none (by decide) ?_ (by rw [List.size_toArray, hp.length, sizeLine_eq]; omega)) rfl
    have e : slicePick vs.toArray none (some n) none = (vs.take n.toNat).toArray := by
      have := slicePick_upto' vs.toArray n.toNat
      rw [show ((n.toNat : Nat) : Int) = n by omega] at this
      simpa using this
    have k3 := keeps_trans kk (keeps_push { s₂ with heap := s₂.heap.push { cls := .type "slice", data := .fields #[.none, .int n t, .none] } } (lstObj (vs.take n.toNat).toArray 0))
    rw [e]
    exact ⟨keeps_trans ka k3, _, 0, _, rfl, live_fresh (live_keeps L (keeps_trans ka kk)), Heap.get?_push_size _ rfl, paired_mono (fun _ _ => T.mono (keeps_le k3 D)) (paired_take hp _)⟩) fun _ _ e => e)

/-- xs[i] of any expression -/
theorem has_itemE {value slice : Expr} {α : Type} {T : Ty α} {xs : List α} {i : Int} {y : α} (ha : Has prog w A D s (eval value env) (tList T) xs) (hb : Has prog w A D s (eval slice env) tInt i)
    (h0 : 0 ≤ i) (hhi : i < 2 ^ 63) (hy : xs[i.toNat]? = some y) (hs : ∀ o k t, subscripted slice false (.ref o) (.int k t) = operate [.ref o, .int k t] (getItem (.ref o) (.int k t)) := by intro _ _ _; with_unfolding_all rfl) :
    Has prog w A D s (eval (.Subscript value slice pos) env) T y :=
  hs_sub ha hb fun s₁ u v k hu hv => by
    obtain ⟨p, m, vs, rfl, hd, hg, hp⟩ := hu
    obtain ⟨t, rfl⟩ := hv
    obtain ⟨x, hx, hx'⟩ := paired_get hp _ _ hy
    exact Hs.of fun s' Q k' l q => tail_any (isList_of (keeps_get k' hg)).typeIs slot_list_getitem.lookup (wpAny_getItem_list (isList_of (keeps_get k' hg)) h0 hhi (by simpa using hx) (q _ _ (keeps_refl _) (T.mono (keeps_le k' D) hx'))) (hs _ _ _)
theorem has_fstE {value slice : Expr} {α β : Type} {T : Ty α} {U : Ty β} {p : α × β} (ha : Has prog w A D s (eval value env) (tPair T U) p) (hb : Has prog w A D s (eval slice env) tInt 0)
    (hs : ∀ o k t, subscripted slice false (.ref o) (.int k t) = operate [.ref o, .int k t] (getItem (.ref o) (.int k t)) := by intro _ _ _; with_unfolding_all rfl) :
    Has prog w A D s (eval (.Subscript value slice pos) env) T p.1 :=
  hs_sub ha hb fun s₁ u v k hu hv => by
    obtain ⟨q, m, a, b, rfl, hd, hg, hx, hy⟩ := hu
    obtain ⟨t, rfl⟩ := hv
    refine Hs.of fun s' Q k' l r => ?_
    have ht : IsTup s'.heap q #[a, b] := ⟨_, keeps_get k' hg, rfl, m, rfl⟩
    exact tail_any (T := "tuple") ⟨_, keeps_get k' hg, rfl⟩ slot_tuple_getitem.lookup (PyProof.Rows.getItem_tuple (j := 0) ht (by decide) (by decide) (by show seqIndex? 0 2 = some 0; decide) rfl (r _ _ (keeps_refl _) (T.mono (keeps_le k' D) hx))) (hs _ _ _)
end
end Mine

end
section

open PySem PySem.W PyProof.Rows PySem.Calls
namespace Mine
def stOf (p : Program) (i : Nat) : Stmt := p.main.body.getD i (.Pass ⟨0, 0, 0, 0⟩)
def bodyOf : Stmt → List Stmt
  | .FunctionDef _ _ b .. => b
  | _ => []
def paramsOf : Stmt → Arguments
  | .FunctionDef _ a .. => a
  | _ => ⟨[], [], none, [], [], none, []⟩
def scopeOf : Stmt → Scope
  | .FunctionDef _ _ _ _ _ _ sc .. => sc
  | _ => { kind := .module, names := [], isGenerator := false, isCoroutine := false }
def nameOf : Stmt → Str
  | .FunctionDef n .. => n
  | _ => ""
/-- the i-th definition of p stands in g, as f -/
abbrev DefAt (p : Program) (g : Heap) (mg : Str → Option Value) (i : Nat) (f : Value) : Prop := FnAt g mg (nameOf (stOf p i)) (paramsOf (stOf p i)) (bodyOf (stOf p i)) (scopeOf (stOf p i)) f
end Mine

end
section

open PySem PySem.W PyProof.Rows PySem.Calls
namespace Mine

/-- the builtins that the text leans on -/
structure Bt (mg mb : Str → Option Value) : Prop where
  range : gl mg mb "range" = some (.type "range")
  enumerate : gl mg mb "enumerate" = some (.type "enumerate")
  len : gl mg mb "len" = some (.builtin "len")
  sum : gl mg mb "sum" = some (.builtin "sum")
  min : gl mg mb "min" = some (.builtin "min")
  max : gl mg mb "max" = some (.builtin "max")
  abs : gl mg mb "abs" = some (.builtin "abs")
  int : gl mg mb "int" = some (.type "int")
  list : gl mg mb "list" = some (.type "list")
  dict : gl mg mb "dict" = some (.type "dict")
  sorted : gl mg mb "sorted" = some (.builtin "sorted")

structure Cx (g : Heap) (mg mb : Str → Option Value) : Prop where
  W : Wd g mg mb
  B : Bt mg mb

theorem upd_here {ρ : Rho} {x : Str} {e : Ent} : upd ρ x e x = some e := if_pos rfl
theorem upd_there {ρ : Rho} {x z : Str} {e e' : Ent} (h : ρ z = some e) (n : (z == x) = false) : upd ρ x e' z = some e := by
  unfold upd
  rw [if_neg (by simpa using n)]; exact h
theorem pick_in {ρ : Rho} {fl : List Str} {z : Str} {e : Ent} (h : ρ z = some e) (n : fl.contains z = true) : pick fl ρ z = some e := by
  unfold pick
  rw [if_pos n]; exact h
theorem filter_tt {α : Type} : ∀ l : List α, (l.filter fun _ => true) = l
  | [] => rfl
  | x :: xs => by rw [List.filter_cons, if_pos rfl, filter_tt xs]

section
variable {prog : Program} {w : World} {A : Around} {D : Addr → Prop} {s s₁ s₀ : Shared} {g : Heap} {env : Env} {ρ : Rho} {mg mb : Str → Option Value} {sc : Scope}

theorem ex_cons {st : Stmt} {rest l : List Stmt} {Q : Flow → Shared → Prop} {E : Value → Shared → Prop} (h : wpAny (model prog w) A (exec st env) (fun f s' => match f with | .next => wpAny (model prog w) A (execs rest env) Q E s' | f => Q f s') E s) (e : l = st :: rest := by rfl) :
    wpAny (model prog w) A (execs l env) Q E s := by
  subst e
  refine wpAny_execs_cons (wpAny_mono h (fun f s' q => ?_) fun _ _ e => e)
  cases f <;> exact q
theorem ex_nil {Q : Flow → Shared → Prop} {E : Value → Shared → Prop} {l : List Stmt} (h : Q .next s) (e : l = [] := by rfl) : wpAny (model prog w) A (execs l env) Q E s := by
  subst e; exact wpAny_execs_nil h
theorem ex_ret {e : Expr} {pos : Pos} {l rest : List Stmt} {D' : Addr → Prop} {α : Type} {T : Ty α} {y : α} {Q : Flow → Shared → Prop} {E : Value → Shared → Prop} (X : Ex g s₁ D' env s ρ) (sub : ∀ b, D b → D' b)
    (hq : ∀ v s', Keeps s₁ s' → T.is D s'.heap v y → Q (.ret v) s') (he : Has prog w A D' s (eval e env) T y) (hl : l = .Return (some e) pos :: rest := by rfl) :
    wpAny (model prog w) A (execs l env) Q E s :=
  ex_cons (ex_return X he fun v s' k hv => hq v s' (keeps_trans X.kp k) (T.wide (fun a _ _ d => sub a d) hv)) hl
theorem ex_if2 {t : Expr} {body orelse : List Stmt} {pos : Pos} {b : Bool} {Q : Flow → Shared → Prop} {E : Value → Shared → Prop} (X : Ex g s₀ D env s ρ) (ht : Tst prog w A D s t env b)
    (h1 : b = true → ∀ s', Ex g s₀ D env s' ρ → Keeps s s' → wpAny (model prog w) A (execs body env) Q E s')
    (h2 : b = false → ∀ s', Ex g s₀ D env s' ρ → Keeps s s' → wpAny (model prog w) A (execs orelse env) Q E s') :
    wpAny (model prog w) A (exec (.If t body orelse pos) env) Q E s :=
  ex_if X ht fun s' X' k => by
    cases b with
    | true => exact h1 rfl s' X' k
    | false => exact h2 rfl s' X' k

theorem Hs.cast {β : Type} {t : Sem β} {P P' : Heap → β → Prop} (h : Hs prog w A D s t P) (e : P = P') : Hs prog w A D s t P' := e ▸ h
theorem Has.val {α : Type} {t : Sem Value} {T : Ty α} {x y : α} (h : Has prog w A D s t T x) (e : x = y) : Has prog w A D s t T y := e ▸ h
theorem Tst.val {e : Expr} {b c : Bool} (h : Tst prog w A D s e env b) (q : b = c) : Tst prog w A D s e env c := q ▸ h

/-- an implicit global of the frame -/
theorem has_gl (C : Cx g mg mb) (K : Kinds sc env) {x : Str} {pos : Pos} {v : Value} (X : Ex g s₀ D env s ρ) (hk : sc.names.lookup x = some .globalImplicit) (hv : gl mg mb x = some v)
    (hd : (x == ("__debug__" : Str)) = false) : Has prog w A D s (eval (.Name x pos) env) tVal v := has_glob C.W X (K.kd hk (by decide)) hv hd

theorem st1 {e : Expr} {es : List Expr} (h : isStarred e = false) : starEach (e :: es) env = (false, eval e env) :: starEach es env := by
  cases e <;> first | rfl | (simp [isStarred] at h)
theorem nost1 {e : Expr} (h : isStarred e = false) : ∀ e' ∈ [e], isStarred e' = false := by simp [h]
theorem nost2 {e f : Expr} (h : isStarred e = false) (h' : isStarred f = false) : ∀ e' ∈ [e, f], isStarred e' = false := by simp [h, h']

variable {px pos : Pos}
section one
variable {e : Expr} (C : Cx g mg mb) (K : Kinds sc env) (X : Ex g s₀ D env s ρ)
include C K X
theorem e_len {α : Type} {T : Ty α} {xs : List α} (he : Has prog w A D s (eval e env) (tList T) xs) (hsz : xs.length ≤ 1000) (hk : sc.names.lookup ("len" : Str) = some .globalImplicit := by decide +kernel) (hst : isStarred e = false := by rfl) :
    Has prog w A D s (eval (.Call (.Name "len" px) [e] [] pos) env) tInt xs.length := has_len (has_gl C K X hk C.B.len (by decide +kernel)) he hsz (st1 hst) (nost1 hst)
theorem e_abs {i : Int} (he : Has prog w A D s (eval e env) tInt i) (hk : sc.names.lookup ("abs" : Str) = some .globalImplicit := by decide +kernel) (hst : isStarred e = false := by rfl) :
    Has prog w A D s (eval (.Call (.Name "abs" px) [e] [] pos) env) tInt (if i < 0 then -i else i) := has_abs (has_gl C K X hk C.B.abs (by decide +kernel)) he (st1 hst) (nost1 hst)
theorem e_int {b : Bool} (he : Has prog w A D s (eval e env) tBool b) (hk : sc.names.lookup ("int" : Str) = some .globalImplicit := by decide +kernel) (hst : isStarred e = false := by rfl) :
    Has prog w A D s (eval (.Call (.Name "int" px) [e] [] pos) env) tInt (if b then 1 else 0) := has_intb (has_gl C K X hk C.B.int (by decide +kernel)) he (st1 hst) (nost1 hst)
theorem e_sum {xs : List Int} (hh : A.handled = none) (he : Has prog w A D s (eval e env) (tList tInt) xs) (hk : sc.names.lookup ("sum" : Str) = some .globalImplicit := by decide +kernel) (hst : isStarred e = false := by rfl) :
    Has prog w A D s (eval (.Call (.Name "sum" px) [e] [] pos) env) tInt xs.sum := has_sum hh (has_gl C K X hk C.B.sum (by decide +kernel)) he (st1 hst) (nost1 hst)
theorem e_min {xs : List Int} (hh : A.handled = none) (he : Has prog w A D s (eval e env) (tList tInt) xs) (hne : 0 < xs.length) (hk : sc.names.lookup ("min" : Str) = some .globalImplicit := by decide +kernel) (hst : isStarred e = false := by rfl) :
    Has prog w A D s (eval (.Call (.Name "min" px) [e] [] pos) env) tInt (leastL xs) := has_min hh (has_gl C K X hk C.B.min (by decide +kernel)) he hne (st1 hst) (nost1 hst)
theorem i_range1 {b : Int} {tg : Expr} (hh : A.handled = none) (he : Has prog w A D s (eval e env) tInt b) (hb : 0 ≤ b) (hb2 : b ≤ 100000) (hk : sc.names.lookup ("range" : Str) = some .globalImplicit := by decide +kernel) (hst : isStarred e = false := by rfl) :
    Iters prog w A D s (.Call (.Name "range" px) [e] [] pos) env tInt tg (rangeL 0 b.toNat) := iters_range1 hh (has_gl C K X hk C.B.range (by decide +kernel)) he hb hb2 (st1 hst) (nost1 hst)
theorem i_enum {α : Type} {T : Ty α} {xs : List α} {els : List Expr} {kk : Nat} {pt : Pos} (hh : A.handled = none) (he : Has prog w A D s (eval e env) (tList T) xs) (hk : sc.names.lookup ("enumerate" : Str) = some .globalImplicit := by decide +kernel) (hst : isStarred e = false := by rfl) :
    Iters prog w A D s (.Call (.Name "enumerate" px) [e] [] pos) env (tPair tInt T) (.Tuple els kk pt) (enumL 0 xs) := iters_enum hh (has_gl C K X hk C.B.enumerate (by decide +kernel)) he (st1 hst) (nost1 hst)
end one
section two
variable {a b : Expr} (C : Cx g mg mb) (K : Kinds sc env) (X : Ex g s₀ D env s ρ)
include C K X
theorem e_min2 {i j : Int} (hh : A.handled = none) (ha : Has prog w A D s (eval a env) tInt i) (hb : Has prog w A D s (eval b env) tInt j) (hk : sc.names.lookup ("min" : Str) = some .globalImplicit := by decide +kernel) (h1 : isStarred a = false := by rfl) (h2 : isStarred b = false := by rfl) :
    Has prog w A D s (eval (.Call (.Name "min" px) [a, b] [] pos) env) tInt (if j < i then j else i) := has_min2 hh (has_gl C K X hk C.B.min (by decide +kernel)) ha hb (st1 h1) (st1 h2) (nost2 h1 h2)
theorem e_max2 {i j : Int} (hh : A.handled = none) (ha : Has prog w A D s (eval a env) tInt i) (hb : Has prog w A D s (eval b env) tInt j) (hk : sc.names.lookup ("max" : Str) = some .globalImplicit := by decide +kernel) (h1 : isStarred a = false := by rfl) (h2 : isStarred b = false := by rfl) :
    Has prog w A D s (eval (.Call (.Name "max" px) [a, b] [] pos) env) tInt (if j > i then j else i) := has_max2 hh (has_gl C K X hk C.B.max (by decide +kernel)) ha hb (st1 h1) (st1 h2) (nost2 h1 h2)
theorem i_range2 {i j : Int} {tg : Expr} (hh : A.handled = none) (ha : Has prog w A D s (eval a env) tInt i) (hb : Has prog w A D s (eval b env) tInt j) (h0 : 0 ≤ i) (hij : i ≤ j) (hj : j ≤ 100000) (hk : sc.names.lookup ("range" : Str) = some .globalImplicit := by decide +kernel) (h1 : isStarred a = false := by rfl) (h2 : isStarred b = false := by rfl) :
    Iters prog w A D s (.Call (.Name "range" px) [a, b] [] pos) env tInt tg (rangeL i (j - i).toNat) := iters_range2 hh (has_gl C K X hk C.B.range (by decide +kernel)) ha hb h0 hij hj (st1 h1) (st1 h2) (nost2 h1 h2)
end two

/-- a call of a global def with one argument -/
theorem e_call1 {x : Str} {f : Value} {e : Expr} {α : Type} (T : Ty α) (y : α) {P : Heap → Value → Prop} (C : Cx g mg mb) (K : Kinds sc env) (X : Ex g s₀ D env s ρ) (hf : gl mg mb x = some f) (c : Callee g f) (he : Has prog w A D s (eval e env) T y)
    (h : ∀ s₁ v, Keeps s s₁ → T.is D s₁.heap v y → Hs prog w A D s₁ (call f [v]) P) (hk : sc.names.lookup x = some .globalImplicit := by decide +kernel) (hd : (x == ("__debug__" : Str)) = false := by decide +kernel) (hst : isStarred e = false := by rfl) :
    Hs prog w A D s (eval (.Call (.Name x px) [e] [] pos) env) P :=
  hs_call (has_gl C K X hk hf hd) (c.sub X.subs) (hsl_cons he hsl_nil (st1 hst)) (fun s₁ vs k a => by
    obtain ⟨v, rfl, hv⟩ := a.one
    exact h s₁ v k hv) (nost1 hst)
theorem e_call2 {x : Str} {f : Value} {a b : Expr} {α β : Type} (T : Ty α) (y : α) (U : Ty β) (z : β) {P : Heap → Value → Prop} (C : Cx g mg mb) (K : Kinds sc env) (X : Ex g s₀ D env s ρ) (hf : gl mg mb x = some f) (c : Callee g f)
    (ha : Has prog w A D s (eval a env) T y) (hb : Has prog w A D s (eval b env) U z)
    (h : ∀ s₁ u v, Keeps s s₁ → T.is D s₁.heap u y → U.is D s₁.heap v z → Hs prog w A D s₁ (call f [u, v]) P) (hk : sc.names.lookup x = some .globalImplicit := by decide +kernel) (hd : (x == ("__debug__" : Str)) = false := by decide +kernel)
    (h1 : isStarred a = false := by rfl) (h2 : isStarred b = false := by rfl) :
    Hs prog w A D s (eval (.Call (.Name x px) [a, b] [] pos) env) P :=
  hs_call (has_gl C K X hk hf hd) (c.sub X.subs) (hsl_cons ha (hsl_cons hb hsl_nil (st1 h2)) (st1 h1)) (fun s₁ vs k a => by
    obtain ⟨u, v, rfl, hu, hv⟩ := a.two
    exact h s₁ u v k hu hv) (nost2 h1 h2)

section comps
variable {scope : Scope} (K : Kinds sc env)
include K
theorem e_compN {elt iter : Expr} {n : Str} {pn : Pos} {ifs : List Expr} {α β : Type} {T : Ty α} {U : Ty β} (p : α → Bool) (f : α → β) {xs : List α}
    (X : Ex g s₀ D env s ρ) (hi : Iters prog w A D s iter env T (.Name n pn) xs) (hsz : xs.length ≤ 9000)
    (ht : ∀ x ∈ xs, ∀ env' s' D' s₁, Keeps s s' → Kinds scope env' → Ex g s' D' env' s₁ (upd (pick (freeOf scope) ρ) n ⟨T, x⟩) → Tests prog w A D' s₁ ifs env' (p x))
    (he : ∀ x ∈ xs, p x = true → ∀ env' s' D' s₁, Keeps s s' → Kinds scope env' → Ex g s' D' env' s₁ (upd (pick (freeOf scope) ρ) n ⟨T, x⟩) → Has prog w A D' s₁ (eval elt env') U (f x))
    (hfree : ∀ x ∈ freeOf scope, sc.names.lookup x = some .cell ∨ sc.names.lookup x = some .free := by decide +kernel) (hk : scope.kind = .function := by rfl)
    (hln : ∀ x ∈ scope.names, x.2 = .local → scope.names.lookup x.1 = some .local := by decide +kernel)
    (hp : ∀ z ∈ freeOf scope, scope.names.lookup z = some .free ∧ (z, NameKind.cell) ∉ scope.names ∧ (z == ("__classdict__" : Str)) = false := by decide +kernel)
    (hn : scope.names.lookup n = some .local ∨ scope.names.lookup n = some .cell := by decide +kernel) (hfl : (freeOf scope).contains n = false := by decide +kernel)
    (hs : ∀ x, foldedSetIterable iter env x = pure x := by intro _; rfl) :
    Has prog w A D s (eval (.ListComp elt [⟨.Name n pn, iter, ifs, 0⟩] scope pos) env) (tList U) ((xs.filter p).map f) :=
  has_compN X hi (compScope_mk K hfree hk hln hp) hsz hn hfl ht he hs
theorem e_compP {elt iter : Expr} {n m : Str} {pn pm pt : Pos} {kt : Nat} {ifs : List Expr} {α α' β : Type} {T : Ty α} {T' : Ty α'} {U : Ty β} (p : α × α' → Bool) (f : α × α' → β) {xs : List (α × α')}
    (hh : A.handled = none) (X : Ex g s₀ D env s ρ) (hi : Iters prog w A D s iter env (tPair T T') (.Tuple [.Name n pn, .Name m pm] kt pt) xs) (hsz : xs.length ≤ 9000)
    (ht : ∀ x ∈ xs, ∀ env' s' D' s₁, Keeps s s' → Kinds scope env' → Ex g s' D' env' s₁ (upd (upd (pick (freeOf scope) ρ) n ⟨T, x.1⟩) m ⟨T', x.2⟩) → Tests prog w A D' s₁ ifs env' (p x))
    (he : ∀ x ∈ xs, p x = true → ∀ env' s' D' s₁, Keeps s s' → Kinds scope env' → Ex g s' D' env' s₁ (upd (upd (pick (freeOf scope) ρ) n ⟨T, x.1⟩) m ⟨T', x.2⟩) → Has prog w A D' s₁ (eval elt env') U (f x))
    (hfree : ∀ x ∈ freeOf scope, sc.names.lookup x = some .cell ∨ sc.names.lookup x = some .free := by decide +kernel) (hk : scope.kind = .function := by rfl)
    (hln : ∀ x ∈ scope.names, x.2 = .local → scope.names.lookup x.1 = some .local := by decide +kernel)
    (hp : ∀ z ∈ freeOf scope, scope.names.lookup z = some .free ∧ (z, NameKind.cell) ∉ scope.names ∧ (z == ("__classdict__" : Str)) = false := by decide +kernel)
    (hn : scope.names.lookup n = some .local ∨ scope.names.lookup n = some .cell := by decide +kernel) (hfl : (freeOf scope).contains n = false := by decide +kernel)
    (hm : scope.names.lookup m = some .local ∨ scope.names.lookup m = some .cell := by decide +kernel) (hfm : (freeOf scope).contains m = false := by decide +kernel)
    (hs : ∀ x, foldedSetIterable iter env x = pure x := by intro _; rfl) :
    Has prog w A D s (eval (.ListComp elt [⟨.Tuple [.Name n pn, .Name m pm] kt pt, iter, ifs, 0⟩] scope pos) env) (tList U) ((xs.filter p).map f) :=
  has_compP hh X hi (compScope_mk K hfree hk hln hp) hsz hn hfl hm hfm ht he hs
theorem e_comp2 {elt it0 it1 : Expr} {n m : Str} {pn pm : Pos} {ifs : List Expr} {α α' β : Type} {T : Ty α} {T' : Ty α'} {U : Ty β} {xs : List α} (ys : α → List α') (p : α → α' → Bool) (f : α → α' → β)
    (X : Ex g s₀ D env s ρ) (hi : Iters prog w A D s it0 env T (.Name n pn) xs)
    (hsz : (xs.flatMap fun x => ((ys x).filter (p x)).map (f x)).length ≤ 9000) (hsz' : ∀ x ∈ xs, (ys x).length ≤ 1000)
    (hi1 : ∀ x ∈ xs, ∀ env' s' D' s₁, Keeps s s' → Kinds scope env' → Ex g s' D' env' s₁ (upd (pick (freeOf scope) ρ) n ⟨T, x⟩) → Iters prog w A D' s₁ it1 env' T' (.Name m pm) (ys x))
    (ht : ∀ x ∈ xs, ∀ y ∈ ys x, ∀ env' s' D' s₁, Keeps s s' → Kinds scope env' → Ex g s' D' env' s₁ (upd (upd (pick (freeOf scope) ρ) n ⟨T, x⟩) m ⟨T', y⟩) → Tests prog w A D' s₁ ifs env' (p x y))
    (he : ∀ x ∈ xs, ∀ y ∈ ys x, p x y = true → ∀ env' s' D' s₁, Keeps s s' → Kinds scope env' → Ex g s' D' env' s₁ (upd (upd (pick (freeOf scope) ρ) n ⟨T, x⟩) m ⟨T', y⟩) → Has prog w A D' s₁ (eval elt env') U (f x y))
    (hfree : ∀ x ∈ freeOf scope, sc.names.lookup x = some .cell ∨ sc.names.lookup x = some .free := by decide +kernel) (hk : scope.kind = .function := by rfl)
    (hln : ∀ x ∈ scope.names, x.2 = .local → scope.names.lookup x.1 = some .local := by decide +kernel)
    (hp : ∀ z ∈ freeOf scope, scope.names.lookup z = some .free ∧ (z, NameKind.cell) ∉ scope.names ∧ (z == ("__classdict__" : Str)) = false := by decide +kernel)
    (hn : scope.names.lookup n = some .local ∨ scope.names.lookup n = some .cell := by decide +kernel) (hfl : (freeOf scope).contains n = false := by decide +kernel)
    (hm : scope.names.lookup m = some .local ∨ scope.names.lookup m = some .cell := by decide +kernel) (hfm : (freeOf scope).contains m = false := by decide +kernel) (hnm : n ≠ m := by decide +kernel)
    (hs : ∀ x, foldedSetIterable it0 env x = pure x := by intro _; rfl) (hs1 : ∀ env' x, foldedSetIterable it1 env' x = pure x := by intro _ _; rfl) :
    Has prog w A D s (eval (.ListComp elt [⟨.Name n pn, it0, [], 0⟩, ⟨.Name m pm, it1, ifs, 0⟩] scope pos) env) (tList U) (xs.flatMap fun x => ((ys x).filter (p x)).map (f x)) :=
  has_comp2 X hi (compScope_mk K hfree hk hln hp) hsz hsz' hn hfl hm hfm hnm hi1 ht he hs hs1
end comps
end
end Mine

end
section

open PySem PySem.W PyProof.Rows PySem.Calls
namespace Mine

/-- names told by ρ' are so in ρ -/
def RLe (ρ' ρ : Rho) : Prop := ∀ z e, ρ' z = some e → ρ z = some e
theorem RLe.refl (ρ : Rho) : RLe ρ ρ := fun _ _ e => e
theorem RLe.none {ρ : Rho} : RLe (fun _ => none) ρ := fun _ _ h => nomatch h
theorem RLe.upd {ρ' ρ : Rho} {x : Str} {e : Ent} (h : RLe ρ' ρ) (hx : ρ x = some e) : RLe (upd ρ' x e) ρ := fun z e' q => by
  unfold Mine.upd at q
  split at q
  · rename_i hz; cases q; subst hz; exact hx
  · exact h z e' q

section
variable {prog : Program} {w : World} {A : Around} {D : Addr → Prop} {s s₁ s₀ : Shared} {g : Heap} {env : Env} {ρ : Rho} {mg mb : Str → Option Value} {sc : Scope} {px pos : Pos}

theorem has_or {a b : Expr} {x y : Bool} (ha : Has prog w A D s (eval a env) tBool x) (hb : Has prog w A D s (eval b env) tBool y) : Has prog w A D s (eval (.BoolOp .Or [a, b] pos) env) tBool (x || y) := fun s' k l => by
  refine BoolOp_or (wpAny_mono (ha s' k l) (fun v s₁ h => ?_) fun _ _ e => e)
  obtain ⟨k₁, rfl⟩ := h
  refine wpAny_truthy_bool ?_
  cases x with
  | true => exact ⟨k₁, rfl⟩
  | false => exact BoolOp_one (wpAny_mono (hb s₁ (keeps_trans k k₁) (live_keeps l k₁)) (fun v s₂ h => ⟨keeps_trans k₁ h.1, h.2⟩) fun _ _ e => e)
/-- a value's «and»: the items behind the first are reached only where it holds -/
theorem has_and {a b : Expr} {rest : List Expr} {x y : Bool} (ha : Has prog w A D s (eval a env) tBool x) (hb : x = true → Has prog w A D s (eval (.BoolOp .And (b :: rest) pos) env) tBool y) : Has prog w A D s (eval (.BoolOp .And (a :: b :: rest) pos) env) tBool (x && y) := fun s' k l => by
  refine BoolOp_and (wpAny_mono (ha s' k l) (fun v s₁ h => ?_) fun _ _ e => e)
  obtain ⟨k₁, rfl⟩ := h
  refine wpAny_truthy_bool ?_
  cases x with
  | false => exact ⟨k₁, rfl⟩
  | true => exact wpAny_mono (hb rfl s₁ (keeps_trans k k₁) (live_keeps l k₁)) (fun v s₂ h => ⟨keeps_trans k₁ h.1, h.2⟩) fun _ _ e => e
theorem has_and1 {a : Expr} {x : Bool} (ha : Has prog w A D s (eval a env) tBool x) : Has prog w A D s (eval (.BoolOp .And [a] pos) env) tBool x := fun s' k l => BoolOp_one (ha s' k l)

/-- list(range) -/
theorem has_listrange {b : Expr} {i : Int} {px' pos' : Pos} (C : Cx g mg mb) (K : Kinds sc env) (X : Ex g s₀ D env s ρ) (hh : A.handled = none) (he : Has prog w A D s (eval b env) tInt i) (h0 : 0 ≤ i) (hi : i ≤ 100000)
    (hk : sc.names.lookup ("list" : Str) = some .globalImplicit := by decide +kernel) (hk' : sc.names.lookup ("range" : Str) = some .globalImplicit := by decide +kernel) (hst : isStarred b = false := by rfl) :
    Has prog w A D s (eval (.Call (.Name "list" px) [.Call (.Name "range" px') [b] [] pos'] [] pos) env) (tList tInt) (rangeL 0 i.toNat) := by
  have hr : Hs prog w A D s (eval (.Call (.Name "range" px') [b] [] pos') env) fun h v => ∃ r t u t', v = .ref r ∧ IsRange h r 0 i 1 t u t' :=
    hs_call (has_gl C K X hk' C.B.range (by decide +kernel)) (.inl fun _ h => nomatch h) (hsl_cons he hsl_nil (st1 hst)) (fun s₁ vs k a => by
      obtain ⟨v, rfl, t, rfl⟩ := a.one
      exact Hs.of fun s' Q k' l h => call_range_1 (h _ _ (keeps_push_toks _ _ _) ⟨_, _, _, _, rfl, Heap.get?_push_size _ rfl⟩)) (nost1 hst)
  show Has prog w A D s (eval (.Name "list" px) env >>= fun v => callWith pos v [] (backTo pos (starEach [.Call (.Name "range" px') [b] [] pos'] env)) (backToKw pos (keywordEach [] env))) (tList tInt) _
  refine Hs.bind (has_gl C K X hk C.B.list (by decide +kernel)) fun s₁ v k hv => ?_
  cases hv
  refine fun s' k' l => callWith_of (P := fun h => Callee h (.type "list")) (by rw [starEach_backTo_plain (nost1 rfl)]; rfl) (fun h x => x.keeper) (evalArgs_of (nost1 rfl) ?_)
  refine spliced_more (wpAny_mono (hr s' (keeps_trans k k') l) (fun v s₂ h => ?_) fun _ _ e => e) (st1 rfl)
  obtain ⟨k2, r, t, u, t', rfl, hr'⟩ := h
  refine spliced_none ⟨.inl fun _ h => (nomatch h), ?_⟩
  have hsz : Builtin.Range.rangeSize 0 i 1 = (i.toNat : Nat) := by rw [size_range i h0]; omega
  refine call_list_range hh hr' (small_range 0 i h0 (by decide) hi) hsz (by omega) fun h' tk acc' c' hk hS hacc => ?_
  have k3 : Keeps s₂ { s₂ with heap := h', toks := tk } := ⟨h', tk, rfl, hk⟩
  refine ⟨keeps_trans k2 k3, _, c', acc'.toList, rfl, live_fresh (live_keeps l k2), by simpa using hS, ?_⟩
  obtain ⟨hs, hv⟩ := hacc
  have key : ∀ (n : Nat) (a : Int) (vs : List Value), vs.length = n → (∀ (j : Nat) (v : Value), vs[j]? = some v → ∃ t, v = Value.int (a + j * 1) t) → Paired (tInt.is D h') vs (rangeL a n) := by
    intro n
    induction n with
    | zero => intro a vs hl _; rw [List.eq_nil_of_length_eq_zero hl]; exact .nil
    | succ n ih =>
      intro a vs hl h
      cases vs with
      | nil => simp at hl
      | cons v vs =>
        obtain ⟨t, rfl⟩ := h 0 v rfl
        refine .cons ⟨t, by simp⟩ (ih (a + 1) vs (by simpa using hl) fun j v hj => ?_)
        obtain ⟨t, rfl⟩ := h (j + 1) v (by simpa using hj)
        exact ⟨t, by congr 1; push_cast; omega⟩
  exact key _ _ _ (by simpa using hs) fun j v hj => by simpa using hv j v (by simpa using hj)

/-- a pattern of two -/
theorem asg_two {a b : Expr} {p : Pos} {k : Nat} {α β : Type} {T : Ty α} {U : Ty β} {f : Rho → α → Rho} {h : Rho → β → Rho} (hh : A.handled = none) (ha : Asg prog w A g s₀ D env a T f) (hb : Asg prog w A g s₀ D env b U h)
    (he : assignEach [a, b] env = [(false, assign a env), (false, assign b env)] := by rfl) :
    Asg prog w A g s₀ D env (.Tuple [a, b] k p) (tPair T U) fun ρ x => h (f ρ x.1) x.2 := by
  intro s ρ v x Q E X hv q
  obtain ⟨t, n, u, y, rfl, hd, hg, hu, hy⟩ := hv
  refine wpAny_assign_Tuple hh (isTuple_of hg) (by rw [he]; rfl) (by rw [he]; rfl) fun h' hs => ?_
  have kk : Keeps s { s with heap := h' } := ⟨h', s.toks, rfl, fun b o e => hs b o (fun z => Nat.lt_irrefl _ (z ▸ Heap.lt_size e)) e⟩
  rw [he]
  show wpAny _ _ (assignInOrder [assign a env, assign b env] [u, y]) _ _ _
  refine wpAny_assignInOrder_more (ha (X.up kk) (T.mono (keeps_le kk D) hu) fun s₂ X₂ o₂ => wpAny_assignInOrder_more (hb X₂ (U.mono o₂.calm.le (U.mono (keeps_le kk D) hy)) fun s₃ X₃ o₃ =>
    wpAny_assignInOrder_none (q s₃ X₃ (others_trans (others_keeps kk) (others_trans o₂ o₃)))))

theorem ex_assign_pat {elts : List Expr} {k : Nat} {tp : Pos} {e : Expr} {α : Type} {T : Ty α} {y : α} {bnd : Rho → α → Rho} {Q : Flow → Shared → Prop} {E : Value → Shared → Prop} (X : Ex g s₀ D env s ρ) (he : Has prog w A D s (eval e env) T y) (ha : Asg prog w A g s₀ D env (.Tuple elts k tp) T bnd)
    (h : ∀ s', Ex g s₀ D env s' (bnd ρ y) → Others D env s s' → Q .next s') (hs : swapsWithSole [.Tuple elts k tp] e pos.line env = pure false := by rfl)
    (hw : swappedStores [.Tuple elts k tp] e env = pure none := by rfl) : wpAny (model prog w) A (exec (.Assign [.Tuple elts k tp] e pos) env) Q E s :=
  Assign_Tuple (he.use X.live fun v s' k hv => ha (X.up k) hv fun s'' X'' ot => h s'' X'' (others_trans (others_keeps k) ot)) hs hw

theorem swapped_folded {ts vs : List Expr} {k k' : Nat} {p p' : Pos} (hf : vs.all (foldedForSure 8) = true) : swappedStores [.Tuple ts k p] (.Tuple vs k' p') env = pure none := by
  unfold swappedStores
  simp only [hf, if_true]
  repeat (first | rfl | split)
theorem swapped_deep {a : Expr} {bs vs : List Expr} {k k2 k' : Nat} {p p2 p' : Pos} : swappedStores [.Tuple [a, .Tuple bs k2 p2] k p] (.Tuple vs k' p') env = pure none := by
  unfold swappedStores
  dsimp only
  split
  · rfl
  split
  · rfl
  rw [if_pos]
  · have : ∀ {β : Type} (f : Expr → Option β), f (.Tuple bs k2 p2) = none → (([a, .Tuple bs k2 p2] : List Expr).filterMap f).length ≤ 1 := fun f h => by
      simp only [List.filterMap_cons, h, List.filterMap_nil]
      split <;> simp
    have h := this (fun
      | .Name id pos => if env.kindOf id == some .local && pos.line == ((([a, .Tuple bs k2 p2] : List Expr).head?.map (·.pos.line)).getD 0) then some id else none
      | _ => none) rfl
    simp only [Bool.or_eq_true, bne_iff_ne, ne_eq]
    left
    show ¬ _ = 2
    intro e
    have h2 := Nat.le_trans (Nat.le_of_eq e.symm) h
    omega

/-- a loop whose turn maps a state -/
theorem ex_for_st {tg iter : Expr} {body : List Stmt} {α β : Type} {T : Ty α} {xs : List α} {bnd : Rho → α → Rho} {Q : Flow → Shared → Prop} {E : Value → Shared → Prop} (R : β → Rho) (J : β → Shared → Prop) (step : β → α → β) (b₀ : β)
    (X : Ex g s₀ D env s (R b₀)) (j₀ : J b₀ s) (hj : ∀ b s₁ s₂, J b s₁ → Oth env s₁ s₂ → Le D s₁.heap s₂.heap → J b s₂)
    (hi : ItersF prog w A D s iter env T tg xs) (ha : Asg prog w A g s₀ D env tg T bnd)
    (turn : ∀ done x rem s₂, xs = done ++ x :: rem → Ex g s₀ D env s₂ (bnd (R (done.foldl step b₀)) x) → J (done.foldl step b₀) s₂ → Calm D s s₂ → wpAny (model prog w) A (execs body env) (fun f s₃ => match f with
      | .next | .cont => (∃ ρ₃, Ex g s₀ D env s₃ ρ₃ ∧ RLe (R (step (done.foldl step b₀) x)) ρ₃) ∧ J (step (done.foldl step b₀) x) s₃ ∧ Calm D s₂ s₃
      | .brk => False
      | .ret v => Q (.ret v) s₃) NE s₂)
    (fin : ∀ s₂, Ex g s₀ D env s₂ (R (xs.foldl step b₀)) → J (xs.foldl step b₀) s₂ → Calm D s s₂ → Q .next s₂)
    (hs : ∀ x, foldedSetIterable iter env x = pure x := by intro _; rfl) : wpAny (model prog w) A (exec (.For tg iter body [] pos) env) Q E s := by
  have le_of : ∀ {s₁ s₂ : Shared}, Oth env s₁ s₂ → Le D s₁.heap s₂.heap := fun o b ob nd f e => o b ob e (fun q => nd (q ▸ X.fm.volL)) f
  refine ex_for X hi ha (fun rem ρ₁ s₁ => ∃ done, xs = done ++ rem ∧ ρ₁ = R (done.foldl step b₀) ∧ J (done.foldl step b₀) s₁) (fun s' k => ⟨[], rfl, rfl, hj _ _ _ j₀ (oth_keeps k) (keeps_le k D)⟩) (fun x rem ρ₁ s₁ s₂ hI X₂ o₂ c₂ => ?_) (fun ρ₁ s₁ s₂ hI X₂ o₂ c₂ => ?_) hs
  · obtain ⟨done, hx, rfl, j₁⟩ := hI
    refine wpAny_mono (turn done x rem s₂ hx X₂ (hj _ _ _ j₁ o₂ (le_of o₂)) c₂) (fun f s₃ h => ?_) fun _ _ e => e
    have go : ((∃ ρ₃, Ex g s₀ D env s₃ ρ₃ ∧ RLe (R (step (done.foldl step b₀) x)) ρ₃) ∧ J (step (done.foldl step b₀) x) s₃ ∧ Calm D s₂ s₃) →
        (∃ ρ₃, Ex g s₀ D env s₃ ρ₃ ∧ ∃ done, xs = done ++ rem ∧ ρ₃ = R (done.foldl step b₀) ∧ J (done.foldl step b₀) s₃) ∧ Calm D s₂ s₃ := fun ⟨⟨ρ₃, X₃, r⟩, j₃, c₃⟩ =>
      ⟨⟨_, X₃.weak r, done ++ [x], by rw [hx]; simp, by simp, by simpa using j₃⟩, c₃⟩
    cases f with
    | next => exact go h
    | cont => exact go h
    | brk => exact h
    | ret v => exact h
  · obtain ⟨done, hx, rfl, j₁⟩ := hI
    have hd : done = xs := by simpa using hx.symm
    subst hd
    exact fin s₂ X₂ (hj _ _ _ j₁ o₂ (le_of o₂)) c₂

theorem has_neg {a : Expr} {x : Int} (ha : Has prog w A D s (eval a env) tInt x) : Has prog w A D s (eval (.UnaryOp .USub a pos) env) tInt (-x) := fun s' k l =>
  UnaryOp_ (wpAny_mono (ha s' k l) (fun v s₁ h => by
    obtain ⟨k₁, t, rfl⟩ := h
    exact PyProof.Rows.neg_int ⟨keeps_trans k₁ (keeps_toks _ _), _, rfl⟩) fun _ _ e => e)

section
variable {l r : Expr} {α β : Type} {T : Ty α} {U : Ty β} (hu : A.units ≤ 9000)
include hu
theorem has_isnil {xs : List α} (ha : Has prog w A D s (eval l env) (tList T) xs) (hb : Has prog w A D s (eval r env) (tList U) []) (hm : behindInMarks .Eq r = false := by with_unfolding_all rfl) : Has prog w A D s (eval (.Compare l [.Eq] [r] pos) env) tBool xs.isEmpty :=
  hs_cmp ha hb (fun _ _ _ _ h1 h2 => cmp_eq_nil (by omega) h1 h2) hm
theorem tst_isnil {xs : List α} (ha : Has prog w A D s (eval l env) (tList T) xs) (hb : Has prog w A D s (eval r env) (tList U) []) (hm : behindInMarks .Eq r = false := by with_unfolding_all rfl) : Tst prog w A D s (.Compare l [.Eq] [r] pos) env xs.isEmpty :=
  tst_cmp ha hb (fun _ _ _ _ h1 h2 => cmp_eq_nil (by omega) h1 h2) hm
theorem tst_notnil {xs : List α} (ha : Has prog w A D s (eval l env) (tList T) xs) (hb : Has prog w A D s (eval r env) (tList U) []) (hm : behindInMarks .NotEq r = false := by with_unfolding_all rfl) : Tst prog w A D s (.Compare l [.NotEq] [r] pos) env (!xs.isEmpty) :=
  tst_cmp ha hb (fun _ _ _ _ h1 h2 => cmp_ne_nil (by omega) h1 h2) hm
end
section
variable {l r : Expr} {x : Int × Int} {xs : List (Int × Int)} (hu : A.units ≤ 9000) (ha : Has prog w A D s (eval l env) tEdge x) (hb : Has prog w A D s (eval r env) (tList tEdge) xs)
include hu ha hb
theorem has_in (hm : behindInMarks .In r = false := by with_unfolding_all rfl) : Has prog w A D s (eval (.Compare l [.In] [r] pos) env) tBool (xs.any fun y => decide (y = x)) := hs_cmp ha hb (fun _ _ _ _ h1 h2 => cmp_in eqOk_edge hu h1 h2) hm
theorem tst_in (hm : behindInMarks .In r = false := by with_unfolding_all rfl) : Tst prog w A D s (.Compare l [.In] [r] pos) env (xs.any fun y => decide (y = x)) := tst_cmp ha hb (fun _ _ _ _ h1 h2 => cmp_in eqOk_edge hu h1 h2) hm
theorem tst_notin (hm : behindInMarks .NotIn r = false := by with_unfolding_all rfl) : Tst prog w A D s (.Compare l [.NotIn] [r] pos) env (!xs.any fun y => decide (y = x)) := tst_cmp ha hb (fun _ _ _ _ h1 h2 => cmp_notin eqOk_edge hu h1 h2) hm
end
end

theorem mem_rangeL {x : Int} : ∀ {n : Nat} {a : Int}, x ∈ rangeL a n → a ≤ x ∧ x < a + n
  | 0, _, h => nomatch h
  | n + 1, a, h => by
    cases h with
    | head => omega
    | tail _ h => have := mem_rangeL (n := n) h; omega
theorem rangeL_len : ∀ (n : Nat) (a : Int), (rangeL a n).length = n
  | 0, _ => rfl
  | n + 1, a => by rw [rangeL, List.length_cons, rangeL_len n]
theorem rangeL_nodup : ∀ (n : Nat) (a : Int), (rangeL a n).Nodup
  | 0, _ => List.nodup_nil
  | n + 1, a => by
    rw [rangeL, List.nodup_cons]
    exact ⟨fun h => by have := mem_rangeL h; omega, rangeL_nodup n (a + 1)⟩
theorem getD_of {α : Type} {xs : List α} {i : Nat} (d : α) (h : i < xs.length) : xs[i]? = some (xs.getD i d) := by
  rw [List.getD_eq_getElem?_getD, List.getElem?_eq_getElem h]; rfl
theorem last_of {α : Type} {xs : List α} (d : α) (h : 0 < xs.length) : xs.getLast? = some (xs.getLastD d) := by
  cases xs with
  | nil => simp at h
  | cons x xs => simp [List.getLast?_cons]
end Mine

end
section
set_option maxRecDepth 100000
open PySem PySem.W PyProof.Rows PySem.Calls
namespace Mine

-- keys of texts and ints
def mixIs : Str ⊕ Int → Value → Bool
  | .inl x, v => Value.isStrOf x v
  | .inr i, v => Value.isInt i v
def mixHash (w : World) : Str ⊕ Int → Int
  | .inl x => hashStr w x
  | .inr i => hashInt i
theorem mix_shape {k : Str ⊕ Int} {v : Value} (h : mixIs k v = true) : (∃ x t, k = .inl x ∧ v = .str x t) ∨ ∃ i t, k = .inr i ∧ v = .int i t := by
  cases k with
  | inl x => obtain ⟨t, e⟩ := Value.isStrOf_shape h; exact .inl ⟨x, t, rfl, e⟩
  | inr i => obtain ⟨t, e⟩ := Value.isInt_shape h; exact .inr ⟨i, t, rfl, e⟩
theorem eqBool_str_int {prog : Program} {w : World} {A : Around} {E : Value → Shared → Prop} {s : Shared} {a : Str} {t : Tok} {b : Int} {u : Tok} {Q : Bool → Shared → Prop} (h : Q false s) : wpAny (model prog w) A (eqBool (.str a t) (.int b u)) Q E s := by
  unfold eqBool
  try with_reducible refine wpAny_holding ?_
  show wpAny _ _ (if (Value.str a t == Value.int b u) = true then _ else _) Q E s
  rw [if_neg (show ¬ ((Value.str a t == Value.int b u) = true) from Bool.false_ne_true)]
  exact wpAny_bind (EqMixed.eq_str_int (Q := fun v s' => wpAny (model prog w) A (truthOfDropped v) Q E s') (wpAny_truthy_bool h))
theorem eqBool_int_str {prog : Program} {w : World} {A : Around} {E : Value → Shared → Prop} {s : Shared} {a : Str} {t : Tok} {b : Int} {u : Tok} {Q : Bool → Shared → Prop} (h : Q false s) : wpAny (model prog w) A (eqBool (.int b u) (.str a t)) Q E s := by
  unfold eqBool
  try with_reducible refine wpAny_holding ?_
  show wpAny _ _ (if (Value.int b u == Value.str a t) = true then _ else _) Q E s
  rw [if_neg (show ¬ ((Value.int b u == Value.str a t) = true) from Bool.false_ne_true)]
  exact wpAny_bind (EqMixed.eq_int_str (Q := fun v s' => wpAny (model prog w) A (truthOfDropped v) Q E s') (wpAny_truthy_bool h))
def mixKind (prog : Program) (w : World) : PySem.KeyKind prog w (Str ⊕ Int) where
  is := mixIs
  hash := mixHash w
  inj := fun v a b ha hb => by
    rcases mix_shape ha with ⟨x, t, rfl, rfl⟩ | ⟨i, t, rfl, rfl⟩ <;> rcases mix_shape hb with ⟨y, u, rfl, e⟩ | ⟨j, u, rfl, e⟩ <;> cases e <;> rfl
  byValue := fun k v h => by rcases mix_shape h with ⟨x, t, rfl, rfl⟩ | ⟨i, t, rfl, rfl⟩ <;> rfl
  pyHash := fun {A E s k v Q} h q => by
    rcases mix_shape h with ⟨x, t, rfl, rfl⟩ | ⟨i, t, rfl, rfl⟩
    · exact wpAny_pyHash_str q
    · exact wpAny_pyHash_int q
  eqBool := fun {A E s a b u v Q} ha hb q => by
    rcases mix_shape ha with ⟨x, t, rfl, rfl⟩ | ⟨i, t, rfl, rfl⟩ <;> rcases mix_shape hb with ⟨y, u, rfl, rfl⟩ | ⟨j, u, rfl, rfl⟩
    · exact wpAny_eqBool_str (by simpa using q)
    · exact eqBool_str_int (by simpa using q)
    · exact eqBool_int_str (by simpa using q)
    · have e : (i == j) = decide ((Sum.inr i : Str ⊕ Int) = .inr j) := by by_cases h : i = j <;> simp [h]
      exact wpAny_eqBool_int (by rw [e]; exact q)
  «strs» := fun k x t v h => by
    rcases mix_shape h with ⟨y, u, rfl, e⟩ | ⟨j, u, rfl, e⟩
    · cases e
      cases v <;> rfl
    · cases e

/-- a dict known by its entries -/
def EntsAt (h : Heap) (d : Addr) (es : Array DictEntry) (ep : Nat) : Prop := ∃ o, h.get? d = some o ∧ o.cls = .type "dict" ∧ o.data = .dict es ep
theorem EntsAt.typeIs {s : Shared} {d : Addr} {es : Array DictEntry} {ep : Nat} (x : EntsAt s.heap d es ep) : s.TypeIs (.ref d) "dict" := let ⟨o, ho, hc, _⟩ := x; ⟨o, ho, hc⟩
theorem EntsAt.get {h h' : Heap} {d : Addr} {es : Array DictEntry} {ep : Nat} (x : EntsAt h d es ep) (k : ∀ o, h.get? d = some o → h'.get? d = some o) : EntsAt h' d es ep := let ⟨o, ho, r⟩ := x; ⟨o, k o ho, r⟩

section
variable {prog : Program} {w : World} {A : Around} {E : Value → Shared → Prop} {s : Shared} {d : Addr} {es : Array DictEntry} {ep : Nat}

theorem meets_view {B : Builtin} {vt : String} (hd : (d == sysModules) = false)
    (hB : B ⟨[.ref d], []⟩ = (Builtin.Dict.noArgs "items" ⟨[.ref d], []⟩ >>= fun a => Builtin.Dict.showsAll a >>= fun _ => newObj (.type vt) (.fields #[.ref a]) >>= fun v => PySem.ret v) ∨
      B ⟨[.ref d], []⟩ = (Builtin.Dict.noArgs "values" ⟨[.ref d], []⟩ >>= fun a => Builtin.Dict.showsAll a >>= fun _ => newObj (.type vt) (.fields #[.ref a]) >>= fun v => PySem.ret v)) :
    MeetsIn prog w (B ⟨[.ref d], []⟩) (fun _ R s => (∃ es ep, EntsAt s.heap d es ep) ∧ R (.ok (.ret (.ref s.heap.objs.size))) { s with heap := s.heap.push { cls := .type vt, data := .fields #[.ref d] } }) :=
  .of_wp fun A R s ⟨⟨es, ep, hm⟩, h⟩ => by
    rcases hB with e | e <;>
    · rw [e]
      refine wpAny_bind ?_
      unfold Builtin.Dict.noArgs
      refine wpAny_bind (wpAny_notOrdered_dict hm.typeIs ?_)
      show wpAny _ _ (pure d) _ _ s
      refine wpAny_pure (wpAny_bind ?_)
      unfold Builtin.Dict.showsAll
      rw [if_neg (by rw [hd]; exact Bool.false_ne_true)]
      exact wpAny_pure (wpAny_bind (wpAny_newObj_type (wpAny_pure ⟨_, rfl, h⟩)))

theorem call_itemsE {Q : Value → Shared → Prop} (lo : (d == sysModules) = false) (hm : EntsAt s.heap d es ep) (h : Q (.ref s.heap.objs.size) { s with heap := s.heap.push { cls := .type "dict_items", data := .fields #[.ref d] } }) :
    wpAny (model prog w) A (call (.builtin "dict.items") [.ref d]) Q E s :=
  call_meetsIn PySem.F.slot_dict_items hm.typeIs PySem.F.entry_dict_items (PySem.F.args_dict_items_1 _) (meets_view lo (.inl rfl)) ⟨⟨es, ep, hm⟩, h⟩
theorem call_valuesE {Q : Value → Shared → Prop} (lo : (d == sysModules) = false) (hm : EntsAt s.heap d es ep) (h : Q (.ref s.heap.objs.size) { s with heap := s.heap.push { cls := .type "dict_values", data := .fields #[.ref d] } }) :
    wpAny (model prog w) A (call (.builtin "dict.values") [.ref d]) Q E s :=
  call_meetsIn PySem.F.slot_dict_values hm.typeIs PySem.F.entry_dict_values (PySem.F.args_dict_values_1 _) (meets_view lo (.inr rfl)) ⟨⟨es, ep, hm⟩, h⟩

theorem newIter_tree {ty : String} {four : Bool} (hown : Builtin.Dict_items.ownsTuple ty = four) {Q : Value → Shared → Prop} (hm : EntsAt s.heap d es ep)
    (hQ : Q (.ref s.heap.objs.size) { s with heap := s.heap.push { cls := .type ty, data := .fields (if four then #[.none, .bool false, .ref d, .int 0 0, .int es.size 0, .int ep 0, .none, .none] else #[.ref d, .int 0 0, .int es.size 0, .int ep 0]) } }) :
    wpAny (model prog w) A (Builtin.Dict_items.newIterator ty d) Q E s := by
  obtain ⟨o, ho, _, hd⟩ := hm
  unfold Builtin.Dict_items.newIterator
  refine wpAny_bind (wpAny_dictEntries ho hd (wpAny_bind (wpAny_dictEpoch ho hd ?_)))
  subst hown
  unfold newFields
  refine wpAny_newObj_type ?_ (by
    simp only [sizeOk]
    split <;> (simp only [Builtin.Dict_items.ownedTupleFields, List.size_toArray, List.length_append, List.length_cons, List.length_nil, sizeLine_eq]; omega))
  split
  · rename_i h; rw [if_pos h] at hQ; exact hQ
  · rename_i h; rw [if_neg h] at hQ; exact hQ

theorem iter_itemsE {v : Addr} {Q : Value → Shared → Prop} (hv : s.heap.IsItemsView v d) (hm : EntsAt s.heap d es ep)
    (hQ : ∀ h', h'.get? s.heap.objs.size = some { cls := .type "dict_itemiterator", dict := none, data := .fields #[.none, .bool false, .ref d, .int 0 0, .int es.size 0, .int ep 0, .none, .none], slots := #[] } → (∀ b o, s.heap.get? b = some o → h'.get? b = some o) → Q (.ref s.heap.objs.size) { s with heap := h' }) :
    wpAny (model prog w) A (pyIter (.ref v)) Q E s := by
  obtain ⟨ov, hov, hcv, hdv⟩ := id hv
  refine wpAny_pyIter_slot hv.typeIs F.slot_dict_items_iter (wpAny_call_entry F.slot_dict_items_iter hv.typeIs F.entry_dict_items_iter ?_ (F.args_dict_items_iter_1 _))
  unfold Builtin.«dict_items.__iter__»
  refine wpAny_bind (wpAny_pure (wpAny_bind ?_))
  unfold Builtin.Dict_items.dictOf
  refine wpAny_bind (wpAny_field hov hdv (x := .ref d) rfl (wpAny_pure (wpAny_bind (newIter_tree (four := true) (by decide) hm (wpAny_pure ?_)))))
  exact ⟨_, rfl, "dict_itemiterator", _, ⟨_, Heap.get?_push_size _ rfl, rfl⟩, F.slot_dict_itemiterator_next.lookup, hQ _ (Heap.get?_push_size _ rfl) fun b o e => Heap.get?_push_of_some _ e⟩
theorem iter_valuesE {v : Addr} {Q : Value → Shared → Prop} (hv : s.heap.IsValuesView v d) (hm : EntsAt s.heap d es ep)
    (hQ : ∀ h', h'.IsValIter s.heap.objs.size d 0 es.size ep → (∀ b o, s.heap.get? b = some o → h'.get? b = some o) → Q (.ref s.heap.objs.size) { s with heap := h' }) :
    wpAny (model prog w) A (pyIter (.ref v)) Q E s := by
  obtain ⟨ov, hov, hcv, hdv⟩ := id hv
  refine wpAny_pyIter_slot hv.typeIs F.slot_dict_values_iter (wpAny_call_entry F.slot_dict_values_iter hv.typeIs F.entry_dict_values_iter ?_ (F.args_dict_values_iter_1 _))
  unfold Builtin.«dict_values.__iter__»
  refine wpAny_bind (wpAny_pure (wpAny_bind ?_))
  unfold Builtin.Dict_items.dictOf
  refine wpAny_bind (wpAny_field hov hdv (x := .ref d) rfl (wpAny_pure (wpAny_bind (newIter_tree (four := false) (by decide) hm (wpAny_pure ?_)))))
  exact ⟨_, rfl, "dict_valueiterator", _, ⟨_, Heap.get?_push_size _ rfl, rfl⟩, F.slot_dict_valueiterator_next.lookup, hQ _ ⟨_, Heap.get?_push_size _ rfl, rfl, rfl⟩ fun b o e => Heap.get?_push_of_some _ e⟩

-- a draw from a dict's values
theorem next_valuesE {it : Addr} {i : Nat} {e : DictEntry} {Q : Option Value → Shared → Prop} (hit : s.heap.IsValIter it d i es.size ep) (hm : EntsAt s.heap d es ep) (hx : es[i]? = some e)
    (hQ : ∀ h', h'.IsValIter it d (i + 1) es.size ep → Heap.SameBut it s.heap h' → Q (some e.val) { s with heap := h' }) : wpAny (model prog w) A (pyNext (.ref it)) Q E s := by
  obtain ⟨o, ho, hc, hd⟩ := id hit
  obtain ⟨od, hod, hcd, hdd⟩ := id hm
  unfold pyNext
  refine wpAny_bind (wpAny_attempt (wpAny_callSpecial?_slot (name := Str.ofString "__next__") hit.typeIs F.slot_dict_valueiterator_next
    (wpAny_call_entry F.slot_dict_valueiterator_next hit.typeIs F.entry_dict_valueiterator_next ?_ (F.args_dict_valueiterator_next_1 _))))
  refine wpAny_bind (wpAny_pure (wpAny_bind (wpAny_bind ?_)))
  refine wpAny_bind (wpAny_typeNameOfWhole_valiter hit.typeIs (wpAny_pure (wpAny_bind (wpAny_fieldsOf ho hd ?_))))
  simp only [show Builtin.Dict_items.ownsTuple "dict_valueiterator" = false by decide, Bool.false_eq_true, if_false]
  show wpAny _ _ (if (Value.ref d == Value.none) = true then _ else _) _ _ s
  rw [if_neg (show ¬ ((Value.ref d == Value.none) = true) from Bool.false_ne_true)]
  refine wpAny_bind (wpAny_pure (wpAny_bind (wpAny_dictEntries hod hdd ?_)))
  rw [if_neg (by simp)]
  refine wpAny_bind (wpAny_pure (wpAny_bind (wpAny_dictEpoch hod hdd ?_)))
  rw [if_neg (by simp)]
  refine wpAny_pure ?_
  simp only [show ¬ ((i : Int) < 0) from by omega, if_false, Int.toNat_natCast, hx]
  refine wpAny_bind (wpAny_bind (wpAny_typeNameOfWhole_valiter hit.typeIs (wpAny_pure (wpAny_bind (wpAny_isOneOf_valiter hit.typeIs ?_)))))
  show wpAny _ _ (setField (.ref it) 1 (rawInt ((i : Int) + 1)) >>= _) _ _ s
  refine wpAny_bind (wpAny_setField ho hd (by simp) ?_)
  have hit' : (s.heap.update it (Obj.mapFields (·.setIfInBounds 1 (rawInt ((i : Int) + 1))))).IsValIter it d (i + 1) es.size ep :=
    ⟨_, Heap.get?_update_self _ ho (Obj.isFreed_of_fields (Obj.data_mapFields hd _)), (Obj.cls_mapFields ..).trans hc, by rw [Obj.data_mapFields hd]; simp [rawInt]⟩
  generalize hh : s.heap.update it (Obj.mapFields (·.setIfInBounds 1 (rawInt ((i : Int) + 1)))) = h' at hit' ⊢
  have T : Shared.TypeIs { s with heap := h' } (.ref it) "dict_valueiterator" := hit'.typeIs
  refine wpAny_bind (wpAny_holding (wpAny_bind (wpAny_isOneOf_valiter T (wpAny_bind (wpAny_isOneOf_valiter T ?_)))))
  exact wpAny_pure (wpAny_pure ⟨_, rfl, wpAny_pure (hQ _ hit' (hh ▸ Heap.SameBut.update ..))⟩)

/-- the end of a view's iterator: its dict is let go, StopIteration is raised and taken -/
theorem stop_tail {R : Option Value → Shared → Prop} {k : Sem Fin} (hh : A.handled = none) {it : Addr} {n : Nat} {o : Obj} {vs : Array Value} (ho : s.heap.get? it = some o) (hd : o.data = .fields vs) (hn : n < vs.size) {E' : Value → Shared → Prop}
    (hE : ∀ h' e, Heap.ExtBut it s.heap h' → Shared.TypeIs { s with heap := h' } (.ref e) "StopIteration" → E' (.ref e) { s with heap := h' }) {P : Fin → Shared → Prop} :
    wpAny (model prog w) A (setField (.ref it) n .none >>= fun _ => newExc (.type "StopIteration") [] >>= fun e => (raiseNew e : Sem Fin)) P E' s := by
  refine wpAny_bind (wpAny_setField ho hd hn ?_)
  refine wpAny_bind ?_
  simp only [newExc, newTuple]
  refine wpAny_bind (wpAny_newObj_type ?_ (by size_fits))
  refine wpAny_bind (m := firstArgMember _ _) (wpAny_of_eq (a := Value.none) (by first | rfl | (simp only [firstArgMember]; rfl)) ?_)
  refine wpAny_newObj_type ?_ (by size_fits)
  simp only [raiseNew]
  refine wpAny_bind (wpAny_handled ?_)
  rw [hh]
  exact wpAny_bind (wpAny_pure (wpAny_throw (hE _ _ (((Heap.SameBut.update ..).extBut.push _).push _) ⟨_, Heap.get?_push_size _ rfl, rfl⟩)))

theorem next_values_endE {it : Addr} {i : Nat} {Q : Option Value → Shared → Prop} (hh : A.handled = none) (hit : s.heap.IsValIter it d i es.size ep) (hm : EntsAt s.heap d es ep) (hx : es.size ≤ i)
    (hQ : ∀ h', Heap.ExtBut it s.heap h' → Q none { s with heap := h' }) : wpAny (model prog w) A (pyNext (.ref it)) Q E s := by
  obtain ⟨o, ho, hc, hd⟩ := id hit
  obtain ⟨od, hod, hcd, hdd⟩ := id hm
  unfold pyNext
  refine wpAny_bind (wpAny_attempt (wpAny_callSpecial?_slot (name := Str.ofString "__next__") hit.typeIs F.slot_dict_valueiterator_next
    (wpAny_call_entry F.slot_dict_valueiterator_next hit.typeIs F.entry_dict_valueiterator_next ?_ (F.args_dict_valueiterator_next_1 _))))
  refine wpAny_bind (wpAny_pure (wpAny_bind (wpAny_bind ?_)))
  refine wpAny_bind (wpAny_typeNameOfWhole_valiter hit.typeIs (wpAny_pure (wpAny_bind (wpAny_fieldsOf ho hd ?_))))
  simp only [show Builtin.Dict_items.ownsTuple "dict_valueiterator" = false by decide, Bool.false_eq_true, if_false]
  show wpAny _ _ (if (Value.ref d == Value.none) = true then _ else _) _ _ s
  rw [if_neg (show ¬ ((Value.ref d == Value.none) = true) from Bool.false_ne_true)]
  refine wpAny_bind (wpAny_pure (wpAny_bind (wpAny_dictEntries hod hdd ?_)))
  rw [if_neg (by simp)]
  refine wpAny_bind (wpAny_pure (wpAny_bind (wpAny_dictEpoch hod hdd ?_)))
  rw [if_neg (by simp)]
  refine wpAny_pure ?_
  simp only [show ¬ ((i : Int) < 0) from by omega, if_false, Int.toNat_natCast, Array.getElem?_eq_none hx]
  refine wpAny_bind (wpAny_bind (wpAny_typeNameOfWhole_valiter hit.typeIs (wpAny_pure ?_)))
  refine stop_tail (R := Q) (k := pure (.done .next)) (A := A.in1) hh ho hd (by simp [show Builtin.Dict_items.ownsTuple "dict_valueiterator" = false by decide]) fun h' e hx hT => ?_
  refine wpAny_bind (wpAny_isInstance (T := "StopIteration") (b := true) hT isSubtype_stop ?_)
  exact wpAny_pure (hQ h' hx)

theorem next_items_endE {it : Addr} {i : Nat} {ok ov : Value} {Q : Option Value → Shared → Prop} (hh : A.handled = none) (hit : IsItemIter s.heap it d i es.size ep ok ov) (hm : EntsAt s.heap d es ep) (hx : es.size ≤ i)
    (hQ : ∀ h', Heap.ExtBut it s.heap h' → Q none { s with heap := h' }) : wpAny (model prog w) A (pyNext (.ref it)) Q E s := by
  obtain ⟨od, hod, hcd, hdd⟩ := id hm
  have hT : s.TypeIs (.ref it) "dict_itemiterator" := ⟨_, hit, rfl⟩
  unfold pyNext
  refine wpAny_bind (wpAny_attempt (wpAny_callSpecial?_slot (name := Str.ofString "__next__") hT F.slot_dict_itemiterator_next
    (wpAny_call_entry F.slot_dict_itemiterator_next hT F.entry_dict_itemiterator_next ?_ (F.args_dict_itemiterator_next_1 _))))
  refine wpAny_bind (wpAny_pure (wpAny_bind (wpAny_bind ?_)))
  refine wpAny_bind (wpAny_typeNameOfWhole_itemiter hT (wpAny_pure (wpAny_bind (wpAny_fieldsOf hit rfl ?_))))
  simp only [show Builtin.Dict_items.ownsTuple "dict_itemiterator" = true by decide, if_true]
  show wpAny _ _ (if (Value.ref d == Value.none) = true then _ else _) _ _ s
  rw [if_neg (show ¬ ((Value.ref d == Value.none) = true) from Bool.false_ne_true)]
  refine wpAny_bind (wpAny_pure (wpAny_bind (wpAny_dictEntries hod hdd ?_)))
  rw [if_neg (by simp)]
  refine wpAny_bind (wpAny_pure (wpAny_bind (wpAny_dictEpoch hod hdd ?_)))
  rw [if_neg (by simp)]
  refine wpAny_pure ?_
  simp only [show ¬ ((i : Int) < 0) from by omega, if_false, Int.toNat_natCast, Array.getElem?_eq_none hx]
  refine wpAny_bind (wpAny_bind (wpAny_typeNameOfWhole_itemiter hT (wpAny_pure ?_)))
  refine stop_tail (R := Q) (k := pure (.done .next)) (A := A.in1) hh hit rfl (by simp [show Builtin.Dict_items.ownsTuple "dict_itemiterator" = true by decide]) fun h' e hx hT => ?_
  refine wpAny_bind (wpAny_isInstance (T := "StopIteration") (b := true) hT isSubtype_stop ?_)
  exact wpAny_pure (hQ h' hx)

/-- a pair handed out by an iterator whose own tuple is free -/
theorem pair_tree {it : Addr} {i n : Nat} {ok ov key val : Value} {Q : Value → Shared → Prop} (hit : IsItemIter s.heap it d i n ep ok ov)
    (hQ : ∀ h', IsItemIterOut h' it d i n ep key val s.heap.objs.size → h'.get? s.heap.objs.size = some (tupObj #[key, val] 0) → (∀ b o, b ≠ it → s.heap.get? b = some o → h'.get? b = some o) → Q (.ref s.heap.objs.size) { s with heap := h' }) :
    wpAny (model prog w) A (Builtin.Dict_items.pairFromOwner (.ref it) 6 key val) Q E s := by
  have hil : it < s.heap.objs.size := Heap.lt_size hit
  unfold Builtin.Dict_items.pairFromOwner
  refine wpAny_bind (wpAny_newTuple ?_ (by rw [sizeLine_eq]; simp))
  have e0 : (s.heap.push { cls := .type "tuple", data := .seq ([key, val] : List Value).toArray }).get? s.heap.objs.size = some (tupObj #[key, val] 0) := Heap.get?_push_size _ rfl
  have k0 : ∀ b o, s.heap.get? b = some o → (s.heap.push { cls := .type "tuple", data := .seq ([key, val] : List Value).toArray }).get? b = some o := fun b o e => Heap.get?_push_of_some _ e
  generalize hh0 : s.heap.push { cls := .type "tuple", data := .seq ([key, val] : List Value).toArray } = h0 at e0 k0 ⊢
  have hit0 : IsItemIter h0 it d i n ep ok ov := k0 _ _ hit
  show wpAny _ _ (Builtin.Dict_items.ownedTupleIsFree (.ref it) >>= _) _ _ { s with heap := h0 }
  refine wpAny_bind ?_
  unfold Builtin.Dict_items.ownedTupleIsFree
  refine wpAny_bind (wpAny_field hit0 rfl (x := .none) rfl (wpAny_pure ?_))
  simp only [if_true]
  refine wpAny_bind (wpAny_field hit0 rfl (x := ok) rfl (wpAny_bind (wpAny_field hit0 rfl (x := ov) rfl ?_)))
  refine wpAny_bind (wpAny_setField_rec hit0 (by simp) fun h1 he1 hs1 => wpAny_bind (wpAny_setField_rec he1 (by simp) fun h2 he2 hs2 => wpAny_bind (wpAny_setField_rec he2 (by simp) fun h3 he3 hs3 =>
    wpAny_bind (wpAny_setField_rec he3 (by simp) fun h4 he4 hs4 => wpAny_bind (wpAny_letGo (wpAny_pure ?_))))))
  have up : ∀ b o, b ≠ it → h0.get? b = some o → h4.get? b = some o := fun b o nb e => (hs4.2 b nb).trans ((hs3.2 b nb).trans ((hs2.2 b nb).trans ((hs1.2 b nb).trans e)))
  exact hQ h4 he4 (up _ _ (Nat.ne_of_gt hil) e0) fun b o nb e => up b o nb (k0 b o e)

theorem next_itemsE {it : Addr} {i : Nat} {ok ov : Value} {e : DictEntry} {Q : Option Value → Shared → Prop} (hit : IsItemIter s.heap it d i es.size ep ok ov) (hm : EntsAt s.heap d es ep) (hx : es[i]? = some e)
    (hQ : ∀ h', IsItemIterOut h' it d (i + 1) es.size ep e.key e.val s.heap.objs.size → h'.get? s.heap.objs.size = some (tupObj #[e.key, e.val] 0) → (∀ b o, b ≠ it → s.heap.get? b = some o → h'.get? b = some o) →
      Q (some (.ref s.heap.objs.size)) { s with heap := h' }) : wpAny (model prog w) A (pyNext (.ref it)) Q E s := by
  obtain ⟨od, hod, hcd, hdd⟩ := id hm
  have hT : s.TypeIs (.ref it) "dict_itemiterator" := ⟨_, hit, rfl⟩
  unfold pyNext
  refine wpAny_bind (wpAny_attempt (wpAny_callSpecial?_slot (name := Str.ofString "__next__") hT F.slot_dict_itemiterator_next
    (wpAny_call_entry F.slot_dict_itemiterator_next hT F.entry_dict_itemiterator_next ?_ (F.args_dict_itemiterator_next_1 _))))
  refine wpAny_bind (wpAny_pure (wpAny_bind (wpAny_bind ?_)))
  refine wpAny_bind (wpAny_typeNameOfWhole_itemiter hT (wpAny_pure (wpAny_bind (wpAny_fieldsOf hit rfl ?_))))
  simp only [show Builtin.Dict_items.ownsTuple "dict_itemiterator" = true by decide, if_true]
  show wpAny _ _ (if (Value.ref d == Value.none) = true then _ else _) _ _ s
  rw [if_neg (show ¬ ((Value.ref d == Value.none) = true) from Bool.false_ne_true)]
  refine wpAny_bind (wpAny_pure (wpAny_bind (wpAny_dictEntries hod hdd ?_)))
  rw [if_neg (by simp)]
  refine wpAny_bind (wpAny_pure (wpAny_bind (wpAny_dictEpoch hod hdd ?_)))
  rw [if_neg (by simp)]
  refine wpAny_pure ?_
  simp only [show ¬ ((i : Int) < 0) from by omega, if_false, Int.toNat_natCast, hx]
  refine wpAny_bind (wpAny_bind (wpAny_typeNameOfWhole_itemiter hT (wpAny_pure (wpAny_bind (wpAny_isOneOf_itemiter hT ?_)))))
  show wpAny _ _ (setField (.ref it) 3 (rawInt ((i : Int) + 1)) >>= _) _ _ s
  refine wpAny_bind (wpAny_setField_rec hit (by simp) fun h₁ he₁ hs₁ => ?_)
  have he₁' : IsItemIter h₁ it d (i + 1) es.size ep ok ov := by
    have e : ((i + 1 : Nat) : Int) = (i : Int) + 1 := by omega
    unfold IsItemIter; rw [e]; simpa [rawInt] using he₁
  have hT₁ : Shared.TypeIs { s with heap := h₁ } (.ref it) "dict_itemiterator" := ⟨_, he₁, rfl⟩
  have hz : h₁.objs.size = s.heap.objs.size := hs₁.1
  refine wpAny_bind (wpAny_holding (wpAny_bind (wpAny_isOneOf_itemiter hT₁ (wpAny_bind (wpAny_isOneOf_itemiter hT₁ ?_)))))
  show wpAny _ _ (Builtin.Dict_items.pairFromOwner (.ref it) 6 e.key e.val) _ _ { s with heap := h₁ }
  refine pair_tree (s := { s with heap := h₁ }) he₁' fun h' ho ht hk => ?_
  rw [show Shared.heap { s with heap := h₁ } = h₁ from rfl, hz] at ho ht ⊢
  exact wpAny_pure ⟨_, rfl, wpAny_pure (hQ h' ho ht fun b o nb e => hk b o nb (hs₁.extBut b o nb e))⟩
end
end Mine

end
section
set_option maxRecDepth 100000
open PySem PySem.W PyProof.Rows PySem.Calls
namespace Mine

abbrev Ent3 := List (Str ⊕ Int) × Addr × Value
def rowKey (a b : Str) (k : Int) : List (Str ⊕ Int) := [.inl a, .inr k, .inl b]
theorem rowKey_inj {a b : Str} {k j : Int} : rowKey a b k = rowKey a b j ↔ k = j := by simp [rowKey]

theorem isKey_le {prog : Program} {w : World} {D : Addr → Prop} {h h' : Heap} {ks : List (Str ⊕ Int)} {p : Addr} (x : IsTupleKey (mixKind prog w) h ks p) (d : ¬ D p) (k : Le D h h') : IsTupleKey (mixKind prog w) h' ks p := by
  obtain ⟨o, items, n, ho, hc, hd, hi⟩ := x
  exact ⟨o, items, n, k p o d (by unfold Firm; rw [hd]; trivial) ho, hc, hd, hi⟩

/-- a tuple (a, k, b) -/
def tKey (prog : Program) (w : World) (a b : Str) : Ty Int where
  is D h v k := ∃ p, v = .ref p ∧ ¬ D p ∧ IsTupleKey (mixKind prog w) h (rowKey a b k) p
  mono := fun k ⟨p, e, d, x⟩ => ⟨p, e, d, isKey_le x d k⟩
  wide := fun k ⟨p, e, d, x⟩ => ⟨p, e, fun q => d (k _ _ x.choose_spec.choose_spec.choose_spec.1 q), x⟩

def RowAt (prog : Program) (w : World) (a b : Str) (D : Addr → Prop) (h : Heap) (d : Addr) (ks : List Int) : Prop :=
  ∃ es : List Ent3, h.DictOfH (tupleKind (mixKind prog w)) d es ∧ (∀ e ∈ es, ¬ D e.2.1) ∧ Paired (fun (e : Ent3) k => e.1 = rowKey a b k ∧ ∃ t, e.2.2 = .int 1 t) es ks
theorem RowAt.up {prog : Program} {w : World} {a b : Str} {D : Addr → Prop} {h h' : Heap} {d : Addr} {ks : List Int} (x : RowAt prog w a b D h d ks) (hd : ∀ o, h.get? d = some o → Firm o → h'.get? d = some o) (k : Le D h h') : RowAt prog w a b D h' d ks := by
  obtain ⟨es, ⟨o, e, ep, ho, hx, hdt, he, his, hn⟩, hD, hp⟩ := x
  exact ⟨es, ⟨o, e, ep, hd o ho (by unfold Firm; rw [hdt]; trivial), hx, hdt, he, fun y m => isKey_le (his y m) (hD y m) k, hn⟩, hD, hp⟩
theorem RowAt.thin {prog : Program} {w : World} {a b : Str} {D D' : Addr → Prop} {h : Heap} {d : Addr} {ks : List Int} (x : RowAt prog w a b D h d ks) (k : ∀ c o, h.get? c = some o → D' c → D c) : RowAt prog w a b D' h d ks := by
  obtain ⟨es, hm, hD, hp⟩ := x
  refine ⟨es, hm, fun e m q => hD e m ?_, hp⟩
  obtain ⟨o, e', ep, ho, hx, hdt, he, his, hn⟩ := hm
  obtain ⟨ok, _, _, hk, _⟩ := his e m
  exact k _ _ hk q
theorem RowAt.here {prog : Program} {w : World} {a b : Str} {D : Addr → Prop} {h : Heap} {d : Addr} {ks : List Int} (x : RowAt prog w a b D h d ks) : ∃ o, h.get? d = some o ∧ Firm o := by
  obtain ⟨es, ⟨o, e, ep, ho, hx, hdt, he, his, hn⟩, hD, hp⟩ := x
  exact ⟨o, ho, by unfold Firm; rw [hdt]; trivial⟩

/-- a dict of such keys, in order, each at 1 -/
def tRow (prog : Program) (w : World) (a b : Str) : Ty (List Int) where
  is D h v ks := ∃ d, v = .ref d ∧ ¬ D d ∧ 1 < d ∧ RowAt prog w a b D h d ks
  mono := fun k ⟨d, e, n, s, x⟩ => ⟨d, e, n, s, x.up (fun o ho f => k d o n f ho) k⟩
  wide := fun k ⟨d, e, n, s, x⟩ => ⟨d, e, fun q => let ⟨o, ho, _⟩ := x.here; n (k _ _ ho q), s, x.thin k⟩

theorem row_nodup {prog : Program} {w : World} {a b : Str} {D : Addr → Prop} {h : Heap} {d : Addr} {ks : List Int} (x : RowAt prog w a b D h d ks) : ks.Nodup := by
  obtain ⟨es, ⟨o, e, ep, ho, hx, hdt, he, his, hn⟩, hD, hp⟩ := x
  clear his he hD
  induction hp with
  | nil => exact List.nodup_nil
  | @cons e k es ks q r ih =>
    rw [List.map_cons, List.nodup_cons] at hn
    rw [List.nodup_cons]
    refine ⟨fun m => hn.1 ?_, ih hn.2⟩
    have key : ∀ {es : List Ent3} {ks : List Int}, Paired (fun (e : Ent3) k => e.1 = rowKey a b k ∧ ∃ t, e.2.2 = .int 1 t) es ks → k ∈ ks → rowKey a b k ∈ es.map (·.1) := by
      intro es ks p
      induction p with
      | nil => intro m; cases m
      | cons q _ ih =>
        intro m
        cases m with
        | head => rw [List.map_cons, q.1]; exact .head _
        | tail _ m => exact .tail _ (ih m)
    rw [q.1]; exact key r m

theorem atKey_row {a b : Str} {k : Int} : ∀ {es : List Ent3} {ks : List Int}, Paired (fun (e : Ent3) k => e.1 = rowKey a b k ∧ ∃ t, e.2.2 = .int 1 t) es ks → k ∉ ks → atKey es (rowKey a b k) = none := by
  intro es ks p
  induction p with
  | nil => intro _; rfl
  | @cons e j es ks q _ ih =>
    intro m
    have hne : ¬ e.1 = rowKey a b k := by rw [q.1]; exact fun z => m (rowKey_inj.mp z ▸ .head _)
    have := ih fun z => m (.tail _ z)
    unfold atKey at this ⊢
    rw [List.find?_cons, decide_eq_false hne]
    exact this

section
variable {prog : Program} {w : World} {A : Around} {D : Addr → Prop} {s s₁ s₀ : Shared} {g : Heap} {env : Env} {ρ : Rho} {mg mb : Str → Option Value} {sc : Scope} {px pos : Pos} {a b : Str}

theorem size_big (C : Cx g mg mb) (X : Ex g s₀ D env s ρ) : 1 < s.heap.objs.size := by
  obtain ⟨mc, hns, _⟩ := C.W.lim
  obtain ⟨o, _, _, ho, _⟩ := hns
  exact Nat.lt_trans (by decide) (Heap.lt_size (X.subs _ _ ho))

/-- {} -/
theorem has_row0 {pos : Pos} (a b : Str) (C : Cx g mg mb) (X : Ex g s₀ D env s ρ) : Has prog w A D s (eval (.Dict [] [] pos) env) (tRow prog w a b) [] := Hs.of fun s' Q k l q =>
  wpAny_Dict_empty (q _ _ (keeps_push _ _) ⟨_, rfl, live_fresh l, size_big C (X.up k), [], Heap.DictOfH.new _, (fun _ m => nomatch m), .nil⟩)

/-- (x, k, y) -/
theorem has_key {e1 e2 e3 : Expr} {n : Nat} {k : Int} (h1 : Has prog w A D s (eval e1 env) tStr a) (h2 : Has prog w A D s (eval e2 env) tInt k) (h3 : Has prog w A D s (eval e3 env) tStr b)
    (i1 : isStarred e1 = false := by rfl) (i2 : isStarred e2 = false := by rfl) (i3 : isStarred e3 = false := by rfl) : Has prog w A D s (eval (.Tuple [e1, e2, e3] n pos) env) (tKey prog w a b) k := fun s' k' l =>
  Tuple_ (wpAny_mono ((hsl_cons h1 (hsl_cons h2 (hsl_cons h3 hsl_nil (st1 i3)) (st1 i2)) (st1 i1) : HsL prog w A D s pos env _ _) s' k' l) (fun vs s₁ q => by
    obtain ⟨u, v, x, rfl, ⟨t1, rfl⟩, ⟨t2, rfl⟩, ⟨t3, rfl⟩⟩ := q.2.three
    refine wpAny_newTuple ⟨keeps_trans q.1 (keeps_push _ _), _, rfl, live_fresh (live_keeps l q.1), _, _, 0, Heap.get?_push_size _ rfl, rfl, rfl, ?_⟩ (by rw [sizeLine_eq]; simp)
    exact .cons (by simp [mixKind, mixIs, Value.isStrOf]) (.cons (by simp [mixKind, mixIs, Value.isInt]) (.cons (by simp [mixKind, mixIs, Value.isStrOf]) .nil))) fun _ _ e => e)

theorem rowStore {h h' : Heap} {d p : Addr} {ks : List Int} {k : Int} {es : List Ent3} {v : Value} (hn : k ∉ ks) (hp : Paired (fun (e : Ent3) k => e.1 = rowKey a b k ∧ ∃ t, e.2.2 = .int 1 t) es ks) (hD : ∀ e ∈ es, ¬ D e.2.1) (dp : ¬ D p) (hv : ∃ t, v = .int 1 t)
    (hm : h'.DictOfH (tupleKind (mixKind prog w)) d (storedH es (rowKey a b k) p v)) : RowAt prog w a b D h' d (ks ++ [k]) := by
  rw [storedH_new (atKey_row hp hn)] at hm
  refine ⟨_, hm, fun e m => ?_, paired_append hp (.cons ⟨rfl, hv⟩ .nil)⟩
  rcases List.mem_append.mp m with m | m
  · exact hD e m
  · simp only [List.mem_singleton] at m
    subst m; exact dp

/-- {(x, k, y): 1} -/
theorem has_row1 {ek ev : Expr} {pos : Pos} {k : Int} (C : Cx g mg mb) (X : Ex g s₀ D env s ρ) (hu : A.units ≤ 9000) (hk : Has prog w A D s (eval ek env) (tKey prog w a b) k) (hv : Has prog w A D s (eval ev env) tInt 1) :
    Has prog w A D s (eval (.Dict [some ek] [ev] pos) env) (tRow prog w a b) [k] := fun s' k' l => by
  refine wpAny_Dict_any (keys := [some ek]) (values := [ev]) rfl rfl (by simp) (by simp) ?_
  have kp : Keeps s' { s' with heap := s'.heap.push { cls := .type "dict", data := .dict #[] } } := keeps_push _ _
  have new : ({ s' with heap := s'.heap.push { cls := .type "dict", data := .dict #[] } } : Shared).heap.DictOfH (tupleKind (mixKind prog w)) s'.heap.objs.size ([] : List Ent3) := Heap.DictOfH.new _
  have big := size_big C (X.up k')
  have none' := none_size s'.heap
  generalize hs1 : ({ s' with heap := s'.heap.push { cls := .type "dict", data := .dict #[] } } : Shared) = s₁ at kp new ⊢
  refine evalPairs_cons (wpAny_mono (hk s₁ (keeps_trans k' kp) (live_keeps l kp)) (fun u s₂ hu2 => ?_) fun _ _ e => e)
  obtain ⟨k2, p, rfl, dp, hkey⟩ := hu2
  refine wpAny_bind (wpAny_mono (hv s₂ (keeps_trans (keeps_trans k' kp) k2) (live_keeps l (keeps_trans kp k2))) (fun v s₃ hv3 => wpAny_bind (wpAny_standAt (wpAny_pure (evalPairs_nil ?_)))) fun _ _ e => e)
  obtain ⟨k3, t, rfl⟩ := hv3
  unfold storeAll
  have k13 := keeps_trans k2 k3
  have m3 : s₃.heap.DictOfH (tupleKind (mixKind prog w)) s'.heap.objs.size ([] : List Ent3) := by
    obtain ⟨o, e, ep, ho, r⟩ := new
    obtain ⟨r1, r2, r3, r4, r5⟩ := r
    exact ⟨o, e, ep, keeps_get k13 ho, r1, r2, r3, (fun _ m => nomatch m), r5⟩
  have key3 : IsTupleKey (mixKind prog w) s₃.heap (rowKey a b k) p := isKey_le hkey dp (keeps_le k3 D)
  simp only [List.forIn_cons, List.forIn_nil]
  refine wpAny_bind (wpAny_bind (wpAny_dictSet_heap (knd := tupleKind (mixKind prog w)) (show A.units < cLine by have := cLine_9900; omega) key3 m3 (fun h' hm' hs' => ?_) (by rw [sizeLine_eq]; simp)))
  refine wpAny_pure (wpAny_pure ?_)
  have hd : ¬ D s'.heap.objs.size := live_fresh l
  refine ⟨?_, _, rfl, hd, big, ?_⟩
  · obtain ⟨h3, t3, rfl, hk3⟩ := keeps_trans kp k13
    exact ⟨h', _, rfl, fun c o e => (hs'.2 c fun q => by rw [q, none'] at e; cases e).trans (hk3 c o e)⟩
  · exact rowStore (h := s₃.heap) (ks := []) (fun m => nomatch m) .nil (fun _ m => nomatch m) dp ⟨t, rfl⟩ hm'

/-- k in row -/
theorem cmp_inrow {d : Addr} {k : Int} {ks : List Int} {u : Value} (hu : A.units ≤ 9000) (hd : 1 < d) (h : (tKey prog w a b).is D s₁.heap u k) (hr : RowAt prog w a b D s₁.heap d ks) (hn : k ∉ ks) : Has prog w A D s₁ (compareOp .In u (.ref d)) tBool false := by
  obtain ⟨p, rfl, dp, hk⟩ := h
  refine Hs.of fun s' Q kp l q => ?_
  obtain ⟨es, hm, hD, hp⟩ := hr.up (fun o e _ => keeps_get kp e) (keeps_le kp D)
  refine wpAny_in_heap (knd := tupleKind (mixKind prog w)) (show A.units + 1 < cLine by have := cLine_9900; omega) (isKey_le hk dp (keeps_le kp D)) (by
    have : ¬ d = sysModules := fun e => by rw [e] at hd; exact absurd hd (by decide)
    simpa using this) hm ?_
  rw [atKey_row hp hn]
  exact q _ _ (keeps_toks _ _) rfl

/-- row[k] = 1, a new key -/
theorem set_row {d : Addr} {k : Int} {ks : List Int} {u v : Value} {Q : Unit → Shared → Prop} {E : Value → Shared → Prop} (hu : A.units ≤ 9000) (h : (tKey prog w a b).is D s.heap u k) (hv : tInt.is D s.heap v 1) (hr : RowAt prog w a b D s.heap d ks) (hn : k ∉ ks) (hl : ks.length ≤ 1000)
    (q : ∀ h' tk, RowAt prog w a b D h' d (ks ++ [k]) → Heap.SameBut d s.heap h' → Q () { s with heap := h', toks := tk }) : wpAny (model prog w) A (setItem (.ref d) u v) Q E s := by
  obtain ⟨p, rfl, dp, hk⟩ := h
  obtain ⟨es, hm, hD, hp⟩ := hr
  refine wpAny_setItem_heap (knd := tupleKind (mixKind prog w)) (show A.units + 1 < cLine by have := cLine_9900; omega) hk hm (fun h' hm' hs => q h' _ (rowStore (h := s.heap) hn hp hD dp hv hm') hs) (by rw [hp.length, sizeLine_eq]; omega)

theorem row_ents {D : Addr → Prop} {h : Heap} {d : Addr} {ks : List Int} (x : RowAt prog w a b D h d ks) : ∃ es ep, EntsAt h d es ep ∧ es.size = ks.length ∧ Paired (fun (e : DictEntry) k => (tKey prog w a b).is D h e.key k ∧ tInt.is D h e.val 1) es.toList ks := by
  obtain ⟨es, ⟨o, e, ep, ho, hx, hdt, he, his, hn⟩, hD, hp⟩ := x
  refine ⟨e, ep, ⟨o, ho, hx.1, hdt⟩, by rw [size_of_entries he, hp.length], ?_⟩
  rw [he]
  clear he hn
  induction hp with
  | nil => exact .nil
  | @cons y k es ks q _ ih => exact .cons ⟨⟨_, rfl, hD y (.head _), q.1 ▸ his y (.head _)⟩, q.2⟩ (ih (fun z m => his z (.tail _ m)) fun z m => hD z (.tail _ m))

def StItems (prog : Program) (w : World) (a b : Str) (D : Addr → Prop) (it d : Addr) (ps : List (Int × Int)) (h : Heap) : Prop :=
  ¬ D d ∧ it ≠ d ∧ ∃ i ok ov ep es ks, IsItemIter h it d i (Array.size es) ep ok ov ∧ EntsAt h d es ep ∧ Paired (fun (e : DictEntry) k => (tKey prog w a b).is D h e.key k ∧ tInt.is D h e.val 1) (es.toList.drop i) ks ∧ ps = ks.map fun k => (k, 1)

theorem entsFirm {h : Heap} {d : Addr} {es : Array DictEntry} {ep : Nat} (x : EntsAt h d es ep) {D : Addr → Prop} {h' : Heap} (nd : ¬ D d) (le : Le D h h') : EntsAt h' d es ep := by
  obtain ⟨o, ho, hc, hd⟩ := x
  exact ⟨o, le d o nd (by unfold Firm; rw [hd]; trivial) ho, hc, hd⟩

theorem src_items (hh : A.handled = none) (els : List Expr) (kk : Nat) (pt : Pos) (it d : Addr) : SrcF prog w A D (tPair (tKey prog w a b) tInt) (.Tuple els kk pt) (.ref it) [it] (StItems prog w a b D it d) where
  draw := fun {x ps s Q E} st l q => by
    obtain ⟨nd, hne, i, ok, ov, ep, es, ks, hi, hm, hp, hx⟩ := st
    cases ks with
    | nil => cases hx
    | cons k ks =>
      obtain ⟨rfl, rfl⟩ := List.cons.inj hx
      obtain ⟨e, he, he'⟩ := paired_get hp 0 k rfl
      have hei : es[i]? = some e := by simpa using he
      refine next_itemsE hi hm hei fun h1 ho ht hk => ⟨_, rfl, wpAny_letOwnedTupleGo_items ho fun h2 hi2 hs2 => ?_⟩
      have hil : it < s.heap.objs.size := Heap.lt_size hi
      have old : ∀ c o, c ∉ [it] → s.heap.get? c = some o → h2.get? c = some o := fun c o nc ec => (hs2.2 c fun z => nc (z ▸ .head _)).trans (hk c o (fun z => nc (z ▸ .head _)) ec)
      have hle : Le D s.heap h2 := fun c o ncd f ec => old c o (fun m => by
        cases m with
        | head => rw [hi] at ec; cases ec; exact f
        | tail _ m => cases m) ec
      refine q _ _ ⟨h2, s.toks, rfl, old⟩ ⟨_, 0, _, _, rfl, live_fresh l, (hs2.2 _ (Nat.ne_of_gt hil)).trans ht, (tKey prog w a b).mono hle he'.1, tInt.mono hle he'.2⟩ ⟨nd, hne, i + 1, _, _, ep, es, ks, hi2, entsFirm hm nd hle, ?_, rfl⟩
      have := paired_drop hp 1
      rw [List.drop_drop] at this
      exact paired_mono (fun _ _ z => ⟨(tKey prog w a b).mono hle z.1, tInt.mono hle z.2⟩) this
  fin := fun {s Q E} st q => by
    obtain ⟨nd, hne, i, ok, ov, ep, es, ks, hi, hm, hp, hx⟩ := st
    cases ks with
    | cons k ks => cases hx
    | nil =>
      have hl := hp.length
      refine next_items_endE hh hi hm ?_ fun h' hs => ⟨rfl, q _ (stepI_ext hs (.head _))⟩
      simp only [List.length_drop, List.length_nil] at hl
      simpa using (by omega : es.toList.length ≤ i)
  frame := fun {xs h h'} st le keep => by
    obtain ⟨nd, hne, i, ok, ov, ep, es, ks, hi, hm, hp, hx⟩ := st
    exact ⟨nd, hne, i, ok, ov, ep, es, ks, keep _ (.head _) _ hi, entsFirm hm nd le, paired_mono (fun _ _ z => ⟨(tKey prog w a b).mono le z.1, tInt.mono le z.2⟩) hp, hx⟩
  here := fun st c m => by
    obtain ⟨nd, hne, i, ok, ov, ep, es, ks, hi, _⟩ := st
    cases m with
    | head => exact ⟨_, _, hi, rfl⟩
    | tail _ m => cases m

def StVals (D : Addr → Prop) (it d : Addr) (ns : List Int) (h : Heap) : Prop :=
  ¬ D d ∧ it ≠ d ∧ ∃ i ep es, h.IsValIter it d i (Array.size es) ep ∧ EntsAt h d es ep ∧ Paired (fun (e : DictEntry) n => tInt.is D h e.val n) (es.toList.drop i) ns

theorem src_vals (hh : A.handled = none) (tg : Expr) (it d : Addr) : SrcF prog w A D tInt tg (.ref it) [it] (StVals D it d) where
  draw := fun {x xs s Q E} st l q => by
    obtain ⟨nd, hne, i, ep, es, hi, hm, hp⟩ := st
    obtain ⟨e, he, t, hv⟩ := paired_get hp 0 x rfl
    have hei : es[i]? = some e := by simpa using he
    refine next_valuesE hi hm hei fun h1 hi1 hs1 => ⟨_, rfl, ?_⟩
    obtain ⟨o, ho, hc, hd⟩ := id hi
    obtain ⟨o1, ho1, hc1, hd1⟩ := id hi1
    have hle : Le D s.heap h1 := le_of_sameBut hs1 (.inr fun o' e' f => by
      rw [ho] at e'; cases e'
      unfold Firm at f; rw [hd] at f; exact f)
    rw [hv]
    refine letOwned_list ho1 hc1 hd1 (by decide) (q _ _ (stepI_same hs1 (.head _)) ⟨_, rfl⟩ ⟨nd, hne, i + 1, ep, es, hi1, entsFirm hm nd hle, ?_⟩)
    have := paired_drop hp 1
    rw [List.drop_drop] at this
    exact paired_mono (fun _ _ z => z) this
  fin := fun {s Q E} st q => by
    obtain ⟨nd, hne, i, ep, es, hi, hm, hp⟩ := st
    have hl := hp.length
    refine next_values_endE hh hi hm ?_ fun h' hs => ⟨rfl, q _ (stepI_ext hs (.head _))⟩
    simp only [List.length_drop, List.length_nil] at hl
    simpa using (by omega : es.toList.length ≤ i)
  frame := fun {xs h h'} st le keep => by
    obtain ⟨nd, hne, i, ep, es, hi, hm, hp⟩ := st
    obtain ⟨o, ho, r⟩ := hi
    exact ⟨nd, hne, i, ep, es, ⟨o, keep _ (.head _) _ ho, r⟩, entsFirm hm nd le, hp⟩
  here := fun st c m => by
    obtain ⟨nd, hne, i, ep, es, ⟨o, ho, hc, hd⟩, _⟩ := st
    cases m with
    | head => exact ⟨o, _, ho, hd⟩
    | tail _ m => cases m

theorem noDict_ents {h : Heap} {d : Addr} {ks : List Int} (x : RowAt prog w a b D h d ks) : ∀ c, Value.ref d = .ref c → ∃ oc, h.get? c = some oc ∧ oc.dict = none := fun c e => by
  obtain ⟨es, ⟨o, e', ep, ho, hx, _⟩, _⟩ := x
  cases e
  exact ⟨o, ho, hx.2.1⟩

/-- row.items() -/
theorem iters_items {x : Str} {apos : Pos} {ks : List Int} {els : List Expr} {kk : Nat} {pt : Pos} (hh : A.handled = none) (he : Has prog w A D s (eval (.Name x px) env) (tRow prog w a b) ks) (hl : (apos.endLine == pos.line) = true := by rfl) :
    ItersF prog w A D s (.Call (.Attribute (.Name x px) "items" apos) [] [] pos) env (tPair (tKey prog w a b) tInt) (.Tuple els kk pt) (ks.map fun k => (k, 1)) := fun s' k l => by
  refine wpAny_Call_method0_late rfl hl (wpAny_mono (he s' k l) (fun v s₁ h => ?_) fun _ _ e => e)
  obtain ⟨k1, d, rfl, nd, big, hr⟩ := h
  obtain ⟨es, ep, hm, hsz, hp⟩ := row_ents hr
  have lo : (d == sysModules) = false := by
    have : ¬ d = sysModules := fun e => by rw [e] at big; exact absurd big (by decide)
    simpa using this
  refine ⟨"dict", "dict.items", PySem.F.plainAttrs_dict, PySem.F.slot_dict_items, PySem.F.type_dict_items, hm.typeIs, noDict_ents hr, callWith_method0 (env := env) (call_itemsE lo hm ?_)⟩
  have k2 : Keeps s₁ { s₁ with heap := s₁.heap.push { cls := .type "dict_items", data := .fields #[.ref d] } } := keeps_push _ _
  have hm2 := hm.get (h' := s₁.heap.push { cls := .type "dict_items", data := .fields #[.ref d] }) fun o e => keeps_get k2 e
  refine iter_itemsE ⟨_, Heap.get?_push_size _ rfl, rfl, rfl⟩ hm2 fun h' hi hk => ?_
  have k3 : Keeps { s₁ with heap := s₁.heap.push { cls := .type "dict_items", data := .fields #[.ref d] } } { s₁ with heap := h' } := ⟨h', _, rfl, hk⟩
  have k13 := keeps_trans k2 k3
  refine ⟨keeps_trans k1 k13, [_], fun c m => ?_, fun D' hD' => ⟨_, src_items hh els kk pt _ d, fun q => ?_, ?_, 0, _, _, ep, es, ks, hi, hm2.get fun o e => hk _ _ e, ?_, rfl⟩⟩
  · cases m with
    | head => exact none_of_keeps (keeps_trans k1 k2)
    | tail _ m => cases m
  · obtain ⟨o, ho, _⟩ := hm
    exact nd (hD' _ _ (keeps_get k13 ho) q)
  · obtain ⟨o, ho, _⟩ := hm2
    exact fun e => Nat.lt_irrefl _ (e ▸ Heap.lt_size ho)
  · exact paired_mono (fun e y z => ⟨(tKey prog w a b).wide hD' ((tKey prog w a b).mono (keeps_le k13 D) z.1), z.2⟩) hp

/-- row.values() -/
theorem iters_values {x : Str} {apos : Pos} {ks : List Int} {tg : Expr} (hh : A.handled = none) (he : Has prog w A D s (eval (.Name x px) env) (tRow prog w a b) ks) (hl : (apos.endLine == pos.line) = true := by rfl) :
    ItersF prog w A D s (.Call (.Attribute (.Name x px) "values" apos) [] [] pos) env tInt tg (ks.map fun _ => 1) := fun s' k l => by
  refine wpAny_Call_method0_late rfl hl (wpAny_mono (he s' k l) (fun v s₁ h => ?_) fun _ _ e => e)
  obtain ⟨k1, d, rfl, nd, big, hr⟩ := h
  obtain ⟨es, ep, hm, hsz, hp⟩ := row_ents hr
  have lo : (d == sysModules) = false := by
    have : ¬ d = sysModules := fun e => by rw [e] at big; exact absurd big (by decide)
    simpa using this
  refine ⟨"dict", "dict.values", PySem.F.plainAttrs_dict, PySem.F.slot_dict_values, PySem.F.type_dict_values, hm.typeIs, noDict_ents hr, callWith_method0 (env := env) (call_valuesE lo hm ?_)⟩
  have k2 : Keeps s₁ { s₁ with heap := s₁.heap.push { cls := .type "dict_values", data := .fields #[.ref d] } } := keeps_push _ _
  have hm2 := hm.get (h' := s₁.heap.push { cls := .type "dict_values", data := .fields #[.ref d] }) fun o e => keeps_get k2 e
  refine iter_valuesE ⟨_, Heap.get?_push_size _ rfl, rfl, rfl⟩ hm2 fun h' hi hk => ?_
  have k3 : Keeps { s₁ with heap := s₁.heap.push { cls := .type "dict_values", data := .fields #[.ref d] } } { s₁ with heap := h' } := ⟨h', _, rfl, hk⟩
  have k13 := keeps_trans k2 k3
  refine ⟨keeps_trans k1 k13, [_], fun c m => ?_, fun D' hD' => ⟨_, src_vals hh tg _ d, fun q => ?_, ?_, 0, ep, es, hi, hm2.get fun o e => hk _ _ e, ?_⟩⟩
  · cases m with
    | head => exact none_of_keeps (keeps_trans k1 k2)
    | tail _ m => cases m
  · obtain ⟨o, ho, _⟩ := hm
    exact nd (hD' _ _ (keeps_get k13 ho) q)
  · obtain ⟨o, ho, _⟩ := hm2
    exact fun e => Nat.lt_irrefl _ (e ▸ Heap.lt_size ho)
  · rw [List.drop_zero]
    clear hm hsz hm2 hi he hr
    generalize es.toList = l at hp
    induction hp with
    | nil => exact .nil
    | cons z _ ih => exact .cons z.2 ih

theorem ex_augadd {x : Str} {e : Expr} {i j : Int} {Q : Flow → Shared → Prop} {E : Value → Shared → Prop} (X : Ex g s₀ D env s ρ) (h : ρ x = some ⟨tInt, i⟩) (he : Has prog w A D s (eval e env) tInt j) (o : Own s₀ env x)
    (q : ∀ s', Ex g s₀ D env s' (upd ρ x ⟨tInt, i + j⟩) → Others D env s s' → Q .next s') : wpAny (model prog w) A (exec (.AugAssign (.Name x px) .Add e pos) env) Q E s :=
  wpAny_AugAssign_Name (X.load h fun v ht => he.use X.live fun u s' k hu => by
    obtain ⟨t, rfl⟩ := ht
    obtain ⟨t', rfl⟩ := hu
    refine AutoIntOps.iadd_0 ?_
    have kt := keeps_toks s' (s'.toks + 1)
    exact (X.up (keeps_trans k kt)).store (T := tInt) (y := i + j) o ⟨_, rfl⟩ fun s'' X'' ot => q s'' X'' (others_trans (others_keeps (keeps_trans k kt)) ot))

theorem has_row0T {pos : Pos} (a b : Str) (C : Cx g mg mb) (X : Ex g s₀ D env s ρ) : Hs prog w A D s (eval (.Dict [] [] pos) env) fun h v => ∃ p, v = .ref p ∧ s.heap.get? p = none ∧ (∃ o, h.get? p = some o) ∧ 1 < p ∧ h.get? p = some { cls := .type "dict", data := .dict #[] } := Hs.of fun s' Q k l q =>
  wpAny_Dict_empty (q _ _ (keeps_push _ _) ⟨_, rfl, none_of_keeps k, ⟨_, Heap.get?_push_size _ rfl⟩, size_big C (X.up k), Heap.get?_push_size _ rfl⟩)
theorem row_empty {a b : Str} {D : Addr → Prop} {h : Heap} {d : Addr} (e : h.get? d = some { cls := .type "dict", data := .dict #[] }) : RowAt prog w a b D h d [] :=
  ⟨[], ⟨_, #[], 0, e, ⟨rfl, rfl, rfl⟩, rfl, rfl, (fun _ m => nomatch m), List.nodup_nil⟩, (fun _ m => nomatch m), .nil⟩

/-- a name takes an object made by this very step, the frame's own from now on -/
theorem ex_assign_own {x : Str} {px' : Pos} {e : Expr} {P : Heap → Addr → Prop} {Q : Flow → Shared → Prop} {E : Value → Shared → Prop} (X : Ex g s₀ D env s ρ)
    (he : Hs prog w A D s (eval e env) fun h v => ∃ p, v = .ref p ∧ s.heap.get? p = none ∧ (∃ o, h.get? p = some o) ∧ P h p) (o : Own s₀ env x)
    (h : ∀ s₁ p s', Keeps s s₁ → s.heap.get? p = none → p ≠ env.locals → P s₁.heap p → Ex g s₀ (Plus D p) env s' (upd ρ x ⟨tVal, .ref p⟩) → Oth env s₁ s' → Le D s₁.heap s'.heap → Others D env s s' → Q .next s')
    (hs : swapsWith e (some (.Name x px')) pos.line env = pure false := by rfl) : wpAny (model prog w) A (exec (.Assign [.Name x px'] e pos) env) Q E s := by
  refine wpAny_Assign_Name (he.use X.live fun v s₁ k hv => ?_) hs
  obtain ⟨p, rfl, hp, ⟨op, ho⟩, hP⟩ := hv
  have hL : p ≠ env.locals := by
    rintro rfl
    obtain ⟨m0, o0, _, _, e0, _⟩ := X.fm.ns
    rw [hp] at e0; cases e0
  have hl : Live (Plus D p) s₁.heap := fun a d => by
    rcases d with d | rfl
    · exact live_keeps X.live k a d
    · exact ⟨op, ho⟩
  have X₁ := X.grow k (plus_wide hp) hl (.inl X.fm.volL)
  refine X₁.store (T := tVal) (y := .ref p) o rfl fun s' X' ot => ?_
  have le : Le D s₁.heap s'.heap := fun b ob nd f eb => (oth_others ot) b ob eb (fun q => nd (q ▸ X.fm.volL)) f
  refine h s₁ p s' k hp hL hP X' (oth_others ot) le ⟨fun b ob eb nb nc => ot.still b ob (keeps_get k eb) nb nc, ⟨fun b ob nd f eb => le b ob nd f (keeps_get k eb), fun b ob vs eb d => ot.calm.fields b ob vs (keeps_get k eb) d⟩⟩

/-- row[func] = caller, in a loop -/
theorem ex_setrow {r f c : Str} {pr pf pc ps : Pos} {d : Addr} {k : Int} {ks : List Int} {Q : Flow → Shared → Prop} {E : Value → Shared → Prop} (X : Ex g s₀ D env s ρ) (hu : A.units ≤ 9000)
    (hc : Has prog w A D s (eval (.Name c pc) env) tInt 1) (hr : Has prog w A D s (eval (.Name r pr) env) tVal (.ref d)) (hf : Has prog w A D s (eval (.Name f pf) env) (tKey prog w a b) k)
    (row : RowAt prog w a b D s.heap d ks) (hn : k ∉ ks) (hl : ks.length ≤ 1000) (dd : D d) (nd : s₀.heap.get? d = none) (hL : d ≠ env.locals)
    (q : ∀ s', Ex g s₀ D env s' ρ → RowAt prog w a b D s'.heap d (ks ++ [k]) → Calm D s s' → Q .next s') :
    wpAny (model prog w) A (exec (.Assign [.Subscript (.Name r pr) (.Name f pf) ps] (.Name c pc) pos) env) Q E s := by
  refine wpAny_Assign_Subscript (hc.use X.live fun v s₁ k₁ hv => (hr.up k₁).use (live_keeps X.live k₁) fun u s₂ k₂ hu2 => (hf.up (keeps_trans k₁ k₂)).use (live_keeps X.live (keeps_trans k₁ k₂)) fun x s₃ k₃ hx => ?_) (by rfl)
  cases hu2
  have kk := keeps_trans (keeps_trans k₁ k₂) k₃
  have row₃ := row.up (fun o e _ => keeps_get kk e) (keeps_le kk D)
  refine set_row (D := D) hu hx (tInt.mono (keeps_le (keeps_trans k₂ k₃) D) hv) row₃ hn hl fun h' tk row' hs => ?_
  obtain ⟨o, ho, fo⟩ := row₃.here
  obtain ⟨o', ho', _⟩ := row'.here
  obtain ⟨X', c'⟩ := (X.up kk).mut (tk := tk) hs dd nd ho fo ho' hL
  exact q _ X' row' ((Calm.keeps kk).trans c')
end
end Mine

end
section
set_option maxRecDepth 100000
open PySem PySem.W PyProof.Rows PySem.Calls
namespace Mine
section
variable {prog : Program} {w : World} {A : Around} {D : Addr → Prop} {s s₁ s₀ : Shared} {g : Heap} {env : Env} {ρ : Rho} {mg mb : Str → Option Value} {sc : Scope} {px pos : Pos}

theorem swaps_yes {elt : Expr} {gens : List Comprehension} {scope : Scope} {pos py : Pos} {y : Str} {line : Nat} (K : Kinds sc env) (hb : env.blockKind = .function) (hk : sc.names.lookup y = some .local) (hl : (py.line == pos.line) = true)
    (hn : (scope.names.any fun (n, k) => n == y && (k == .local || k == .cell)) = false) : swapsWith (.ListComp elt gens scope pos) (some (.Name y py)) line env = pure true := by
  unfold swapsWith
  dsimp only
  rw [hb, K.kd hk (by decide), show (Expr.ListComp elt gens scope pos).pos = pos from rfl, hl, hn]
  rfl

/-- xs[i] of a list of the frame's own -/
theorem has_own_item {x : Str} {slice : Expr} {α : Type} {T : Ty α} {xs : List α} {p : Addr} {i : Int} {y : α} (a : Acc T D p s.heap xs) (ha : Has prog w A D s (eval (.Name x px) env) tVal (.ref p)) (hb : Has prog w A D s (eval slice env) tInt i)
    (h0 : 0 ≤ i) (hhi : i < 2 ^ 63) (hy : xs[i.toNat]? = some y) (hs : ∀ o k t, subscripted slice false (.ref o) (.int k t) = operate [.ref o, .int k t] (getItem (.ref o) (.int k t)) := by intro _ _ _; with_unfolding_all rfl) :
    Has prog w A D s (eval (.Subscript (.Name x px) slice pos) env) T y :=
  hs_sub ha hb fun s₁ u v k hu hv => by
    cases hu
    obtain ⟨t, rfl⟩ := hv
    obtain ⟨vs, m, hg, hp⟩ := acc_keeps a k
    obtain ⟨z, hz, hz'⟩ := paired_get hp _ _ hy
    exact Hs.of fun s' Q k' l q => subscriptTail_builtin (isList_of (keeps_get k' hg)).typeIs slot_list_getitem.lookup (wpAny_getItem_list (isList_of (keeps_get k' hg)) h0 hhi (by simpa using hz) (q _ _ (keeps_refl _) (T.mono (keeps_le k' D) hz'))) (hs _ _ _)

theorem paired_set {α β : Type} {F : α → β → Prop} {a : List α} {b : List β} (h : Paired F a b) : ∀ (n : Nat) {x : α} {y : β}, F x y → Paired F (a.set n x) (b.set n y) := by
  induction h with
  | nil => intro n x y _; simpa using Paired.nil
  | cons q r ih =>
    intro n x y f
    cases n with
    | zero => exact .cons f r
    | succ n => exact .cons q (ih n f)

/-- xs[i] = e for such a list: the new object -/
theorem setItem_list_obj {l : Addr} {items : Array Value} {m : Nat} {k : Int} {t : Tok} {v : Value} {Q : Unit → Shared → Prop} {E : Value → Shared → Prop} (hl : s.heap.get? l = some (lstObj items m)) (h0 : 0 ≤ k) (hfit : k < 2 ^ 63) (hn : k < items.size)
    (hQ : ∀ h' m', h'.get? l = some (lstObj (items.setIfInBounds k.toNat v) m') → Heap.SameBut l s.heap h' → Q () { s with heap := h' }) : wpAny (model prog w) A (setItem (.ref l) (.int k t) v) Q E s := by
  unfold setItem
  try with_reducible refine wpAny_holding ?_
  refine wpAny_bind (wpAny_sequenceKey (isList_of hl).typeIs (by decide) ?_)
  refine wpAny_bind (wpAny_callSpecial?_slot (name := Str.ofString "__setitem__") (isList_of hl).typeIs slot_list_setitem
    (wpAny_call_entry slot_list_setitem (isList_of hl).typeIs entry_list_setitem ?_ (args_list_setitem _ _ _)))
  show wpAny _ _ (Builtin.List.listSubscript? (.int k t) >>= _) _ _ s
  refine wpAny_bind (wpAny_listSubscript_int (fitsIndex_of h0 hfit) ?_)
  clear hfit
  obtain ⟨j, rfl⟩ := Int.eq_ofNat_of_zero_le h0
  have hj : j < items.size := by omega
  show wpAny _ _ ((seqItemAt l j >>= fun r => pure (r.map (j, ·))) >>= _) _ _ s
  refine wpAny_bind (wpAny_bind (wpAny_seqItemAt hl rfl (wpAny_pure ?_)))
  rw [Array.getElem?_eq_getElem hj]
  show wpAny _ _ (setSeqItemAt l j v >>= _) _ _ s
  exact wpAny_bind (wpAny_setSeqItemAt hl rfl (wpAny_pure ⟨.none, rfl, wpAny_pure (hQ _ _ (Heap.get?_update_self _ hl rfl) (Heap.SameBut.update ..))⟩))

theorem ex_own_set {x : Str} {slice e : Expr} {ps : Pos} {α : Type} {T : Ty α} {xs : List α} {p : Addr} {i : Int} {y : α} {Q : Flow → Shared → Prop} {E : Value → Shared → Prop} (X : Ex g s₀ D env s ρ) (a : Acc T D p s.heap xs) (dp : D p) (np : s₀.heap.get? p = none) (hL : p ≠ env.locals)
    (he : Has prog w A D s (eval e env) T y) (ha : Has prog w A D s (eval (.Name x px) env) tVal (.ref p)) (hb : Has prog w A D s (eval slice env) tInt i) (h0 : 0 ≤ i) (hi : i < xs.length) (hl : xs.length ≤ 1000)
    (q : ∀ s', Ex g s₀ D env s' ρ → Acc T D p s'.heap (xs.set i.toNat y) → Calm D s s' → Q .next s') (hsw : swapsWith e (some (.Subscript (.Name x px) slice ps)) pos.line env = pure false := by rfl) :
    wpAny (model prog w) A (exec (.Assign [.Subscript (.Name x px) slice ps] e pos) env) Q E s := by
  refine wpAny_Assign_Subscript (he.use X.live fun v s₁ k₁ hv => (ha.up k₁).use (live_keeps X.live k₁) fun u s₂ k₂ hu2 => (hb.up (keeps_trans k₁ k₂)).use (live_keeps X.live (keeps_trans k₁ k₂)) fun z s₃ k₃ hz => ?_) hsw
  cases hu2
  obtain ⟨t, rfl⟩ := hz
  have kk := keeps_trans (keeps_trans k₁ k₂) k₃
  obtain ⟨vs, m, hg, hp⟩ := acc_keeps a kk
  have hlen := hp.length
  refine setItem_list_obj hg h0 (by omega) (by rw [List.size_toArray, hlen]; omega) fun h' m' hl' hs => ?_
  obtain ⟨X', c'⟩ := (X.up kk).mut (tk := s₃.toks) hs dp np hg (firm_lst _ _) hl' hL
  refine q _ X' ⟨vs.set i.toNat v, m', by rw [hl']; simp, ?_⟩ ((Calm.keeps kk).trans c')
  exact paired_mono (fun _ _ => T.mono c'.le) (paired_set hp _ (T.mono (keeps_le (keeps_trans k₂ k₃) D) hv))

theorem ex_compM {scope : Scope} (K : Kinds sc env) (hbk : env.blockKind = .function) {y : Str} {py spos : Pos} {elt iter : Expr} {n : Str} {pn : Pos} {ifs : List Expr} {α β : Type} {T : Ty α} {U : Ty β} (p : α → Bool) (f : α → β) {xs : List α} {Q : Flow → Shared → Prop} {E : Value → Shared → Prop}
    (X : Ex g s₀ D env s ρ) (hi : Iters prog w A D s iter env T (.Name n pn) xs) (hsz : xs.length ≤ 9000)
    (ht : ∀ x ∈ xs, ∀ env' s' D' s₁, Keeps s s' → Kinds scope env' → Ex g s' D' env' s₁ (upd (pick (freeOf scope) ρ) n ⟨T, x⟩) → Tests prog w A D' s₁ ifs env' (p x))
    (he : ∀ x ∈ xs, p x = true → ∀ env' s' D' s₁, Keeps s s' → Kinds scope env' → Ex g s' D' env' s₁ (upd (pick (freeOf scope) ρ) n ⟨T, x⟩) → Has prog w A D' s₁ (eval elt env') U (f x))
    (h : ∀ s' q, s.heap.get? q = none → Ex g s₀ (Plus D q) env s' (upd ρ y ⟨tVal, .ref q⟩) → Acc U (Plus D q) q s'.heap ((xs.filter p).map f) → q ≠ env.locals → Others D env s s' → Q .next s')
    (hfree : ∀ x ∈ freeOf scope, sc.names.lookup x = some .cell ∨ sc.names.lookup x = some .free := by decide +kernel) (hk : scope.kind = .function := by rfl)
    (hln : ∀ x ∈ scope.names, x.2 = .local → scope.names.lookup x.1 = some .local := by decide +kernel)
    (hp : ∀ z ∈ freeOf scope, scope.names.lookup z = some .free ∧ (z, NameKind.cell) ∉ scope.names ∧ (z == ("__classdict__" : Str)) = false := by decide +kernel)
    (hn : scope.names.lookup n = some .local ∨ scope.names.lookup n = some .cell := by decide +kernel) (hfl : (freeOf scope).contains n = false := by decide +kernel)
    (hy : sc.names.lookup y = some .local := by decide +kernel) (hline : (py.line == pos.line) = true := by rfl) (hno : (scope.names.any fun (n, k) => n == y && (k == .local || k == .cell)) = false := by decide +kernel)
    (hs : ∀ x, foldedSetIterable iter env x = pure x := by intro _; rfl) :
    wpAny (model prog w) A (exec (.Assign [.Name y py] (.ListComp elt [⟨.Name n pn, iter, ifs, 0⟩] scope pos) spos) env) Q E s :=
  ex_assign_compNM X (own_local K hy) hi (compScope_mk K hfree hk hln hp) hsz hn hfl ht he h (swaps_yes K hbk hy hline hno) hs
theorem blockOf {scope : Scope} (h : env.scope = scope) (hk : scope.kind = .function := by rfl) : env.blockKind = .function := by
  unfold Env.blockKind
  rw [h, hk]
  rfl
end
end Mine

end
section
set_option maxRecDepth 100000
open PySem PySem.W PyProof.Rows PySem.Calls
namespace Mine
section
variable {prog : Program} {w : World} {A : Around} {D : Addr → Prop} {s s₁ s₀ : Shared} {g : Heap} {env : Env} {ρ : Rho} {mg mb : Str → Option Value} {sc : Scope} {px pos : Pos}

theorem Ex.base {s₀' : Shared} (X : Ex g s₀ D env s ρ) (k : Keeps s₀' s₀) (hg : Sub g s₀'.heap) : Ex g s₀' D env s ρ :=
  ⟨hg, keeps_trans k X.kp, X.live, ⟨X.fm.kind, X.fm.ns, keeps_none k X.fm.newL, X.fm.volL, X.fm.cells, X.fm.apart, X.fm.cellOk, X.fm.glob, X.fm.names⟩⟩
theorem Own.base {s₀' : Shared} {x : Str} (o : Own s₀ env x) (k : Keeps s₀' s₀) : Own s₀' env x := o.imp id fun ⟨a, c, e, n⟩ => ⟨a, c, e, keeps_none k n⟩

/-- a module's function whose body makes functions: its code's table lies at P -/
structure FnTab (g : Heap) (mg : Str → Option Value) (name : Str) (params : Arguments) (body : List Stmt) (scope : Scope) (f : Value) (P : Addr) : Prop where
  nm : mg name = some f
  fn : ∃ a o pm c doc, f = .ref a ∧ g.get? a = some o ∧ o.data = .func (docDef name params body scope pm (.ref c) doc) ∧ g.CodeRec (.ref c) name ∧ CodeHd g c P
theorem FnTab.at {name : Str} {params : Arguments} {body : List Stmt} {scope : Scope} {f : Value} {P : Addr} (F : FnTab g mg name params body scope f P) : FnAt g mg name params body scope f :=
  let ⟨a, o, pm, c, doc, e1, e2, e3, e4, _⟩ := F.fn; ⟨F.nm, a, o, pm, _, doc, e1, e2, e3, e4⟩

/-- a call of such a function, whatever it leaves -/
theorem wp_fn {name : Str} {params : Arguments} {body : List Stmt} {scope : Scope} {f : Value} {k : Nat} {Q : Value → Shared → Prop} (W : Wd g mg mb) (hg : Sub g s.heap) (l : Live D s.heap) (F : FnAt g mg name params body scope f) (R : Rm A (k + 1))
    (b : Binds) (hbind : ∀ pm cd doc, bindArgs (docDef name params body scope pm cd doc) ⟨b.map (·.2.1), []⟩ = pure b.plain)
    (ht : ∀ t ∈ b, t.2.2.T.is D s.heap t.2.1 t.2.2.y)
    (h : ∀ env, env.scope = scope → (∀ P, FnTab g mg name params body scope f P → ∃ c, env.code = .ref c ∧ CodeHd g c P) → Rm (A.deeper env) k → (∀ n, scope.names.lookup n = some .local ∨ scope.names.lookup n = some .cell → Own s env n) → s.heap.get? env.locals = none →
      ∀ s₂, Ex g s (Plus D env.locals) env s₂ b.rho → wpAny (model prog w) (A.deeper env) (execs body env) (fun fl s' => Q (match fl with | .ret v => v | _ => .none) s') NE s₂)
    (bn : List Str) (hbn : b.map (·.1) = bn) (hn' : bn.Nodup) (hloc' : ∀ t ∈ bn, scope.names.lookup t = some .local ∨ scope.names.lookup t = some .cell)
    (hfr : ∀ y ∈ scope.names, y.2 ≠ .free)
    (hco : scope.isCoroutine = false := by rfl) (hgen : scope.isGenerator = false := by rfl) (hk : scope.kind = .function := by rfl) :
    wpAny (model prog w) A (call f (b.map (·.2.1))) Q NE s := by
  subst hbn
  have hn := hn'
  have hloc : ∀ n, ∀ t ∈ b, scope.names.lookup t.1 = some .local ∨ (scope.names.lookup t.1 = some .cell ∧ ((cellsFrom n scope.names []).lookup t.1).isSome = true) := fun n t m =>
    (hloc' _ (List.mem_map.mpr ⟨t, m, rfl⟩)).imp id fun e => ⟨e, cellsFrom_some _ _ _ (.inl e)⟩
  obtain ⟨a, o, pm, cd, doc, rfl, ho, hd, hcd⟩ := F.fn
  refine wpAny_call (codeAny_call_function (by have := R.depth; show A.depth < 1000; omega) (hg _ _ ho) hd hco hgen rfl (by
    obtain ⟨c, oc, vs, t, e1, e2, e3, e4⟩ := hcd
    exact ⟨c, oc, vs, t, e1, hg _ _ e2, e3, e4⟩) ?_)
  rw [hbind]
  refine wpAny_pure (wpAny_newFunctionEnv_cells hk (fun t ht => ?_) fun env he s₂ x => ?_)
  · obtain ⟨t', ht', rfl⟩ := List.mem_map.mp ht
    exact hloc _ t' ht'
  · have X : Ex g s (Plus D env.locals) env s₂ b.rho := frame_new hk he x hn (hloc _) ht hg l hfr
    refine ⟨(W.lim.keeps hg).keeps fun b o e => keeps_get X.kp e, codeAny_func ?_⟩
    have hsc : env.scope = scope := by rw [he]; rfl
    refine wpAny_mono (h env hsc (fun P T => ?_) (R.deeper env) (fun n hn => ?_) X.fm.newL s₂ X) (fun fl s'' q => ?_) fun _ _ e => e.elim
    · obtain ⟨a', o', pm', c, doc', e1, e2, e3, e4, e5⟩ := T.fn
      cases e1
      rw [ho] at e2; cases e2
      rw [hd] at e3
      have : cd = .ref c := by
        have := congrArg (fun d : Data => match d with | .func fd => fd.code | _ => .none) e3
        exact this
      exact ⟨c, by rw [he, this]; rfl, e5⟩
    · rcases hn with hn | hn
      · exact .inl ((kinds_of hsc).kd hn (by decide))
      · obtain ⟨c, hc, hge⟩ := cellsFrom_new scope.names (s.heap.objs.size + 1) [] (mem_of_lookup hn)
        exact .inr ⟨(kinds_of hsc).kd hn (by decide), c, by rw [he]; exact hc, none_above (keeps_refl s) (by omega)⟩
    · exact q

/-- a function made by a def in a body -/
def CloAt (h : Heap) (f : Addr) (name qual : Str) (params : Arguments) (body : List Stmt) (scope : Scope) (cl : List (Str × Addr)) : Prop :=
  ∃ o doc pm c ctv, h.get? f = some o ∧ o.data = .func (fnX name qual params body scope cl .none .none doc pm none (.ref c) ctv) ∧ h.CodeRec (.ref c) qual
theorem CloAt.up {h h' : Heap} {f : Addr} {name qual : Str} {params : Arguments} {body : List Stmt} {scope : Scope} {cl : List (Str × Addr)} (x : CloAt h f name qual params body scope cl) {I : List Addr} (k : ∀ b o, b ∉ I → h.get? b = some o → h'.get? b = some o)
    (hI : ∀ b ∈ I, ∀ o, h.get? b = some o → ∃ vs n, o.data = .seq vs n) : CloAt h' f name qual params body scope cl := by
  obtain ⟨o, doc, pm, c, ctv, e, d, c', oc, vs, t, e1, e2, e3, e4⟩ := x
  refine ⟨o, doc, pm, c, ctv, k f o (fun m => ?_) e, d, c', oc, vs, t, e1, k _ _ (fun m => ?_) e2, e3, e4⟩
  · obtain ⟨_, _, z⟩ := hI _ m _ e; rw [d] at z; cases z
  · obtain ⟨_, _, z⟩ := hI _ m _ e2; rw [e3] at z; cases z

/-- what the top says of the builtins' module -/
def Bm (g : Heap) (mg : Str → Option Value) : Prop := ∃ bm ob, mg "__builtins__" = some (.ref bm) ∧ bm ≠ builtinsNs ∧ g.get? bm = some ob ∧ ob.cls = .type "module" ∧ ob.dict = some builtinsNs ∧ ob.data = .plain

/-- a def in a body, made for the first time -/
theorem ex_def {name : Str} {params : Arguments} {body : List Stmt} {scope : Scope} {P c : Addr} {Q : Flow → Shared → Prop} {E : Value → Shared → Prop} (C : Cx g mg mb) (B : Bm g mg) (X : Ex g s₀ D env s ρ) (hcode : env.code = .ref c) (hc : CodeHd g c P)
    (hP : s.heap.get? P = some (tabObj #[])) (hP0 : s₀.heap.get? P = none) (nP : ¬ D P) (hfree : ∀ y ∈ scope.names, y.2 = .free → ∃ c, env.cells.lookup y.1 = some c) (o : Own s₀ env name)
    (q : ∀ s₁ s' f, StepI [P] s s₁ → s.heap.get? f = none → CloAt s₁.heap f name (qualnameIn env name name) params body scope (freeCells env.cells scope.names []) → (∃ ps, s₁.heap.get? P = some (tabObj ps)) →
      Ex g s₀ D env s₁ ρ → Ex g s₀ D env s' (upd ρ name ⟨tVal, .ref f⟩) → Others D env s₁ s' → Q .next s')
    (hd0 : params.defaults = [] := by rfl) (hk0 : params.kw_defaults = [] := by rfl) (ha : annTrees params none env = [] := by rfl) :
    wpAny (model prog w) A (exec (.FunctionDef name params body [] none [] scope none name pos) env) Q E s := by
  refine nestDef_K hd0 hk0 ha ?_
  have hs := X.subs
  have hgs := C.W.ng.keeps hs
  obtain ⟨bm, ob, b1, b2, b3, b4, b5, b6⟩ := B
  have hgP : mainGlobals ≠ P := fun z => by
    obtain ⟨o, es, ep, e, hd, _⟩ := hgs
    rw [z, hP] at e; cases e; cases hd
  have hbP : bm ≠ P := fun z => by
    have e := hs _ _ b3
    rw [z, hP] at e; cases e; cases b4
  have hbG : bm ≠ mainGlobals := fun z => by
    obtain ⟨o, es, ep, e, hd, _⟩ := C.W.ng
    rw [z, e] at b3; cases b3; rw [hd] at b6; cases b6
  refine makeFunction_K (mg := mg) (closureFor_is hfree) X.fm.glob.1 hgs hcode (hc.keeps hs) hP trivial rfl hgP ⟨bm, ob, b1, b2, hbG, hbP, hs _ _ b3, b4, b5, b6⟩ fun c' ctv doc h' tk hx hge hlt hrec htb => ?_
  have st : StepI [P] s { s with heap := h'.push (fnMade name (qualnameIn env name name) params body scope (freeCells env.cells scope.names []) doc ((mg "__name__").getD .none) c' ctv), toks := tk } :=
    ⟨_, tk, rfl, fun b ob nb e => Heap.get?_push_of_some _ (hx b ob (fun z => nb (z ▸ .head _)) e)⟩
  have O : ItOk s₀ s D [P] := by
    refine ⟨fun a m => ?_, fun a m => ?_, fun a m => ?_⟩ <;> (rw [List.mem_singleton] at m; subst m)
    · exact hP0
    · exact nP
    · exact ⟨_, _, hP, rfl⟩
  obtain ⟨X₁, o₁⟩ := X.stepI O st
  have big : s.heap.objs.size ≤ h'.objs.size := Nat.le_trans hge (Nat.le_of_lt hlt)
  refine X₁.store (T := tVal) (y := .ref h'.objs.size) o rfl fun s' X' ot => q _ s' _ st (Heap.get?_none_of_le big) ⟨_, doc, _, c', ctv, Heap.get?_push_size _ rfl, rfl, ?_⟩ ⟨_, Heap.get?_push_of_some _ htb⟩ X₁ X' ot
  obtain ⟨c₂, oc, vs, t, e1, e2, e3, e4⟩ := hrec
  exact ⟨c₂, oc, vs, t, e1, Heap.get?_push_of_some _ e2, e3, e4⟩

theorem lookup_bind {b : Binds} : ∀ {x : Str} {v : Value} {e : Ent}, (b.map (·.1)).Nodup → (x, v, e) ∈ b → b.plain.reverse.lookup x = some v := by
  have key : ∀ (l : List (Str × Value)) (x : Str) (v : Value), (l.map (·.1)).Nodup → (x, v) ∈ l → l.lookup x = some v := by
    intro l
    induction l with
    | nil => intro x v _ m; cases m
    | cons y r ih =>
      intro x v hn m
      have hn' := List.nodup_cons.mp hn
      rw [List.lookup_cons]
      cases m with
      | head => simp
      | tail _ m =>
        have : ¬ x = y.1 := fun q => hn'.1 (List.mem_map.mpr ⟨(x, v), m, q⟩)
        rw [show (x == y.1) = false by simpa using this]
        exact ih x v hn'.2 m
  intro x v e hn m
  refine key _ _ _ ?_ (List.mem_reverse.mpr (List.mem_map.mpr ⟨(x, v, e), m, rfl⟩))
  have : b.plain.map (·.1) = b.map (·.1) := by unfold Binds.plain; rw [List.map_map]; rfl
  rw [List.map_reverse, this]
  unfold List.Nodup
  rw [List.pairwise_reverse]
  exact List.Pairwise.imp (fun h => h.symm) hn

/-- a call of a function that keeps names of the frame around it, whatever it leaves -/
theorem wp_clo {name qual : Str} {params : Arguments} {body : List Stmt} {scope : Scope} {cl : List (Str × Addr)} {f : Addr} {k : Nat} {Q : Value → Shared → Prop} (W : Wd g mg mb) (hg : Sub g s.heap) (l : Live D s.heap) (F : CloAt s.heap f name qual params body scope cl) (R : Rm A (k + 1))
    (b fb : Binds) (hbind : ∀ fd : FuncData, fd.params = params → fd.qualname = qual → fd.defaults = .none → fd.kwdefaults = .none → bindArgs fd ⟨b.map (·.2.1), []⟩ = pure b.plain)
    (ht : ∀ t ∈ b, t.2.2.T.is D s.heap t.2.1 t.2.2.y) (hft : ∀ t ∈ fb, t.2.2.T.is D s.heap t.2.1 t.2.2.y ∧ ∃ c, cl.lookup t.1 = some c ∧ s.heap.IsCell c (some t.2.1)) (hgood : CellsGood s.heap cl)
    (bn fn : List Str) (hbn : b.map (·.1) = bn) (hfn : fb.map (·.1) = fn) (hn' : bn.Nodup) (hloc' : ∀ t ∈ bn, scope.names.lookup t = some .local) (hfree' : ∀ t ∈ fn, scope.names.lookup t = some .free ∧ (t == ("__classdict__" : Str)) = false)
    (hall : ∀ x, scope.names.lookup x = some .free → ∃ c, cl.lookup x = some c) (hcell : ∀ y ∈ scope.names, y.2 ≠ .cell)
    (h : ∀ env, env.scope = scope → Rm (A.deeper env) k → ∀ s₂, Ex g s (Plus D env.locals) env s₂ (b ++ fb).rho → wpAny (model prog w) (A.deeper env) (execs body env) (fun fl s' => Q (match fl with | .ret v => v | _ => .none) s') NE s₂)
    (hco : scope.isCoroutine = false := by rfl) (hgen : scope.isGenerator = false := by rfl) (hk : scope.kind = .function := by rfl) :
    wpAny (model prog w) A (call (.ref f) (b.map (·.2.1))) Q NE s := by
  subst hbn hfn
  have hn := hn'
  have hloc : ∀ t ∈ b, scope.names.lookup t.1 = some .local := fun t m => hloc' _ (List.mem_map.mpr ⟨t, m, rfl⟩)
  have hfree : ∀ t ∈ fb, scope.names.lookup t.1 = some .free ∧ (t.1 == ("__classdict__" : Str)) = false := fun t m => hfree' _ (List.mem_map.mpr ⟨t, m, rfl⟩)
  obtain ⟨o, doc, pm, c, ctv, ho, hd, hcd⟩ := F
  refine wpAny_call (codeAny_call_function (by have := R.depth; show A.depth < 1000; omega) ho hd hco hgen rfl hcd ?_)
  rw [hbind _ rfl rfl rfl rfl]
  refine wpAny_pure (wpAny_newFunctionEnv hcell (fun t m => ?_) (fun h' hns hsb => ?_) hk)
  · obtain ⟨t', ht', rfl⟩ := List.mem_map.mp m
    exact hloc t' ht'
  · have fresh := none_size s.heap
    have old : ∀ b o, s.heap.get? b = some o → h'.get? b = some o := fun b o e => (hsb.2 b fun z => by rw [z, fresh] at e; cases e).trans (Heap.get?_push_of_some _ e)
    have kp : Keeps s { s with heap := h', toks := s.toks + b.plain.length } := ⟨h', _, rfl, old⟩
    have X : Ex g s (Plus D s.heap.objs.size) (newEnv scope s.heap.objs.size mainGlobals cl (qual ++ ".<locals>.") (some f) (.ref c) none builtinsNs) { s with heap := h', toks := s.toks + b.plain.length } (b ++ fb).rho := by
      refine ⟨hg, kp, fun a d => ?_, ⟨hk, ⟨_, hns⟩, fresh, .inr rfl, fun x c e => ?_, hgood.apart, fun x q => ?_, ⟨rfl, rfl⟩, fun z e hz => ?_⟩⟩
      · rcases d with d | rfl
        · obtain ⟨o, e⟩ := l a d
          exact ⟨o, old a o e⟩
        · obtain ⟨o, _, _, e, _⟩ := hns
          exact ⟨o, e⟩
      · obtain ⟨v, hv⟩ := hgood.cell x c e
        exact ⟨v, hv.keeps old⟩
      · rcases q with q | q
        · exact absurd rfl (hcell _ (mem_of_lookup q))
        · exact hall x q
      · obtain ⟨v, hv⟩ := rho_some hz
        rcases List.mem_append.mp hv with m | m
        · exact ⟨v, .inl ⟨hloc _ m, _, hns, lookup_bind hn m⟩, e.T.mono (keeps_le kp _) (e.T.wide (plus_wide fresh) (ht _ m))⟩
        · obtain ⟨t1, c', t2, t3⟩ := hft _ m
          exact ⟨v, .inr ⟨.inr (hfree _ m), c', t2, t3.keeps old⟩, e.T.mono (keeps_le kp _) (e.T.wide (plus_wide fresh) t1)⟩
    refine ⟨(W.lim.keeps hg).keeps old, codeAny_func ?_⟩
    exact wpAny_mono (h (newEnv scope s.heap.objs.size mainGlobals cl (qual ++ ".<locals>.") (some f) (.ref c) none builtinsNs) rfl (R.deeper _) _ X) (fun fl s'' q => q) fun _ _ e => e.elim

/-- a call whose callee leaves what it will -/
theorem wp_call {x : Str} {f : Value} {es : List Expr} {ts : List Ent} {Q : Value → Shared → Prop} {E : Value → Shared → Prop} (l : Live D s.heap) (hf : Has prog w A D s (eval (.Name x px) env) tVal f) (c : Callee s.heap f) (ha : HsL prog w A D s pos env es ts)
    (h : ∀ s₁ vs, Keeps s s₁ → Are D s₁.heap vs ts → wpAny (model prog w) A (call f vs) Q E s₁) (hp : ∀ e ∈ es, isStarred e = false) : wpAny (model prog w) A (eval (.Call (.Name x px) es [] pos) env) Q E s := by
  show wpAny _ A (eval (.Name x px) env >>= fun v => callWith pos v [] (backTo pos (starEach es env)) (backToKw pos (keywordEach [] env))) Q E s
  refine wpAny_bind (hf.use l fun v s₁ k hv => ?_)
  cases hv
  refine callWith_of (P := fun h => Callee h f) (by rw [starEach_backTo_plain hp]; rfl) (fun h x => x.keeper) (evalArgs_of hp ?_)
  exact (ha.up k).use (live_keeps l k) fun vs s₂ k₂ a => ⟨c.keeps (keeps_trans k k₂), h s₂ vs (keeps_trans k k₂) a⟩
theorem wp_call3 {x : Str} {f : Value} {a b c : Expr} {α β γ : Type} {T : Ty α} {y : α} {U : Ty β} {z : β} {V : Ty γ} {t : γ} {Q : Value → Shared → Prop} {E : Value → Shared → Prop} (l : Live D s.heap) (hf : Has prog w A D s (eval (.Name x px) env) tVal f) (hc : Callee s.heap f)
    (ha : Has prog w A D s (eval a env) T y) (hb : Has prog w A D s (eval b env) U z) (hcc : Has prog w A D s (eval c env) V t)
    (h : ∀ s₁ u v w', Keeps s s₁ → T.is D s₁.heap u y → U.is D s₁.heap v z → V.is D s₁.heap w' t → wpAny (model prog w) A (call f [u, v, w']) Q E s₁)
    (h1 : isStarred a = false := by rfl) (h2 : isStarred b = false := by rfl) (h3 : isStarred c = false := by rfl) : wpAny (model prog w) A (eval (.Call (.Name x px) [a, b, c] [] pos) env) Q E s :=
  wp_call l hf hc (hsl_cons ha (hsl_cons hb (hsl_cons hcc hsl_nil (st1 h3)) (st1 h2)) (st1 h1)) (fun s₁ vs k q => by
    obtain ⟨u, v, w', rfl, hu, hv, hw⟩ := q.three
    exact h s₁ u v w' k hu hv hw) (by simp [h1, h2, h3])
theorem wp_call2 {x : Str} {f : Value} {a b : Expr} {α β : Type} {T : Ty α} {y : α} {U : Ty β} {z : β} {Q : Value → Shared → Prop} {E : Value → Shared → Prop} (l : Live D s.heap) (hf : Has prog w A D s (eval (.Name x px) env) tVal f) (hc : Callee s.heap f)
    (ha : Has prog w A D s (eval a env) T y) (hb : Has prog w A D s (eval b env) U z)
    (h : ∀ s₁ u v, Keeps s s₁ → T.is D s₁.heap u y → U.is D s₁.heap v z → wpAny (model prog w) A (call f [u, v]) Q E s₁)
    (h1 : isStarred a = false := by rfl) (h2 : isStarred b = false := by rfl) : wpAny (model prog w) A (eval (.Call (.Name x px) [a, b] [] pos) env) Q E s :=
  wp_call l hf hc (hsl_cons ha (hsl_cons hb hsl_nil (st1 h2)) (st1 h1)) (fun s₁ vs k q => by
    obtain ⟨u, v, rfl, hu, hv⟩ := q.two
    exact h s₁ u v k hu hv) (nost2 h1 h2)

theorem has_bitlen {x : Str} {apos : Pos} {i : Int} (he : Has prog w A D s (eval (.Name x px) env) tInt i) (hl : (apos.endLine == pos.line) = true := by rfl) :
    Has prog w A D s (eval (.Call (.Attribute (.Name x px) "bit_length" apos) [] [] pos) env) tInt (Builtin.Int.intBits i) := fun s' k l => by
  refine wpAny_Call_method0_late rfl hl (wpAny_mono (he s' k l) (fun v s₁ h => ?_) fun _ _ e => e)
  obtain ⟨k1, t, rfl⟩ := h
  refine ⟨"int", "int.bit_length", PySem.F.plainAttrs_int, PySem.F.slot_int_bit_length, PySem.F.type_int_bit_length, typeIs_int _ _ _, (fun _ e => nomatch e), callWith_method0 (env := env) ?_⟩
  exact PyProof.Rows.call_int_bit_length ⟨keeps_trans k1 (keeps_toks _ _), _, rfl⟩

/-- a name's truth: an int -/
theorem tst_int {x : Str} {i : Int} (he : Has prog w A D s (eval (.Name x px) env) tInt i) : Tst prog w A D s (.Name x px) env (i != 0) := fun s' k l =>
  isTrue_plain (wpAny_mono (he s' k l) (fun v s₁ h => by
    obtain ⟨k1, t, rfl⟩ := h
    exact PyProof.Rows.truthy_int ⟨k1, rfl⟩) fun _ _ e => e)

/-- len of a list of the frame's own -/
theorem has_own_len {x' : Str} {px' : Pos} {α : Type} {T : Ty α} {xs : List α} {p : Addr} (C : Cx g mg mb) (K : Kinds sc env) (X : Ex g s₀ D env s ρ) (a : Acc T D p s.heap xs) (he : Has prog w A D s (eval (.Name x' px') env) tVal (.ref p)) (hsz : xs.length ≤ 1000)
    (hk : sc.names.lookup ("len" : Str) = some .globalImplicit := by decide +kernel) : Has prog w A D s (eval (.Call (.Name "len" px) [.Name x' px'] [] pos) env) tInt xs.length :=
  hs_call (has_gl C K X hk C.B.len (by decide +kernel)) (.inl fun _ h => nomatch h) (hsl_cons he hsl_nil rfl) (fun s₁ vs k q => by
    obtain ⟨v, rfl, hv⟩ := q.one
    cases hv
    obtain ⟨vs, m, hg, hp⟩ := acc_keeps a k
    refine Hs.of fun s' Q k' l h => call_len_list (isList_of (keeps_get k' hg)) (by rw [List.size_toArray, hp.length]; omega) (h _ _ (keeps_toks _ _) ⟨s'.toks + 1, by rw [List.size_toArray, hp.length]⟩)) (nost1 rfl)

theorem ex_expr {e : Expr} {l rest : List Stmt} {Q : Flow → Shared → Prop} {E : Value → Shared → Prop} (h : wpAny (model prog w) A (eval e env) (fun v s' => match v with | .ref _ => False | _ => wpAny (model prog w) A (execs rest env) Q E s') E s) (hl : l = .Expr e pos :: rest := by rfl)
    (hi : interactive env = false) (hs : swapsWith e none pos.line env = pure false := by rfl) :
    wpAny (model prog w) A (execs l env) Q E s := ex_cons (wpAny_Expr h hi hs) hl
end

theorem and_shift (x k : Nat) : x &&& ((x / 2 ^ k) * 2 ^ k) = (x / 2 ^ k) * 2 ^ k := by
  rw [← Nat.shiftRight_eq_div_pow, ← Nat.shiftLeft_eq]
  apply Nat.eq_of_testBit_eq
  intro i
  rw [Nat.testBit_and, Nat.testBit_shiftLeft, Nat.testBit_shiftRight]
  by_cases h : k ≤ i
  · simp [h, Nat.add_sub_cancel' h]
  · simp [h]
theorem xor_low {x : Int} (h : 0 ≤ x) (k : Nat) : Builtin.bitXor x (x.fdiv (2 ^ k) * 2 ^ k) = x % 2 ^ k := by
  obtain ⟨n, rfl⟩ := Int.eq_ofNat_of_zero_le h
  have p2 : (2 : Int) ^ k = ((2 ^ k : Nat) : Int) := by push_cast; rfl
  have e : ((n : Int).fdiv (2 ^ k)) * 2 ^ k = ((n / 2 ^ k * 2 ^ k : Nat) : Int) := by
    rw [p2, Int.fdiv_eq_ediv_of_nonneg _ (Int.natCast_nonneg _)]
    push_cast; rfl
  rw [e, PyProof.Rows.bitXor_and]
  have a : Builtin.bitAnd (n : Int) ((n / 2 ^ k * 2 ^ k : Nat) : Int) = ((n / 2 ^ k * 2 ^ k : Nat) : Int) := by
    rw [PyProof.Rows.bitAnd_pp (Int.natCast_nonneg _) (Int.natCast_nonneg _)]
    rw [Int.toNat_natCast, Int.toNat_natCast, and_shift]
  have d := Nat.div_add_mod n (2 ^ k)
  rw [Nat.mul_comm] at d
  rw [a, p2, ← Int.natCast_emod]
  omega

-- a state with one object hidden
def hid (s : Shared) (p : Addr) : Shared := { s with heap := hideAll s.heap [p] }
theorem hid_get {s : Shared} {p b : Addr} {o : Obj} (e : s.heap.get? b = some o) (n : b ≠ p) : (hid s p).heap.get? b = some o := hideAll_get _ e (by simpa using n)
theorem hid_none {s : Shared} {p : Addr} : (hid s p).heap.get? p = none := hideAll_none _ (by simp)
theorem of_hid {s : Shared} {p b : Addr} {o : Obj} (e : (hid s p).heap.get? b = some o) : s.heap.get? b = some o := of_hideAll _ e
theorem keeps_hid {s : Shared} {p : Addr} : Keeps (hid s p) s := ⟨s.heap, s.toks, rfl, fun _ _ e => of_hid e⟩
theorem sub_hid {s : Shared} {p : Addr} {g : Heap} (x : Sub g s.heap) (n : g.get? p = none) : Sub g (hid s p).heap := fun b o e => hid_get (x b o e) fun q => by rw [q, n] at e; cases e
theorem stepI_hid {s s' : Shared} {p : Addr} (k : Keeps (hid s p) s') : StepI [p] s s' := by
  obtain ⟨h, t, rfl, hk⟩ := k
  exact ⟨h, t, rfl, fun b o nb e => hk b o (hid_get e fun q => nb (q ▸ .head _))⟩
theorem stepI_trans {I : List Addr} {a b c : Shared} (x : StepI I a b) (y : StepI I b c) : StepI I a c := by
  obtain ⟨h, t, rfl, hk⟩ := x
  obtain ⟨h', t', rfl, hk'⟩ := y
  exact ⟨h', t', rfl, fun b o nb e => hk' b o nb (hk b o nb e)⟩
theorem stepI_keeps {I : List Addr} {a b : Shared} (k : Keeps a b) : StepI I a b := by
  obtain ⟨h, t, rfl, hk⟩ := k
  exact ⟨h, t, rfl, fun b o _ e => hk b o e⟩

section
variable {prog : Program} {w : World} {A : Around} {D : Addr → Prop} {s s₁ s₀ : Shared} {g : Heap} {env : Env} {ρ : Rho}

/-- another frame has turned a list of this one's own -/
theorem Ex.stepOwn {p : Addr} {o o' : Obj} (X : Ex g s₀ D env s ρ) (st : StepI [p] s s₁) (dp : D p) (np : s₀.heap.get? p = none) (ho : s.heap.get? p = some o) (fo : Firm o) (ho' : s₁.heap.get? p = some o') (hL : p ≠ env.locals) : Ex g s₀ D env s₁ ρ := by
  have keep : ∀ {b : Addr} {ob : Obj}, b ≠ p → s.heap.get? b = some ob → s₁.heap.get? b = some ob := fun n e => stepI_get st (by simpa using n) e
  have hle : Le D s.heap s₁.heap := fun b ob nd _ e => keep (fun q => nd (q ▸ dp)) e
  have hcell : ∀ {c : Addr} {v : Option Value}, s.heap.IsCell c v → s₁.heap.IsCell c v := fun {c v} hc => by
    obtain ⟨o2, e2, d2⟩ := hc
    refine ⟨o2, keep (fun q => ?_) e2, d2⟩
    rw [q, ho] at e2; cases e2
    unfold Firm at fo; rw [d2] at fo; exact fo
  have hns : ∀ {m : Str → Option Value}, s.heap.Ns env.locals m → s₁.heap.Ns env.locals m := fun {m} h => by
    obtain ⟨o2, es, ep, e, d, r⟩ := h
    exact ⟨o2, es, ep, keep (Ne.symm hL) e, d, r⟩
  obtain ⟨hS, hK, hLv, F⟩ := X
  refine ⟨hS, ?_, fun b d => ?_, ⟨F.kind, let ⟨m, hn⟩ := F.ns; ⟨m, hns hn⟩, F.newL, F.volL, fun x c e => let ⟨v, hv⟩ := F.cells x c e; ⟨v, hcell hv⟩, F.apart, F.cellOk, F.glob, fun x e h => ?_⟩⟩
  · obtain ⟨h0, t0, rfl, hk0⟩ := hK
    obtain ⟨h1, t1, rfl, hk1⟩ := st
    exact ⟨h1, t1, rfl, fun b ob e => hk1 b ob (by simpa using fun q : b = p => by rw [q, np] at e; cases e) (hk0 b ob e)⟩
  · by_cases hb : b = p
    · exact ⟨o', hb ▸ ho'⟩
    · obtain ⟨ob, e⟩ := hLv b d
      exact ⟨ob, keep hb e⟩
  · obtain ⟨v, hn, ht⟩ := F.names x e h
    refine ⟨v, ?_, e.T.mono hle ht⟩
    rcases hn with ⟨q, m, hn, hm⟩ | ⟨q, c, hc, hv⟩
    · exact .inl ⟨q, m, hns hn, hm⟩
    · exact .inr ⟨q, c, hc, hcell hv⟩
theorem acc_int {D D' : Addr → Prop} {p : Addr} {h : Heap} {ds : List Int} (a : Acc tInt D p h ds) : Acc tInt D' p h ds := a
end
end Mine

end
section
set_option maxRecDepth 100000
open PySem PySem.W PyProof.Rows PySem.Calls
namespace Mine
section
variable {prog : Program} {w : World} {A : Around} {D : Addr → Prop} {s s₁ s₀ : Shared} {g : Heap} {env : Env} {ρ : Rho} {mg mb : Str → Option Value} {sc : Scope} {px pos : Pos}

theorem swaps_no {elt : Expr} {gens : List Comprehension} {scope : Scope} {pos py : Pos} {y : Str} {line : Nat} (K : Kinds sc env) (hk : sc.names.lookup y = some .cell) : swapsWith (.ListComp elt gens scope pos) (some (.Name y py)) line env = pure false := by
  unfold swapsWith
  dsimp only
  rw [K.kd hk (by decide)]
  have e : (NameKind.cell == NameKind.local) = false := rfl
  simp [e]

/-- two clauses, assigned to a local -/
theorem ex_comp2 {scope : Scope} (K : Kinds sc env) (hbk : env.blockKind = .function) {yy : Str} {py spos : Pos} {elt it0 it1 : Expr} {n m : Str} {pn pm : Pos} {ifs : List Expr} {α α' β : Type} {T : Ty α} {T' : Ty α'} {U : Ty β} {xs : List α} (ys : α → List α') (p : α → α' → Bool) (f : α → α' → β) {Q : Flow → Shared → Prop} {E : Value → Shared → Prop}
    (X : Ex g s₀ D env s ρ) (hi : Iters prog w A D s it0 env T (.Name n pn) xs)
    (hsz : (xs.flatMap fun x => ((ys x).filter (p x)).map (f x)).length ≤ 9000) (hsz' : ∀ x ∈ xs, (ys x).length ≤ 1000)
    (hi1 : ∀ x ∈ xs, ∀ env' s' D' s₁, Keeps s s' → Kinds scope env' → Ex g s' D' env' s₁ (upd (pick (freeOf scope) ρ) n ⟨T, x⟩) → Iters prog w A D' s₁ it1 env' T' (.Name m pm) (ys x))
    (ht : ∀ x ∈ xs, ∀ y ∈ ys x, ∀ env' s' D' s₁, Keeps s s' → Kinds scope env' → Ex g s' D' env' s₁ (upd (upd (pick (freeOf scope) ρ) n ⟨T, x⟩) m ⟨T', y⟩) → Tests prog w A D' s₁ ifs env' (p x y))
    (he : ∀ x ∈ xs, ∀ y ∈ ys x, p x y = true → ∀ env' s' D' s₁, Keeps s s' → Kinds scope env' → Ex g s' D' env' s₁ (upd (upd (pick (freeOf scope) ρ) n ⟨T, x⟩) m ⟨T', y⟩) → Has prog w A D' s₁ (eval elt env') U (f x y))
    (h : ∀ s', Ex g s₀ D env s' (upd ρ yy ⟨tList U, xs.flatMap fun x => ((ys x).filter (p x)).map (f x)⟩) → Others D env s s' → Q .next s')
    (hfree : ∀ x ∈ freeOf scope, sc.names.lookup x = some .cell ∨ sc.names.lookup x = some .free := by decide +kernel) (hk : scope.kind = .function := by rfl)
    (hln : ∀ x ∈ scope.names, x.2 = .local → scope.names.lookup x.1 = some .local := by decide +kernel)
    (hp : ∀ z ∈ freeOf scope, scope.names.lookup z = some .free ∧ (z, NameKind.cell) ∉ scope.names ∧ (z == ("__classdict__" : Str)) = false := by decide +kernel)
    (hn : scope.names.lookup n = some .local ∨ scope.names.lookup n = some .cell := by decide +kernel) (hfl : (freeOf scope).contains n = false := by decide +kernel)
    (hm : scope.names.lookup m = some .local ∨ scope.names.lookup m = some .cell := by decide +kernel) (hfm : (freeOf scope).contains m = false := by decide +kernel) (hnm : n ≠ m := by decide +kernel)
    (hy : sc.names.lookup yy = some .local := by decide +kernel) (hline : (py.line == pos.line) = true := by rfl) (hno : (scope.names.any fun (n, k) => n == yy && (k == .local || k == .cell)) = false := by decide +kernel)
    (hs : ∀ x, foldedSetIterable it0 env x = pure x := by intro _; rfl) (hs1 : ∀ env' x, foldedSetIterable it1 env' x = pure x := by intro _ _; rfl) :
    wpAny (model prog w) A (exec (.Assign [.Name yy py] (.ListComp elt [⟨.Name n pn, it0, [], 0⟩, ⟨.Name m pm, it1, ifs, 0⟩] scope pos) spos) env) Q E s :=
  ex_assign_comp X (own_local K hy) hi (compScope_mk K hfree hk hln hp) (fun x => upd_keep hfl) hsz (fun s' cl C X' D' k ci => ⟨inner _ it1 (.ref X') (compEnvC scope cl C env), fun it => turns_outer, asg_name (own_comp ci hn), fun x hx s₁ acc hE ac hl => by
    have key : ∀ l : List α', (l.flatMap fun y => if p x y then [f x y] else []) = (l.filter (p x)).map (f x) := flatMap_filter (p x) (f x)
    rw [← key]
    refine inner_ok hE ac ci.ne ci.dX ci.nX (hi1 x hx _ s' D' s₁ k kinds_comp hE) (asg_name (own_comp ci hm)) (fun y z e q => ?_) (by have := hsz' x hx; omega) (fun y hy s₂ E => ht x hx y hy _ s' D' s₂ k kinds_comp E) (fun y hy hp s₂ E => he x hx y hy hp _ s' D' s₂ k kinds_comp E) (hs1 _)
    show (if z = m then _ else upd (pick (freeOf scope) ρ) n ⟨T, x⟩ z) = some e
    split
    · rename_i hz
      subst hz
      unfold upd at q
      rw [if_neg (Ne.symm hnm)] at q
      unfold pick at q
      rw [hfm] at q
      cases q
    · exact q⟩) h (swaps_yes K hbk hy hline hno) hs

-- tests of many
theorem tst_orC {x y : Expr} {rest : List Expr} {a b : Bool} (hx : Tst prog w A D s x env a) (hr : a = false → Tst prog w A D s (.BoolOp .Or (y :: rest) pos) env b) : Tst prog w A D s (.BoolOp .Or (x :: y :: rest) pos) env (a || b) := fun s' k l => by
  show wpAny _ A (do
    match BoolOp.Or, ← isTrue x env (eval x env) with
    | .And, false => pure false
    | .Or, true => pure true
    | _, _ => allTrue .Or (y :: rest) env) _ _ s'
  refine wpAny_bind (wpAny_mono (hx s' k l) (fun r s₁ z => ?_) fun _ _ e => e)
  obtain ⟨z1, rfl⟩ := z
  cases r with
  | true => exact wpAny_pure ⟨z1, rfl⟩
  | false => exact wpAny_mono (hr rfl s₁ (keeps_trans k z1) (live_keeps l z1)) (fun _ _ q => ⟨keeps_trans z1 q.1, q.2⟩) fun _ _ e => e
theorem tst_or1 {x : Expr} {a : Bool} (hx : Tst prog w A D s x env a) : Tst prog w A D s (.BoolOp .Or [x] pos) env a := fun s' k l => by
  show wpAny _ A (do
    match BoolOp.Or, ← isTrue x env (eval x env) with
    | .And, false => pure false
    | .Or, true => pure true
    | _, _ => allTrue .Or [] env) _ _ s'
  refine wpAny_bind (wpAny_mono (hx s' k l) (fun r s₁ z => ?_) fun _ _ e => e)
  obtain ⟨z1, rfl⟩ := z
  cases r with
  | true => exact wpAny_pure ⟨z1, rfl⟩
  | false => exact wpAny_pure ⟨z1, rfl⟩
theorem tst_bool {x : Str} {b : Bool} (he : Has prog w A D s (eval (.Name x px) env) tBool b) : Tst prog w A D s (.Name x px) env b := fun s' k l =>
  isTrue_plain (wpAny_mono (he s' k l) (fun v s₁ h => by
    obtain ⟨k1, rfl⟩ := h
    exact wpAny_truthy_bool ⟨k1, rfl⟩) fun _ _ e => e)
theorem has_gt {l r : Expr} {x y : Int} (ha : Has prog w A D s (eval l env) tInt x) (hb : Has prog w A D s (eval r env) tInt y) (hm : behindInMarks .Gt r = false := by with_unfolding_all rfl) : Has prog w A D s (eval (.Compare l [.Gt] [r] pos) env) tBool (decide (x > y)) := hs_cmp ha hb (fun _ _ _ _ hu hv => cmp_gt hu hv) hm
theorem has_lt {l r : Expr} {x y : Int} (ha : Has prog w A D s (eval l env) tInt x) (hb : Has prog w A D s (eval r env) tInt y) (hm : behindInMarks .Lt r = false := by with_unfolding_all rfl) : Has prog w A D s (eval (.Compare l [.Lt] [r] pos) env) tBool (decide (x < y)) := hs_cmp ha hb (fun _ _ _ _ hu hv => cmp_lt hu hv) hm
theorem tst_neb {l r : Expr} {x y : Bool} (ha : Has prog w A D s (eval l env) tBool x) (hb : Has prog w A D s (eval r env) tBool y) (hm : behindInMarks .NotEq r = false := by with_unfolding_all rfl) : Tst prog w A D s (.Compare l [.NotEq] [r] pos) env (x != y) := tst_cmp ha hb (fun _ _ _ _ hu hv => cmp_neb hu hv) hm

/-- two lists put together -/
theorem bin_addlist {α : Type} {T : Ty α} {xs ys : List α} {u v : Value} (hu : (tList T).is D s.heap u xs) (hv : (tList T).is D s.heap v ys) (hsz : xs.length + ys.length ≤ 1000) : Has prog w A D s (binaryOp .Add u v) (tList T) (xs ++ ys) := by
  obtain ⟨p, n, vs, rfl, hd, hg, hp⟩ := hu
  obtain ⟨q, m, us, rfl, hd', hg', hp'⟩ := hv
  refine Hs.of fun s' Q k l h => ?_
  have hz : (List.toArray vs).size + (List.toArray us).size ≤ sizeLine := by
    rw [List.size_toArray, List.size_toArray, hp.length, hp'.length, sizeLine_eq]; omega
  refine P.add_list (keeps_get k hg) (keeps_get k hg') (h _ _ (keeps_push _ _) ⟨_, 0, vs ++ us, rfl, live_fresh l, by rw [Heap.get?_push_size _ rfl]; simp, ?_⟩) hz
  have kk := keeps_trans k (keeps_push s' { cls := .type "list", data := .seq (vs.toArray ++ us.toArray) })
  exact paired_append (paired_mono (fun _ _ => T.mono (keeps_le kk D)) hp) (paired_mono (fun _ _ => T.mono (keeps_le kk D)) hp')

/-- u[:e], u at hand -/
theorem wp_upto {value e : Expr} {p : Pos} {α : Type} {T : Ty α} {xs : List α} {n : Int} {u : Value} {Q : Value → Shared → Prop} {E : Value → Shared → Prop} (L : Live D s.heap) (hu : (tList T).is D s.heap u xs) (hb : Has prog w A D s (eval e env) tInt n) (h0 : 0 ≤ n) (hx : xs.length ≤ 1000)
    (q : ∀ v s', Keeps s s' → (tList T).is D s'.heap v (xs.take n.toNat) → Q v s') :
    wpAny (model prog w) A (eval (.Slice none (some e) none p) env) (fun i s₂ => wpAny (model prog w) A (subscriptTail value (.Slice none (some e) none p) u i) Q E s₂) E s := by
  refine wpAny_Slice (wpAny_evalPart_none (wpAny_evalPart_some (hb.use L fun v s₂ kb hv => ?_)))
  refine wpAny_evalPart_none ?_
  obtain ⟨qq, m, vs, rfl, hd, hg, hp⟩ := hu
  obtain ⟨t, rfl⟩ := hv
  have kk := keeps_trans kb (keeps_push s₂ { cls := .type "slice", data := .fields #[.none, .int n t, .none] })
  have hg' := keeps_get kk hg
  refine tail_any (isList_of hg').typeIs slot_list_getitem.lookup (wpAny_getItem_list_slice (isList_of hg') (Heap.IsSliceOf.new _ _ _ _) .none (.int n t) .none (by decide) ?_ (by rw [List.size_toArray, hp.length, sizeLine_eq]; omega)) rfl
  have e : slicePick vs.toArray none (some n) none = (vs.take n.toNat).toArray := by
    have := slicePick_upto' vs.toArray n.toNat
    rw [show ((n.toNat : Nat) : Int) = n by omega] at this
    simpa using this
  have k3 := keeps_trans kk (keeps_push { s₂ with heap := s₂.heap.push { cls := .type "slice", data := .fields #[.none, .int n t, .none] } } (lstObj (vs.take n.toNat).toArray 0))
  rw [e]
  exact q _ _ k3 ⟨_, 0, _, rfl, live_fresh (live_keeps L kk), Heap.get?_push_size _ rfl, paired_mono (fun _ _ => T.mono (keeps_le k3 D)) (paired_take hp _)⟩

/-- a table grown by a callee -/
theorem Ex.tab {P : Addr} {ps : Array Value} (X : Ex g s₀ D env s ρ) (st : StepI [P] s s₁) (hP : s.heap.get? P = some (tabObj ps)) (h0 : s₀.heap.get? P = none) (nP : ¬ D P) : Ex g s₀ D env s₁ ρ ∧ Oth env s s₁ := by
  refine X.stepI ⟨fun a m => ?_, fun a m => ?_, fun a m => ?_⟩ st <;> (rw [List.mem_singleton] at m; subst m)
  · exact h0
  · exact nP
  · exact ⟨_, _, hP, rfl⟩
end
end Mine

end
section
set_option maxRecDepth 100000
open PySem PySem.W PyProof.Rows PySem.Calls PySem.Challenge
namespace Mine
local macro_rules | `(tactic| walk_at "nm") => `(tactic| repeat (first | with_reducible exact upd_here | with_reducible assumption | (with_reducible refine upd_there ?_ (by decide +kernel)) | (with_reducible refine pick_in ?_ (by decide +kernel))))
local macro_rules | `(tactic| walk_at "v") => `(tactic| (refine' has_name ?X ?h ?d; (case X => assumption); (case h => walk_at "nm"); (case d => decide +kernel)))
local macro_rules | `(tactic| walk_at "un") => `(tactic| first | omega | (have := Rm.units (by assumption); omega))

abbrev P2 := pw_gm0002_02

def ordersL : Nat → List Int → List (List Int)
  | 0, _ => [[]]
  | n + 1, places => if places.isEmpty then [[]] else places.flatMap fun one => (ordersL n (places.filter fun y => y != one)).map fun rest => [one] ++ rest

def fact : Nat → Nat
  | 0 => 1
  | n + 1 => (n + 1) * fact n
theorem fact_pos : ∀ n, 1 ≤ fact n
  | 0 => Nat.le_refl 1
  | n + 1 => Nat.le_trans (fact_pos n) (Nat.le_mul_of_pos_left _ (Nat.succ_pos n))

theorem flat_len {α β : Type} (f : α → List β) (b : Nat) : ∀ xs : List α, (∀ x ∈ xs, (f x).length ≤ b) → (xs.flatMap f).length ≤ xs.length * b
  | [], _ => by simp
  | x :: xs, h => by
    rw [List.flatMap_cons, List.length_append, List.length_cons, Nat.add_mul, Nat.one_mul]
    have := flat_len f b xs fun y m => h y (.tail _ m)
    have := h x (.head _)
    omega
theorem filter_lt {x : Int} : ∀ {xs : List Int}, x ∈ xs → (xs.filter fun y => y != x).length < xs.length
  | y :: ys, h => by
    rw [List.filter_cons]
    by_cases e : y = x
    · rw [if_neg (by simpa using e), List.length_cons]
      exact Nat.lt_succ_of_le (List.length_filter_le _ _)
    · rw [if_pos (by simpa using e), List.length_cons, List.length_cons]
      have : x ∈ ys := by cases h with | head => exact absurd rfl e | tail _ h => exact h
      exact Nat.succ_lt_succ (filter_lt this)
theorem orders_len : ∀ n places, places.length ≤ n → (ordersL n places).length ≤ fact n
  | 0, _, _ => Nat.le_refl 1
  | n + 1, places, h => by
    unfold ordersL
    split
    · exact fact_pos (n + 1)
    · refine Nat.le_trans (flat_len _ (fact n) places fun one m => ?_) (Nat.mul_le_mul_right _ h)
      rw [List.length_map]
      exact orders_len n _ (by have := filter_lt m; omega)
theorem fact_mono {n m : Nat} (h : n ≤ m) : fact n ≤ fact m := by
  induction h with
  | refl => exact Nat.le_refl _
  | step _ ih => exact Nat.le_trans ih (Nat.le_mul_of_pos_left _ (Nat.succ_pos _))
theorem orders_in : ∀ n places, places.length ≤ n → ∀ o ∈ ordersL n places, o.length ≤ n
  | 0, _, _, o, m => by cases m with | head => exact Nat.le_refl 0 | tail _ m => cases m
  | n + 1, places, h, o, m => by
    unfold ordersL at m
    split at m
    · cases m with | head => exact Nat.zero_le _ | tail _ m => cases m
    · obtain ⟨one, m1, m2⟩ := List.mem_flatMap.mp m
      obtain ⟨r, m3, rfl⟩ := List.mem_map.mp m2
      have := orders_in n _ (by have := filter_lt m1; omega) r m3
      simp; omega

section
variable {prog : Program} {w : World} {A : Around} {D : Addr → Prop} {s s₁ s₀ : Shared} {g : Heap} {env : Env} {ρ : Rho} {mg mb : Str → Option Value}

theorem walk_orders (C : Cx g mg mb) {f7 : Value} (F7 : DefAt P2 g mg 7 f7) : ∀ n, n ≤ 6 → ∀ {A : Around} {D : Addr → Prop} {s : Shared} {v : Value} {places : List Int}, places.length ≤ n → Rm A (n + 1) → Sub g s.heap → (tList tInt).is D s.heap v places →
    Has prog w A D s (call f7 [v]) (tList (tList tInt)) (ordersL n places) := by
  intro n
  induction n with
  | zero =>
    intro hn A D s v places hl R hg hv
    refine hs_fn1 (k := 0) (x := "places") C.W hg F7 R hv (by decide +kernel) (by decide +kernel) (fun _ _ _ => by rfl) fun s₁ env ks K hsc R' s₂ D' hD X own => ?_
    have he : places = [] := List.eq_nil_of_length_eq_zero (by omega)
    refine ex_cons ?_
    refine ex_if2 X (b := true) (Tst.val (b := places.isEmpty) (tst_cmp (T := tList tInt) (by walk_at "v") (has_list0 tInt) fun s₃ u v k hu hv => cmp_eq_nil (by walk_at "un") hu hv) (by rw [he]; rfl)) (fun _ s₃ X₃ k₃ => ?_) fun q => by cases q
    exact ex_ret (T := tList (tList tInt)) (y := [[]]) X₃ hD (fun _ _ a b => ⟨a, b⟩) (has_list1 (has_list0 tInt))
  | succ n ih =>
    intro hn A D s v places hl R hg hv
    refine hs_fn1 (k := n + 1) (x := "places") C.W hg F7 R hv (by decide +kernel) (by decide +kernel) (fun _ _ _ => by rfl) fun s₁ env ks K hsc R' s₂ D' hD X own => ?_
    have key : ∀ b, places.isEmpty = b → ordersL (n + 1) places = if b then [[]] else places.flatMap fun one => ((ordersL n (places.filter fun y => y != one)).filter fun _ => true).map fun rest => [one] ++ rest := fun b e => by
      subst e
      simp only [filter_tt]
      rfl
    refine ex_cons ?_
    refine ex_if2 X (b := places.isEmpty) (tst_cmp (by walk_at "v") (has_list0 tInt) fun s₃ u v k hu hv => cmp_eq_nil (by walk_at "un") hu hv) (fun hp s₃ X₃ k₃ => ?_) fun hp s₃ X₃ k₃ => ?_
    · rw [key _ hp]
      exact ex_ret (T := tList (tList tInt)) (y := [[]]) X₃ hD (fun _ _ a b => ⟨a, b⟩) (has_list1 (has_list0 tInt))
    · rw [key _ hp]
      refine ex_nil ?_
      refine ex_ret X₃ hD (fun _ _ a b => ⟨a, b⟩) ?_
      have sub : ∀ one ∈ places, (places.filter fun y => y != one).length ≤ n := fun one m => by have := filter_lt m; omega
      have f6 : fact n ≤ 720 := Nat.le_trans (fact_mono (show n ≤ 6 by omega)) (by decide)
      refine e_comp2 K (T := tInt) (T' := tList tInt) (U := tList tInt) (fun one => ordersL n (places.filter fun y => y != one)) (fun _ _ => true) (fun one rest => [one] ++ rest) X₃ (iters_list R'.handled (by walk_at "v")) ?_ ?_ ?_ ?_ ?_
      · refine Nat.le_trans (flat_len _ 720 places fun one m => ?_) (Nat.le_trans (Nat.mul_le_mul_right _ (show places.length ≤ 6 by omega)) (by decide))
        rw [filter_tt, List.length_map]
        exact Nat.le_trans (orders_len n _ (sub one m)) f6
      · exact fun one m => Nat.le_trans (orders_len n _ (sub one m)) (by omega)
      · intro one h1 env' s' D'' s₄ k4 K4 X4
        refine iters_list R'.handled (e_call1 (tList tInt) (places.filter fun y => y != one) C K4 X4 F7.gl F7.callee ?_ fun s₅ v k5 hv => ih (by omega) (sub one h1) R' (sub_keeps X4.subs k5) hv)
        refine Has.val (e_compN K4 (T := tInt) (U := tInt) (xs := places) (fun y => y != one) (fun y => y) X4 (iters_list R'.handled (by walk_at "v")) (by omega) (fun y m env' s' D' s₁ k K X => tests_one (tst_ne (by walk_at "v") (by walk_at "v"))) fun y m hp env' s' D' s₁ k K X => by walk_at "v") (List.map_id' _)
      · exact fun one h1 rest h2 env' s' D' s₁ k K X => tests_none
      · intro one h1 rest h2 _ env' s' D' s₁ k K X
        refine has_addlist (has_list1 (by walk_at "v") (by rfl)) (by walk_at "v") ?_
        have := orders_in n _ (sub one h1) rest h2
        simp; omega
end
end Mine

end
section
set_option maxRecDepth 100000
open PySem PySem.W PyProof.Rows PySem.Calls PySem.Challenge
namespace Mine
local macro_rules | `(tactic| walk_at "nm") => `(tactic| repeat (first | with_reducible exact upd_here | with_reducible assumption | (with_reducible refine upd_there ?_ (by decide +kernel)) | (with_reducible refine pick_in ?_ (by decide +kernel))))
local macro_rules | `(tactic| walk_at "v") => `(tactic| (refine' has_name ?X ?h ?d; (case X => assumption); (case h => walk_at "nm"); (case d => decide +kernel)))
local macro_rules | `(tactic| walk_at "un") => `(tactic| first | omega | (have := Rm.units (by assumption); omega))

theorem filter_one {x : Int} : ∀ {xs : List Int}, xs.Nodup → x ∈ xs → (xs.filter fun y => y != x).length + 1 = xs.length
  | y :: ys, hn, h => by
    rw [List.filter_cons]
    have hn' := List.nodup_cons.mp hn
    by_cases e : y = x
    · subst e
      rw [if_neg (by simp), List.length_cons]
      congr 1
      congr 1
      exact List.filter_eq_self.mpr fun a m => by simpa using fun q : a = y => hn'.1 (q ▸ m)
    · rw [if_pos (by simpa using e), List.length_cons, List.length_cons]
      have : x ∈ ys := by cases h with | head => exact absurd rfl e | tail _ h => exact h
      have := filter_one hn'.2 this
      omega
theorem orders_exact : ∀ n places, places.length ≤ n → places.Nodup → ∀ o ∈ ordersL n places, o.length = places.length
  | 0, places, h, _, o, m => by
    cases m with | head => simp at h; simp [h] | tail _ m => cases m
  | n + 1, places, h, hn, o, m => by
    unfold ordersL at m
    split at m
    · rename_i e
      cases m with | head => simp at e; simp [e] | tail _ m => cases m
    · obtain ⟨one, m1, m2⟩ := List.mem_flatMap.mp m
      obtain ⟨r, m3, rfl⟩ := List.mem_map.mp m2
      have h1 := filter_one hn m1
      have := orders_exact n _ (by omega) (List.Nodup.sublist List.filter_sublist hn) r m3
      simp; omega

/-- a ∈ ties -/
def tied (ties : List (Int × Int)) (e : Int × Int) : Bool := ties.any fun y => decide (y = e)
def lowHigh (a b : Int) : Int × Int := (if b < a then b else a, if b > a then b else a)
def wholeL (ties : List (Int × Int)) (many : Int) (order : List Int) : Bool :=
  (((rangeL 1 (many - 1).toNat).filter fun k => !tied ties (lowHigh (order.getD (k - 1).toNat 0) (order.getD k.toNat 0))).map fun _ => (1 : Int)).isEmpty
def stepW (ties : List (Int × Int)) (many : Int) (b : Int × Bool) (order : List Int) : Int × Bool :=
  (b.1 + (if (wholeL ties many order && ((order.getD 0 0 == 0) && tied ties (0, order.getLastD 0))) then 1 else 0), b.2 || wholeL ties many order)
def waysL (ties : List (Int × Int)) (many : Int) : Int × Bool := (ordersL many.toNat (rangeL 0 many.toNat)).foldl (stepW ties many) (0, false)

section
variable {prog : Program} {w : World} {A : Around} {D : Addr → Prop} {s s₁ s₀ : Shared} {g : Heap} {env : Env} {ρ : Rho} {mg mb : Str → Option Value}

abbrev rhoW (ties : List (Int × Int)) (many : Int) (b : Int × Bool) : Rho := upd (upd (upd (upd (fun _ => none) "through" ⟨tBool, b.2⟩) "rounds" ⟨tInt, b.1⟩) "many" ⟨tInt, many⟩) "ties" ⟨tList tEdge, ties⟩

theorem walk_ways (C : Cx g mg mb) {f7 f8 : Value} (F7 : DefAt P2 g mg 7 f7) (F8 : DefAt P2 g mg 8 f8) {A : Around} {D : Addr → Prop} {s : Shared} {u v : Value} {ties : List (Int × Int)} {many : Int} (h1 : 1 ≤ many) (h6 : many ≤ 6) (hl : ties.length ≤ 1000)
    (R : Rm A 20) (hg : Sub g s.heap) (hu : (tList tEdge).is D s.heap u ties) (hv : tInt.is D s.heap v many) : Has prog w A D s (call f8 [u, v]) (tPair tInt tBool) (waysL ties many) := by
  refine hs_fn2 (k := 19) (x := "ties") (x' := "many") C.W hg F8 R hu hv (by decide +kernel) (by decide +kernel) (by decide +kernel) (by decide +kernel) (fun _ _ _ => by rfl) fun s₁ env ks K hsc R' s₂ D' hD X own => ?_
  refine ex_cons ?_
  refine ex_assign_pat X (has_tuple2 (has_int _ _ _) (has_bool _ _ _)) (asg_pair R'.handled (own _ (by decide +kernel)) (own _ (by decide +kernel))) (fun s₃ X₃ o₃ => ?_) (hw := swapped_folded rfl)
  refine ex_cons ?_
  have hu := R'.units
  have X₃' : Ex g s₁ D' env s₃ (rhoW ties many (0, false)) := X₃.weak (((((RLe.none.upd (by walk_at "nm")).upd (by walk_at "nm")).upd (by walk_at "nm")).upd (by walk_at "nm")))
  refine ex_for_st (T := tList tInt) (rhoW ties many) (fun _ _ => True) (stepW ties many) (0, false) X₃' trivial (fun _ _ _ _ _ _ => trivial) (xs := ordersL many.toNat (rangeL 0 many.toNat)) (iters_list R'.handled ?_).f (asg_name (own _ (by decide +kernel))) ?_ ?_
  · refine e_call1 (tList tInt) (rangeL 0 many.toNat) C K X₃' F7.gl F7.callee (has_listrange C K X₃' R'.handled ?_ (by omega) (by omega)) fun s₄ v k4 hv => walk_orders C F7 many.toNat (by omega) (by rw [rangeL_len]; omega) (R'.less (by omega)) (sub_keeps X₃'.subs k4) hv
    walk_at "v"
  · intro done order rem s₄ hx X₄ _ c₄
    generalize hb : List.foldl (stepW ties many) (0, false) done = b at X₄
    have ho : order.length = many.toNat := by
      have := orders_exact many.toNat (rangeL 0 many.toNat) (by rw [rangeL_len]; omega) (rangeL_nodup _ _) order (by rw [hx]; simp)
      rwa [rangeL_len] at this
    refine ex_cons ?_
    refine ex_assign (T := tBool) (y := wholeL ties many order) X₄ ?_ (own _ (by decide +kernel)) fun s₅ X₅ o₅ => ?_
    · refine has_isnil (by omega) (T := tInt) (U := tInt) ?_ (has_list0 tInt)
      refine e_compN K (T := tInt) (U := tInt) (xs := rangeL 1 (many - 1).toNat) (fun k => !tied ties (lowHigh (order.getD (k - 1).toNat 0) (order.getD k.toNat 0))) (fun _ => 1) X₄ (i_range2 C K X₄ R'.handled (has_int _ _ _) (by walk_at "v") (by omega) (by omega) (by omega)) (by rw [rangeL_len]; omega) (fun k hk env' s' D'' s₆ k6 K6 X6 => tests_one ?_) fun k hk hp env' s' D'' s₆ k6 K6 X6 => has_int _ _ _
      have hk' := mem_rangeL hk
      refine tst_notin (by omega) (has_tuple2 (e_min2 C K6 X6 R'.handled ?_ ?_) (e_max2 C K6 X6 R'.handled ?_ ?_)) (by walk_at "v")
      · exact has_item (T := tInt) (xs := order) (i := k - 1) (by walk_at "v") (has_sub (by walk_at "v") (has_int _ _ _)) (by omega) (by omega) (getD_of 0 (by omega))
      · exact has_item (T := tInt) (xs := order) (i := k) (by walk_at "v") (by walk_at "v") (by omega) (by omega) (getD_of 0 (by omega))
      · exact has_item (T := tInt) (xs := order) (i := k - 1) (by walk_at "v") (has_sub (by walk_at "v") (has_int _ _ _)) (by omega) (by omega) (getD_of 0 (by omega))
      · exact has_item (T := tInt) (xs := order) (i := k) (by walk_at "v") (by walk_at "v") (by omega) (by omega) (getD_of 0 (by omega))
    · refine ex_cons ?_
      refine ex_assign (T := tBool) (y := (stepW ties many b order).2) X₅ (has_or (by walk_at "v") (by walk_at "v")) (own _ (by decide +kernel)) fun s₆ X₆ o₆ => ?_
      refine ex_cons ?_
      refine ex_assign (T := tInt) (y := (stepW ties many b order).1) X₆ ?_ (own _ (by decide +kernel)) fun s₇ X₇ o₇ => ?_
      · refine has_add (by walk_at "v") (e_int C K X₆ ?_)
        refine has_and (by walk_at "v") fun _ => has_and ?_ fun _ => has_and1 ?_
        · exact has_eq (has_item (T := tInt) (xs := order) (i := 0) (by walk_at "v") (has_int _ _ _) (by omega) (by omega) (getD_of 0 (by omega))) (has_int _ _ _)
        · exact has_in (by omega) (has_tuple2 (has_int _ _ _) (has_last (T := tInt) (xs := order) (by walk_at "v") (has_neg (has_int _ _ _)) (last_of 0 (by omega)))) (by walk_at "v")
      · refine ex_nil ⟨⟨_, X₇, ?_⟩, trivial, (o₅.calm.trans o₆.calm).trans o₇.calm⟩
        show RLe (rhoW ties many (stepW ties many b order)) _
        exact ((((RLe.none.upd (by walk_at "nm")).upd (by walk_at "nm")).upd (by walk_at "nm")).upd (by walk_at "nm"))
  · intro s₄ X₄ _ c₄
    refine ex_ret X₄ hD (fun _ _ a b => ⟨a, b⟩) (T := tPair tInt tBool) (y := waysL ties many) ?_
    exact has_tuple2 (by walk_at "v") (by walk_at "v")
end
end Mine

end
section
set_option maxRecDepth 100000
open PySem PySem.W PyProof.Rows PySem.Calls PySem.Challenge
namespace Mine
local macro_rules | `(tactic| walk_at "nm") => `(tactic| repeat (first | with_reducible exact upd_here | with_reducible assumption | (with_reducible refine upd_there ?_ (by decide +kernel)) | (with_reducible refine pick_in ?_ (by decide +kernel))))
local macro_rules | `(tactic| walk_at "v") => `(tactic| (refine' has_name ?X ?h ?d; (case X => assumption); (case h => walk_at "nm"); (case d => decide +kernel)))
local macro_rules | `(tactic| walk_at "un") => `(tactic| first | omega | (have := Rm.units (by assumption); omega))
section
variable {prog : Program} {w : World} {A : Around} {D : Addr → Prop} {s s₁ s₀ : Shared} {g : Heap} {env : Env} {ρ : Rho} {mg mb : Str → Option Value}

theorem foldl_snoc : ∀ (l : List (Int × Int)) (b : List Int), l.foldl (fun b (x : Int × Int) => b ++ [x.1]) b = b ++ l.map (·.1)
  | [], b => by simp
  | x :: l, b => by rw [List.foldl_cons, foldl_snoc l]; simp
theorem map_fst_one (ks : List Int) : (ks.map fun k => ((k, 1) : Int × Int)).map (·.1) = ks := by rw [List.map_map]; exact List.map_id' _

abbrev rhoA (prog : Program) (w : World) (a b : Str) (ks ls : List Int) (d : Addr) : Rho := upd (upd (upd (fun _ => none) "source" ⟨tRow prog w a b, ls⟩) "target" ⟨tRow prog w a b, ks⟩) "new_callers" ⟨tVal, .ref d⟩

theorem walk_add {a b : Str} (C : Cx g mg mb) {f1 : Value} (F1 : DefAt P2 g mg 1 f1) {A : Around} {D : Addr → Prop} {s : Shared} {u v : Value} {ks ls : List Int} (hn : (ks ++ ls).Nodup) (hl : ks.length + ls.length ≤ 500)
    (R : Rm A 2) (hg : Sub g s.heap) (hu : (tRow prog w a b).is D s.heap u ks) (hv : (tRow prog w a b).is D s.heap v ls) : Has prog w A D s (call f1 [u, v]) (tRow prog w a b) (ks ++ ls) := by
  refine hs_fn2 (k := 1) (x := "target") (x' := "source") C.W hg F1 R hu hv (by decide +kernel) (by decide +kernel) (by decide +kernel) (by decide +kernel) (fun _ _ _ => by rfl) fun s₁ env ks1 K hsc R' s₂ D' hD X own => ?_
  have hun := R'.units
  refine ex_cons ?_
  refine ex_assign_own X (has_row0T a b C X) (own _ (by decide +kernel)) fun s₃ d s₄ k3 hd hdL hP X₄ ot₄ le₄ oth₄ => ?_
  obtain ⟨big, hnew⟩ := hP
  have nd1 : s₁.heap.get? d = none := keeps_none X.kp hd
  have row0 : RowAt prog w a b (Plus D' d) s₄.heap d [] := row_empty (ot₄ d _ hnew hdL trivial)
  have hj : ∀ (b' : List Int) (t₁ t₂ : Shared), RowAt prog w a b (Plus D' d) t₁.heap d b' → Oth env t₁ t₂ → Le (Plus D' d) t₁.heap t₂.heap → RowAt prog w a b (Plus D' d) t₂.heap d b' :=
    fun b' t₁ t₂ r o le => r.up (fun ob e f => o d ob e hdL f) le
  refine ex_cons ?_
  refine ex_for_st (T := tPair (tKey prog w a b) tInt) (fun _ => rhoA prog w a b ks ls d) (fun b' t => RowAt prog w a b (Plus D' d) t.heap d b') (fun b' (x : Int × Int) => b' ++ [x.1]) [] (X₄.weak (((RLe.none.upd (by walk_at "nm")).upd (by walk_at "nm")).upd (by walk_at "nm"))) row0 hj
    (iters_items (a := a) (b := b) (ks := ks) R'.handled (by walk_at "v")) (asg_pair R'.handled (own _ (by decide +kernel)) (own _ (by decide +kernel))) ?_ ?_
  · intro done x rem s₅ hx X₅ row₅ c₅
    rw [foldl_snoc] at row₅ ⊢
    have hks : ks = done.map (·.1) ++ x.1 :: rem.map (·.1) := by
      have := congrArg (List.map fun p : Int × Int => p.1) hx
      rw [map_fst_one] at this
      simpa using this
    have one : x.2 = 1 := by
      have : x ∈ ks.map fun k => ((k, 1) : Int × Int) := by rw [hx]; simp
      obtain ⟨k, _, rfl⟩ := List.mem_map.mp this
      rfl
    have fresh : x.1 ∉ [] ++ done.map (·.1) := fun m => by
      have := List.nodup_append.mp hn |>.1
      rw [hks, List.nodup_append] at this
      exact this.2.2 _ (by simpa using m) _ (.head _) rfl
    have len : (([] : List Int) ++ done.map fun p : Int × Int => p.1).length ≤ 1000 := by
      have := congrArg List.length hks
      simp at this ⊢
      omega
    refine ex_cons ?_
    refine ex_setrow (a := a) (b := b) X₅ (by omega) (Has.val (y := 1) (by walk_at "v") one) (by walk_at "v") (by walk_at "v") row₅ fresh len (.inr rfl) nd1 hdL fun s₆ X₆ row₆ c₆ => ?_
    exact ex_nil ⟨⟨_, X₆, (((RLe.none.upd (by walk_at "nm")).upd (by walk_at "nm")).upd (by walk_at "nm"))⟩, row₆, c₆⟩
  · intro s₅ X₅ row₅ c₅
    rw [foldl_snoc, map_fst_one, List.nil_append] at row₅
    refine ex_cons ?_
    refine ex_for_st (T := tPair (tKey prog w a b) tInt) (fun _ => rhoA prog w a b ks ls d) (fun b' t => RowAt prog w a b (Plus D' d) t.heap d b') (fun b' (x : Int × Int) => b' ++ [x.1]) ks X₅ row₅ hj
      (iters_items (a := a) (b := b) (ks := ls) R'.handled (by walk_at "v")) (asg_pair R'.handled (own _ (by decide +kernel)) (own _ (by decide +kernel))) ?_ ?_
    · intro done x rem s₆ hx X₆ row₆ c₆
      rw [foldl_snoc] at row₆ ⊢
      have hks : ls = done.map (·.1) ++ x.1 :: rem.map (·.1) := by
        have := congrArg (List.map fun p : Int × Int => p.1) hx
        rw [map_fst_one] at this
        simpa using this
      have one : x.2 = 1 := by
        have : x ∈ ls.map fun k => ((k, 1) : Int × Int) := by rw [hx]; simp
        obtain ⟨k, _, rfl⟩ := List.mem_map.mp this
        rfl
      have fresh : x.1 ∉ ks ++ done.map (·.1) := fun m => by
        have h1 := List.nodup_append.mp hn
        rw [hks] at h1
        rcases List.mem_append.mp m with m | m
        · exact h1.2.2 _ m x.1 (by simp) rfl
        · exact (List.nodup_append.mp h1.2.1).2.2 _ m _ (.head _) rfl
      have len : (ks ++ done.map (·.1)).length ≤ 1000 := by
        have := congrArg List.length hks
        simp at this ⊢
        omega
      refine ex_cons ?_
      refine ex_if2 X₆ (b := false) (tst_cmp (T := tKey prog w a b) (U := tVal) (x := x.1) (y := .ref d) (by walk_at "v") (by walk_at "v") fun t u' v' kt h1 h2 => ?_) (fun q => by cases q) fun _ s₇ X₇ k₇ => ?_
      · cases h2
        exact cmp_inrow (by omega) big h1 (row₆.up (fun o e _ => keeps_get kt e) (keeps_le kt _)) fresh
      · have row₇ := row₆.up (fun o e _ => keeps_get k₇ e) (keeps_le k₇ _)
        refine ex_cons ?_
        refine ex_setrow (a := a) (b := b) X₇ (by omega) (Has.val (y := 1) (by walk_at "v") one) (by walk_at "v") (by walk_at "v") row₇ fresh len (.inr rfl) nd1 hdL fun s₈ X₈ row₈ c₈ => ?_
        exact ex_nil (ex_nil ⟨⟨_, X₈, (((RLe.none.upd (by walk_at "nm")).upd (by walk_at "nm")).upd (by walk_at "nm"))⟩, row₈, (Calm.keeps k₇).trans c₈⟩)
    · intro s₆ X₆ row₆ c₆
      rw [foldl_snoc, map_fst_one] at row₆
      refine ex_cons ?_
      refine ex_return X₆ (P := fun h v => tVal.is (Plus D' d) h v (.ref d)) ?_ fun v' s₇ k₇ hv' => ?_
      · walk_at "v"
      cases hv'
      refine ⟨keeps_trans X₆.kp k₇, d, rfl, fun q => live_none X.live hd (hD d q), big, ?_⟩
      exact (row₆.up (fun o e _ => keeps_get k₇ e) (keeps_le k₇ _)).thin fun c o _ q => .inl (hD c q)

theorem foldl_count : ∀ (l : List Int) (n : Int), (l.map fun _ => (1 : Int)).foldl (fun n c => n + c) n = n + l.length
  | [], n => by simp
  | x :: l, n => by rw [List.map_cons, List.foldl_cons, foldl_count l]; simp; omega

theorem walk_count {a b : Str} (C : Cx g mg mb) {f2 : Value} (F2 : DefAt P2 g mg 2 f2) {A : Around} {D : Addr → Prop} {s : Shared} {v : Value} {ks : List Int}
    (R : Rm A 2) (hg : Sub g s.heap) (hv : (tRow prog w a b).is D s.heap v ks) : Has prog w A D s (call f2 [v]) tInt ks.length := by
  refine hs_fn1 (k := 1) (x := "callers") C.W hg F2 R hv (by decide +kernel) (by decide +kernel) (fun _ _ _ => by rfl) fun s₁ env ks1 K hsc R' s₂ D' hD X own => ?_
  refine ex_cons ?_
  refine ex_assign (T := tInt) (y := 0) X (has_int _ _ _) (own _ (by decide +kernel)) fun s₃ X₃ o₃ => ?_
  refine ex_cons ?_
  refine ex_for_st (T := tInt) (xs := ks.map fun _ => 1) (fun n => upd (upd (fun _ => none) "callers" ⟨tRow prog w a b, ks⟩) "nc" ⟨tInt, n⟩) (fun _ _ => True) (fun n c => n + c) 0 X₃ trivial (fun _ _ _ _ _ _ => trivial)
    (iters_values (a := a) (b := b) R'.handled (by walk_at "v")) (asg_name (own _ (by decide +kernel))) ?_ ?_
  · intro done x rem s₄ hx X₄ _ c₄
    refine ex_cons ?_
    refine ex_augadd (i := done.foldl (fun n c => n + c) 0) (j := x) X₄ (by walk_at "nm") (by walk_at "v") (own _ (by decide +kernel)) fun s₅ X₅ o₅ => ?_
    exact ex_nil ⟨⟨_, X₅, (RLe.none.upd (by walk_at "nm")).upd (by walk_at "nm")⟩, trivial, o₅.calm⟩
  · intro s₄ X₄ _ c₄
    rw [foldl_count] at X₄
    refine ex_ret (T := tInt) (y := ks.length) X₄ hD (fun _ _ a b => ⟨a, b⟩) (Has.val (x := 0 + (ks.length : Int)) ?_ (by omega))
    walk_at "v"
end
end Mine

end
section
set_option maxRecDepth 100000
open PySem PySem.W PyProof.Rows PySem.Calls PySem.Challenge
namespace Mine
local macro_rules | `(tactic| walk_at "nm") => `(tactic| repeat (first | with_reducible exact upd_here | with_reducible assumption | (with_reducible refine upd_there ?_ (by decide +kernel)) | (with_reducible refine pick_in ?_ (by decide +kernel))))
local macro_rules | `(tactic| walk_at "v") => `(tactic| (refine' has_name ?X ?h ?d; (case X => assumption); (case h => walk_at "nm"); (case d => decide +kernel)))
local macro_rules | `(tactic| walk_at "un") => `(tactic| first | omega | (have := Rm.units (by assumption); omega))

abbrev rowsAt (rows : List (List Int)) (i : Int) : List Int := rows.getD i.toNat []
def addTo (rows : List (List Int)) (i k : Int) : List (List Int) := rows.set i.toNat (rowsAt rows i ++ [k])
def stepC (rows : List (List Int)) (x : Int × Int) : List (List Int) := addTo (addTo rows x.1 x.2) x.2 x.1
def okC (rows : List (List Int)) (x : Int × Int) : Bool :=
  decide (0 ≤ x.1) && decide (x.1 < rows.length) && decide (0 ≤ x.2) && decide (x.2 < rows.length) && !(rowsAt rows x.1).contains x.2 && !(rowsAt (addTo rows x.1 x.2) x.2).contains x.1 &&
  decide ((rowsAt rows x.1).length ≤ 100) && decide ((rowsAt (addTo rows x.1 x.2) x.2).length ≤ 100)
def freshC : List (List Int) → List (Int × Int) → Bool
  | _, [] => true
  | rows, x :: r => okC rows x && freshC (stepC rows x) r
theorem freshC_at : ∀ {done : List (Int × Int)} {rows : List (List Int)} {x : Int × Int} {rem : List (Int × Int)}, freshC rows (done ++ x :: rem) = true → okC (done.foldl stepC rows) x = true
  | [], rows, x, rem, h => by
    simp only [List.nil_append, freshC, Bool.and_eq_true] at h
    exact h.1
  | y :: done, rows, x, rem, h => by
    simp only [List.cons_append, freshC, Bool.and_eq_true] at h
    rw [List.foldl_cons]
    exact freshC_at (rem := rem) h.2
theorem addTo_len (rows : List (List Int)) (i k : Int) : (addTo rows i k).length = rows.length := by simp [addTo]
theorem stepC_len (rows : List (List Int)) (x : Int × Int) : (stepC rows x).length = rows.length := by simp [stepC, addTo_len]
theorem foldC_len : ∀ (l : List (Int × Int)) (rows : List (List Int)), (l.foldl stepC rows).length = rows.length
  | [], _ => rfl
  | x :: l, rows => by rw [List.foldl_cons, foldC_len l, stepC_len]

def rows0 (many : Int) : List (List Int) := ((rangeL 0 many.toNat).filter fun _ => true).map fun _ => []
def countsL (ties : List (Int × Int)) (many : Int) : List Int := ((ties.foldl stepC (rows0 many)).filter fun _ => true).map fun r => r.length

section
variable {prog : Program} {w : World} {A : Around} {D : Addr → Prop} {s s₁ s₀ : Shared} {g : Heap} {env : Env} {ρ : Rho} {mg mb : Str → Option Value}

theorem nodup_snoc {ks : List Int} {k : Int} (h : ks.Nodup) (n : k ∉ ks) : (ks ++ [k]).Nodup := by
  rw [List.nodup_append]
  exact ⟨h, by simp, fun x hx y hy => by simp at hy; subst hy; exact fun e => n (e ▸ hx)⟩

/-- calls[one] = add_callers(calls[one], {(a, other, b): 1}) -/
theorem ex_tally {a b : Str} {cx fx o1 : Str} {pc pc' pf pk po po' ps ps' pt pd p1 pp pcall pos : Pos} {kk nn k1 : Nat} {eo : Expr} {sc : Scope} (C : Cx g mg mb) (K : Kinds sc env) {f1 : Value} (F1 : DefAt P2 g mg 1 f1) (hfx : fx = nameOf (stOf P2 1)) {rows : List (List Int)} {p : Addr} {i k : Int} {Q : Flow → Shared → Prop} {E : Value → Shared → Prop}
    (X : Ex g s₀ D env s ρ) (R : Rm A 3) (acc : Acc (tRow prog w a b) D p s.heap rows) (dp : D p) (np : s₀.heap.get? p = none) (hL : p ≠ env.locals)
    (hc : ∀ (s' : Shared) (pp : Pos), Keeps s s' → Has prog w A D s' (eval (.Name cx pp) env) tVal (.ref p)) (hi : ∀ (s' : Shared) (pp : Pos), Keeps s s' → Has prog w A D s' (eval (.Name o1 pp) env) tInt i)
    (ha : Has prog w A D s (eval (.Constant (.str a) nn pk) env) tStr a) (hk : Has prog w A D s (eval eo env) tInt k)
    (h0 : 0 ≤ i) (hlt : i < rows.length) (hn : k ∉ rowsAt rows i) (hl : (rowsAt rows i).length ≤ 100) (hr : rows.length ≤ 100)
    (hg : sc.names.lookup fx = some .globalImplicit) (st : isStarred eo = false)
    (q : ∀ s', Ex g s₀ D env s' ρ → Acc (tRow prog w a b) D p s'.heap (addTo rows i k) → Calm D s s' → Q .next s') :
    wpAny (model prog w) A (exec (.Assign [.Subscript (.Name cx pc) (.Name o1 po) ps] (.Call (.Name fx pf) [.Subscript (.Name cx pc') (.Name o1 po') ps', .Dict [some (.Tuple [.Constant (.str a) nn pk, eo, .Constant (.str b) k1 p1] kk pt)] [.Constant (.int 1) 0 pd] pp] [] pcall) pos) env) Q E s := by
  have hun := R.units
  subst hfx
  refine ex_own_set (T := tRow prog w a b) (y := rowsAt rows i ++ [k]) X acc dp np hL ?_ (hc s _ (keeps_refl s)) (hi s _ (keeps_refl s)) h0 hlt (by omega) q
  refine e_call2 (tRow prog w a b) (rowsAt rows i) (tRow prog w a b) [k] C K X F1.gl F1.callee ?_ ?_ (fun s₁ u v k₁ hu hv => ?_) hg (by decide +kernel)
  · exact has_own_item (T := tRow prog w a b) acc (hc s _ (keeps_refl s)) (hi s _ (keeps_refl s)) h0 (by omega) (getD_of [] (by omega))
  · exact has_row1 C X (by omega) (has_key ha hk (has_str _ _ _) rfl st rfl) (has_int _ _ _)
  · have nd : (rowsAt rows i).Nodup := by
      obtain ⟨d, _, _, _, r⟩ := hu
      exact row_nodup r
    exact walk_add C F1 (nodup_snoc nd hn) (show (rowsAt rows i).length + 1 ≤ 500 by omega) (R.less (by omega)) (sub_keeps X.subs k₁) hu hv

abbrev rhoC (ties : List (Int × Int)) (many : Int) (p : Addr) : Rho := upd (upd (upd (fun _ => none) "many" ⟨tInt, many⟩) "ties" ⟨tList tEdge, ties⟩) "calls" ⟨tVal, .ref p⟩


theorem walk_counts (C : Cx g mg mb) {f1 f2 f9 : Value} (F1 : DefAt P2 g mg 1 f1) (F2 : DefAt P2 g mg 2 f2) (F9 : DefAt P2 g mg 9 f9) {A : Around} {D : Addr → Prop} {s : Shared} {u v : Value} {ties : List (Int × Int)} {many : Int} (h0 : 0 ≤ many) (h6 : many ≤ 50)
    (hfr : freshC (rows0 many) ties = true) (R : Rm A 10) (hg : Sub g s.heap) (hu : (tList tEdge).is D s.heap u ties) (hv : tInt.is D s.heap v many) : Has prog w A D s (call f9 [u, v]) (tList tInt) (countsL ties many) := by
  refine hs_fn2 (k := 9) (x := "ties") (x' := "many") C.W hg F9 R hu hv (by decide +kernel) (by decide +kernel) (by decide +kernel) (by decide +kernel) (fun _ _ _ => by rfl) fun s₁ env ks K hsc R' s₂ D' hD X own => ?_
  have hun := R'.units
  have len0 : (rows0 many).length = many.toNat := by rw [rows0, filter_tt, List.length_map, rangeL_len]
  refine ex_cons ?_
  refine ex_compM K (blockOf hsc) (T := tInt) (U := tRow prog w "t" "t") (fun _ => true) (fun _ => []) X (i_range1 C K X R'.handled ?_ h0 (by omega)) (by rw [rangeL_len]; omega) (fun x m env' s' D'' s₃ k3 K3 X3 => tests_none) (fun x m _ env' s' D'' s₃ k3 K3 X3 => has_row0 _ _ C X3) fun s₃ p hp X₃ acc₃ hL oth₃ => ?_
  · walk_at "v"
  have np : s₁.heap.get? p = none := keeps_none X.kp hp
  have X₃' : Ex g s₁ (Plus D' p) env s₃ (rhoC ties many p) := X₃.weak (((RLe.none.upd (by walk_at "nm")).upd (by walk_at "nm")).upd (by walk_at "nm"))
  refine ex_cons ?_
  refine ex_for_st (T := tEdge) (fun _ => rhoC ties many p) (fun rows t => Acc (tRow prog w "t" "t") (Plus D' p) p t.heap rows) stepC (rows0 many) X₃' acc₃ (fun b t₁ t₂ r o le => acc_oth r o le hL)
    (iters_list (xs := ties) R'.handled (by walk_at "v")).f (asg_pair R'.handled (own _ (by decide +kernel)) (own _ (by decide +kernel))) ?_ ?_
  · intro done x rem s₄ hx X₄ acc₄ c₄
    have ok := freshC_at (rows := rows0 many) (x := x) (hx ▸ hfr)
    generalize hb : List.foldl stepC (rows0 many) done = rows at acc₄ ok ⊢
    have hlen : rows.length = many.toNat := by rw [← hb, foldC_len, len0]
    simp only [okC, Bool.and_eq_true, decide_eq_true_eq, Bool.not_eq_true', List.contains_eq_mem, decide_eq_false_iff_not] at ok
    obtain ⟨⟨⟨⟨⟨⟨⟨a1, a2⟩, a3⟩, a4⟩, a5⟩, a6⟩, a7⟩, a8⟩ := ok
    refine ex_cons ?_
    refine ex_tally (a := "t") (b := "t") (k := x.2) (i := x.1) (rows := rows) (p := p) C K F1 ?n1 X₄ (R'.less (by omega)) acc₄ (.inr rfl) np hL ?c1 ?i1 ?a1 ?k1 a1 a2 a5 a7 (by omega) ?g1 ?s1 fun s₅ X₅ acc₅ c₅ => ?_
    case n1 => decide +kernel
    case c1 => exact fun s' pp k => has_name (X₄.up k) (by walk_at "nm") (by decide +kernel)
    case i1 => exact fun s' pp k => has_name (X₄.up k) (by walk_at "nm") (by decide +kernel)
    case a1 => exact has_str _ _ _
    case k1 => walk_at "v"
    case g1 => decide +kernel
    case s1 => rfl
    refine ex_cons ?_
    refine ex_tally (a := "t") (b := "t") (k := x.1) (i := x.2) (rows := addTo rows x.1 x.2) (p := p) C K F1 ?n2 X₅ (R'.less (by omega)) acc₅ (.inr rfl) np hL ?c2 ?i2 ?a2 ?k2 a3 (by rw [addTo_len]; exact a4) a6 a8 (by rw [addTo_len]; omega) ?g2 ?s2 fun s₆ X₆ acc₆ c₆ => ?_
    case n2 => decide +kernel
    case c2 => exact fun s' pp k => has_name (X₅.up k) (by walk_at "nm") (by decide +kernel)
    case i2 => exact fun s' pp k => has_name (X₅.up k) (by walk_at "nm") (by decide +kernel)
    case a2 => exact has_str _ _ _
    case k2 => walk_at "v"
    case g2 => decide +kernel
    case s2 => rfl
    exact ex_nil ⟨⟨_, X₆, ((RLe.none.upd (by walk_at "nm")).upd (by walk_at "nm")).upd (by walk_at "nm")⟩, acc₆, c₅.trans c₆⟩
  · intro s₄ X₄ acc₄ c₄
    have X₅ := X₄.freeze (s₁ := s₁) (D := D') acc₄ (fun _ _ _ d => .inl d) (fun d => live_none X.live hp d) X.fm.volL (fun b d => X₄.live b (.inl d)) np
    have X₆ := X₅.retype (U := tList (tRow prog w "t" "t")) fun _ => tNew_old
    refine ex_ret (T := tList tInt) (y := countsL ties many) X₆ hD (fun _ _ a b => ⟨a, b⟩) ?_
    refine e_compN K (T := tRow prog w "t" "t") (U := tInt) (xs := ties.foldl stepC (rows0 many)) (fun _ => true) (fun r => (r.length : Int)) X₆ (iters_list R'.handled ?_) (by rw [foldC_len, len0]; omega) (fun x m env' s' D'' s₇ k7 K7 X7 => tests_none) fun x m _ env' s' D'' s₇ k7 K7 X7 => ?_
    · walk_at "v"
    · exact e_call1 (tRow prog w "t" "t") x C K7 X7 F2.gl F2.callee (by walk_at "v") fun s₈ v k8 hv => walk_count C F2 (R'.less (by omega)) (sub_keeps X7.subs k8) hv
end
end Mine

end
section
set_option maxRecDepth 100000
open PySem PySem.W PyProof.Rows PySem.Calls PySem.Challenge
namespace Mine
local macro_rules | `(tactic| walk_at "nm") => `(tactic| repeat (first | with_reducible exact upd_here | with_reducible assumption | (with_reducible refine upd_there ?_ (by decide +kernel)) | (with_reducible refine pick_in ?_ (by decide +kernel))))
local macro_rules | `(tactic| walk_at "v") => `(tactic| (refine' has_name ?X ?h ?d; (case X => assumption); (case h => walk_at "nm"); (case d => decide +kernel)))
local macro_rules | `(tactic| walk_at "un") => `(tactic| first | omega | (have := Rm.units (by assumption); omega))

def setB : Nat → List Int → Int → Int → Int → List Int
  | 0, ds, _, _, _ => ds
  | fuel + 1, ds, x, L, R => if L + 1 == R then ds.set L.toNat x else
    setB fuel (setB fuel ds (x % 2 ^ ((L + R) / 2 - L).toNat) L ((L + R) / 2)) (x.fdiv (2 ^ ((L + R) / 2 - L).toNat)) ((L + R) / 2) R
theorem setB_len : ∀ (n : Nat) (ds : List Int) (x L R : Int), (setB n ds x L R).length = ds.length
  | 0, _, _, _, _ => rfl
  | n + 1, ds, x, L, R => by
    unfold setB
    split
    · simp
    · rw [setB_len n, setB_len n]

def innerOf (i : Nat) : Stmt := (bodyOf (stOf P2 i)).getD 1 (.Pass ⟨0, 0, 0, 0⟩)

section
variable {prog : Program} {w : World} {A : Around} {D : Addr → Prop} {s s₁ s₀ : Shared} {g : Heap} {env : Env} {ρ : Rho} {mg mb : Str → Option Value}

structure Inr (g : Heap) (D : Addr → Prop) (f p : Addr) (qual : Str) (cl : List (Str × Addr)) (s : Shared) (ds : List Int) : Prop where
  sub : Sub g s.heap
  live : Live D s.heap
  clo : CloAt s.heap f "inner" qual (paramsOf (innerOf 4)) (bodyOf (innerOf 4)) (scopeOf (innerOf 4)) cl
  cA : ∃ c, cl.lookup ("a_digits" : Str) = some c ∧ s.heap.IsCell c (some (.ref p))
  cI : ∃ c, cl.lookup ("inner" : Str) = some c ∧ s.heap.IsCell c (some (.ref f))
  cN : ∃ c t, cl.lookup ("n" : Str) = some c ∧ s.heap.IsCell c (some (.int 1 t))
  good : CellsGood s.heap cl
  acc : Acc tInt D p s.heap ds

theorem Inr.step {f p : Addr} {qual : Str} {cl : List (Str × Addr)} {ds ds' : List Int} {D' : Addr → Prop} (x : Inr g D f p qual cl s ds) (st : StepI [p] s s₁) (gp : g.get? p = none) (a : Acc tInt D p s₁.heap ds') (l : Live D' s₁.heap) : Inr g D' f p qual cl s₁ ds' := by
  obtain ⟨vs, n, hp, _⟩ := x.acc
  have cellk : ∀ {c : Addr} {v : Option Value}, s.heap.IsCell c v → s₁.heap.IsCell c v := fun {c v} h => by
    obtain ⟨o, e, d⟩ := h
    exact ⟨o, stepI_get st (fun m => by rw [List.mem_singleton] at m; rw [m, hp] at e; cases e; cases d) e, d⟩
  obtain ⟨cA, eA, hA⟩ := x.cA
  obtain ⟨cI, eI, hI⟩ := x.cI
  obtain ⟨cN, tN, eN, hN⟩ := x.cN
  refine ⟨fun b o e => stepI_get st (fun m => by rw [List.mem_singleton] at m; rw [m, gp] at e; cases e) (x.sub b o e), l, x.clo.up (I := [p]) (fun b o nb e => stepI_get st nb e) (fun b m o e => ?_), ⟨cA, eA, cellk hA⟩, ⟨cI, eI, cellk hI⟩, ⟨cN, tN, eN, cellk hN⟩,
    ⟨fun y c e => let ⟨v, hv⟩ := x.good.cell y c e; ⟨v, cellk hv⟩, x.good.apart⟩, a⟩
  rw [List.mem_singleton] at m
  subst m
  rw [hp] at e; cases e
  exact ⟨_, _, rfl⟩

theorem inner_binds (x L R : Int) (tx tL tR : Tok) : ∀ fd : FuncData, fd.params = paramsOf (innerOf 4) → fd.qualname = fd.qualname → fd.defaults = .none → fd.kwdefaults = .none →
    bindArgs fd ⟨[.int x tx, .int L tL, .int R tR], []⟩ = pure [(Str.ofString "x", Value.int x tx), (Str.ofString "L", Value.int L tL), (Str.ofString "R", Value.int R tR)] := by
  intro fd h1 _ h3 h4
  obtain ⟨a1, a2, a3, a4, a5, a6, a7, a8, a9, b1, b2, b3, b4, b5, b6⟩ := fd
  simp only at h1 h3 h4
  subst h1 h3 h4
  rfl

abbrev rhoI (x L R : Int) (p f : Addr) : Rho := upd (upd (upd (upd (upd (upd (fun _ => none) "n" ⟨tInt, 1⟩) "inner" ⟨tVal, .ref f⟩) "a_digits" ⟨tVal, .ref p⟩) "R" ⟨tInt, R⟩) "L" ⟨tInt, L⟩) "x" ⟨tInt, x⟩

theorem walk_inner (C : Cx g mg mb) {f p : Addr} {qual : Str} {cl : List (Str × Addr)} (gp : g.get? p = none) (hall : ∀ x, (scopeOf (innerOf 4)).names.lookup x = some .free → ∃ c, cl.lookup x = some c) :
    ∀ n : Nat, n ≤ 100 → ∀ {A : Around} {D : Addr → Prop} {s : Shared} {ds : List Int} {x L R : Int} {tx tL tR : Tok}, D p → Inr g D f p qual cl s ds → Rm A (n + 2) → 0 ≤ L → L < R → R - L ≤ n → R ≤ ds.length → ds.length ≤ 1000 → 0 ≤ x → x < 2 ^ 20 →
    wpAny (model prog w) A (call (.ref f) [.int x tx, .int L tL, .int R tR]) (fun v s' => v = .none ∧ StepI [p] s s' ∧ Acc tInt D p s'.heap (setB n ds x L R)) NE s := by
  intro n
  induction n with
  | zero => intro _ A D s ds x L R tx tL tR dp I Rr h0 h1 h2; omega
  | succ n ih =>
    intro hn A D s ds x L R tx tL tR dp I Rr h0 h1 h2 h3 h4 h5 h6
    obtain ⟨cA, eA, hA⟩ := I.cA
    obtain ⟨cI, eI, hI⟩ := I.cI
    obtain ⟨cN, tN, eN, hN⟩ := I.cN
    refine wp_clo C.W I.sub I.live I.clo (k := n + 2) Rr [("x", .int x tx, ⟨tInt, x⟩), ("L", .int L tL, ⟨tInt, L⟩), ("R", .int R tR, ⟨tInt, R⟩)] [("a_digits", .ref p, ⟨tVal, .ref p⟩), ("inner", .ref f, ⟨tVal, .ref f⟩), ("n", .int 1 tN, ⟨tInt, 1⟩)]
      (fun fd q1 q2 q3 q4 => inner_binds x L R tx tL tR fd q1 rfl q3 q4) ?_ ?_ I.good ["x", "L", "R"] ["a_digits", "inner", "n"] rfl rfl (by decide +kernel) (by decide +kernel) (by decide +kernel) hall (by decide +kernel) (fun env hsc R' s₂ X => ?_)
    · intro t m
      rcases List.mem_cons.mp m with rfl | m
      · exact ⟨_, rfl⟩
      rcases List.mem_cons.mp m with rfl | m
      · exact ⟨_, rfl⟩
      rcases List.mem_cons.mp m with rfl | m
      · exact ⟨_, rfl⟩
      cases m
    · intro t m
      rcases List.mem_cons.mp m with rfl | m
      · exact ⟨rfl, cA, eA, hA⟩
      rcases List.mem_cons.mp m with rfl | m
      · exact ⟨rfl, cI, eI, hI⟩
      rcases List.mem_cons.mp m with rfl | m
      · exact ⟨⟨_, rfl⟩, cN, eN, hN⟩
      cases m
    · have K : Kinds (scopeOf (innerOf 4)) env := kinds_of hsc
      have hun := R'.units
      obtain ⟨vp, np, hp, hpp⟩ := I.acc
      have kp := X.kp
      have hpL : p ≠ env.locals := fun q => by have := X.fm.newL; rw [← q, hp] at this; cases this
      have own : ∀ {y : Str}, (scopeOf (innerOf 4)).names.lookup y = some .local → Own (hid s p) env y := fun h => .inl (K.kd h (by decide))
      have X : Ex g (hid s p) (Plus D env.locals) env s₂ (rhoI x L R p f) := X.base keeps_hid (sub_hid I.sub gp)
      have acc₂ : Acc tInt (Plus D env.locals) p s₂.heap ds := acc_int (D := D) (acc_keeps I.acc kp)
      have lx : 0 ≤ x % 2 ^ ((L + R) / 2 - L).toNat := Int.emod_nonneg _ (Int.ne_of_gt (Int.pow_pos (by decide)))
      have lx2 : x % 2 ^ ((L + R) / 2 - L).toNat ≤ x := by
        have e := Int.emod_add_mul_ediv x (2 ^ ((L + R) / 2 - L).toNat)
        have p : 0 ≤ (2 : Int) ^ ((L + R) / 2 - L).toNat * (x / 2 ^ ((L + R) / 2 - L).toNat) := Int.mul_nonneg (Int.le_of_lt (Int.pow_pos (by decide))) (Int.ediv_nonneg h5 (Int.le_of_lt (Int.pow_pos (by decide))))
        omega
      have ux : x.fdiv (2 ^ ((L + R) / 2 - L).toNat) = x / 2 ^ ((L + R) / 2 - L).toNat := Int.fdiv_eq_ediv_of_nonneg _ (Int.le_of_lt (Int.pow_pos (by decide)))
      have ux0 : 0 ≤ x.fdiv (2 ^ ((L + R) / 2 - L).toNat) := by rw [ux]; exact Int.ediv_nonneg h5 (Int.le_of_lt (Int.pow_pos (by decide)))
      have ux1 : x.fdiv (2 ^ ((L + R) / 2 - L).toNat) ≤ x := by rw [ux]; exact Int.ediv_le_self _ h5
      refine ex_cons ?_
      refine ex_if2 X (b := L + 1 == R) (tst_eq (has_add ?_ (has_int _ _ _)) ?_) (fun hb s₃ X₃ k₃ => ?_) fun hb s₃ X₃ k₃ => ?_
      · walk_at "v"
      · walk_at "v"
      · refine ex_cons ?_
        refine ex_own_set (T := tInt) (y := x) (i := L) X₃ (acc_keeps acc₂ k₃) (.inl dp) hid_none hpL ?_ ?_ ?_ h0 (by omega) h4 fun s₄ X₄ acc₄ c₄ => ?_
        · walk_at "v"
        · walk_at "v"
        · walk_at "v"
        · refine ex_cons ?_
          refine wpAny_Return_none ⟨rfl, stepI_hid X₄.kp, ?_⟩
          unfold setB
          rw [if_pos hb]
          exact acc₄
      · have hb' : ¬ L + 1 = R := by simpa using hb
        have acc₃ := acc_keeps acc₂ k₃
        refine ex_nil (ex_cons ?_)
        refine ex_assign (T := tInt) (y := (L + R) / 2) X₃ (Has.val (x := (L + R).fdiv (2 ^ (1 : Int).toNat)) (has_shr (x := L + R) (y := 1) (has_add (x := L) (y := R) ?_ ?_) (has_int _ _ _) (by decide)) ?_) (own (by decide +kernel)) fun s₄ X₄ o₄ => ?_
        · walk_at "v"
        · walk_at "v"
        · rw [Int.fdiv_eq_ediv_of_nonneg _ (by decide)]; rfl
        refine ex_cons ?_
        refine ex_assign (T := tInt) (y := (L + R) / 2 - L) X₄ (Has.val (has_mul (x := (L + R) / 2 - L) (y := 1) (has_sub (x := (L + R) / 2) (y := L) ?_ ?_) ?_ (IntMulOk.of_right (by decide +kernel))) (Int.mul_one _)) (own (by decide +kernel)) fun s₅ X₅ o₅ => ?_
        · walk_at "v"
        · walk_at "v"
        · walk_at "v"
        refine ex_cons ?_
        refine ex_assign (T := tInt) (y := x.fdiv (2 ^ ((L + R) / 2 - L).toNat)) X₅ (has_shr (x := x) (y := (L + R) / 2 - L) ?_ ?_ (by omega)) (own (by decide +kernel)) fun s₆ X₆ o₆ => ?_
        · walk_at "v"
        · walk_at "v"
        refine ex_cons ?_
        refine ex_assign (T := tInt) (y := x % 2 ^ ((L + R) / 2 - L).toNat) X₆ (Has.val (has_xor (x := x) (y := x.fdiv (2 ^ ((L + R) / 2 - L).toNat) * 2 ^ ((L + R) / 2 - L).toNat) ?_ (has_shl (x := x.fdiv (2 ^ ((L + R) / 2 - L).toNat)) (y := (L + R) / 2 - L) ?_ ?_ (by omega) (by omega) (by omega))) (xor_low h5 _)) (own (by decide +kernel)) fun s₇ X₇ o₇ => ?_
        · walk_at "v"
        · walk_at "v"
        · walk_at "v"
        have oth := (((oth_others o₄).trans (oth_others o₅)).trans (oth_others o₆)).trans (oth_others o₇)
        have le7 : ∀ {a b : Shared}, Oth env a b → Le (Plus D env.locals) a.heap b.heap := fun o b ob nd f e => o b ob e (fun q => nd (q ▸ X.fm.volL)) f
        have acc₇ : Acc tInt (Plus D env.locals) p s₇.heap ds := acc_oth acc₃ oth (le7 oth) hpL
        have st₇ : StepI [p] s s₇ := stepI_hid X₇.kp
        have I₇ : Inr g (Plus D env.locals) f p qual cl s₇ ds := I.step st₇ gp acc₇ X₇.live
        refine ex_expr ?_ rfl (by unfold interactive; rw [hsc]; rfl)
        refine wp_call3 (T := tInt) (U := tInt) (V := tInt) (y := x % 2 ^ ((L + R) / 2 - L).toNat) (z := L) (t := (L + R) / 2) (f := .ref f) X₇.live ?_ ?_ ?_ ?_ ?_ fun s₈ u v w' k₈ hu hv hw => ?_
        · walk_at "v"
        · obtain ⟨o, _, _, _, _, e, d, _⟩ := I₇.clo
          exact .inr ⟨_, _, _, rfl, e, d⟩
        · walk_at "v"
        · walk_at "v"
        · walk_at "v"
        obtain ⟨t1, rfl⟩ := hu
        obtain ⟨t2, rfl⟩ := hv
        obtain ⟨t3, rfl⟩ := hw
        have I₈ : Inr g (Plus D env.locals) f p qual cl s₈ ds := I₇.step (stepI_keeps k₈) gp (acc_keeps acc₇ k₈) (live_keeps X₇.live k₈)
        refine wpAny_mono (ih (by omega) (.inl dp) I₈ (R'.less (by omega)) h0 (by omega) (by omega) (by omega) h4 lx (by omega)) (fun v s₉ h => ?_) fun _ _ e => e
        obtain ⟨rfl, st₉, acc₉⟩ := h
        obtain ⟨vp8, np8, hp8, _⟩ := I₈.acc
        obtain ⟨vp9, np9, hp9, _⟩ := id acc₉
        have X₉ := (X₇.up k₈).stepOwn st₉ (.inl dp) hid_none hp8 (firm_lst _ _) hp9 hpL
        have I₉ : Inr g (Plus D env.locals) f p qual cl s₉ _ := I₈.step st₉ gp acc₉ X₉.live
        refine ex_expr ?_ rfl (by unfold interactive; rw [hsc]; rfl)
        refine wp_call3 (T := tInt) (U := tInt) (V := tInt) (y := x.fdiv (2 ^ ((L + R) / 2 - L).toNat)) (z := (L + R) / 2) (t := R) (f := .ref f) X₉.live ?_ ?_ ?_ ?_ ?_ fun s₁₀ u v w' k₁₀ hu hv hw => ?_
        · walk_at "v"
        · obtain ⟨o, _, _, _, _, e, d, _⟩ := I₉.clo
          exact .inr ⟨_, _, _, rfl, e, d⟩
        · walk_at "v"
        · walk_at "v"
        · walk_at "v"
        obtain ⟨t4, rfl⟩ := hu
        obtain ⟨t5, rfl⟩ := hv
        obtain ⟨t6, rfl⟩ := hw
        have I₁₀ : Inr g (Plus D env.locals) f p qual cl s₁₀ _ := I₉.step (stepI_keeps k₁₀) gp (acc_keeps acc₉ k₁₀) (live_keeps X₉.live k₁₀)
        refine wpAny_mono (ih (by omega) (.inl dp) I₁₀ (R'.less (by omega)) (by omega) (by omega) (by omega) (by rw [setB_len]; omega) (by rw [setB_len]; omega) ux0 (by omega)) (fun v s₁₁ h => ?_) fun _ _ e => e
        obtain ⟨rfl, st₁₁, acc₁₁⟩ := h
        refine ex_nil ⟨rfl, stepI_trans st₇ (stepI_trans (stepI_keeps k₈) (stepI_trans st₉ (stepI_trans (stepI_keeps k₁₀) st₁₁))), ?_⟩
        unfold setB
        rw [if_neg (by simpa using hb')]
        exact acc₁₁
end
end Mine

end
section
set_option maxRecDepth 100000
open PySem PySem.W PyProof.Rows PySem.Calls PySem.Challenge
namespace Mine
local macro_rules | `(tactic| walk_at "nm") => `(tactic| repeat (first | with_reducible exact upd_here | with_reducible assumption | (with_reducible refine upd_there ?_ (by decide +kernel)) | (with_reducible refine pick_in ?_ (by decide +kernel))))
local macro_rules | `(tactic| walk_at "v") => `(tactic| (refine' has_name ?X ?h ?d; (case X => assumption); (case h => walk_at "nm"); (case d => decide +kernel)))
local macro_rules | `(tactic| walk_at "un") => `(tactic| first | omega | (have := Rm.units (by assumption); omega))

def zerosL (a : Int) : List Int := (List.replicate (((Builtin.Int.intBits a : Int) + 1 - 1).fdiv 1).toNat [(0 : Int)]).flatten
def i2dL (a : Int) : List Int := if a != 0 then setB 20 (zerosL a) a 0 (zerosL a).length else zerosL a
theorem zerosL_len (a : Int) : (zerosL a).length = Builtin.Int.intBits a := by
  unfold zerosL
  rw [List.length_flatten, List.map_replicate, List.sum_replicate_nat]
  have : (((Builtin.Int.intBits a : Int) + 1 - 1).fdiv 1).toNat = Builtin.Int.intBits a := by
    rw [Int.fdiv_eq_ediv_of_nonneg _ (by decide)]
    omega
  rw [this]
  simp
theorem i2dL_len (a : Int) : (i2dL a).length = Builtin.Int.intBits a := by
  unfold i2dL
  split
  · rw [setB_len, zerosL_len]
  · exact zerosL_len a

section
variable {prog : Program} {w : World} {A : Around} {D : Addr → Prop} {s s₁ s₀ : Shared} {g : Heap} {env : Env} {ρ : Rho} {mg mb : Str → Option Value}

abbrev TabAt4 (g : Heap) (mg : Str → Option Value) (i : Nat) (f : Value) (P : Addr) : Prop := FnTab g mg (nameOf (stOf P2 i)) (paramsOf (stOf P2 i)) (bodyOf (stOf P2 i)) (scopeOf (stOf P2 i)) f P

theorem cell_of {sc : Scope} {x : Str} {e : Ent} (K : Kinds sc env) (X : Ex g s₀ D env s ρ) (hx : ρ x = some e) (hk : sc.names.lookup x = some .cell) : ∃ c v, env.cells.lookup x = some c ∧ s.heap.IsCell c (some v) ∧ e.T.is D s.heap v e.y := by
  obtain ⟨v, hn, ht⟩ := X.fm.names x e hx
  rcases hn with ⟨a, _⟩ | ⟨_, c, hc, hv⟩
  · rw [K.kd hk (by decide)] at a; cases a
  · exact ⟨c, v, hc, hv, ht⟩

theorem walk_i2d (C : Cx g mg mb) (B : Bm g mg) {f4 : Value} {P : Addr} (F4 : TabAt4 g mg 4 f4 P) (gP : g.get? P = none) {A : Around} {D : Addr → Prop} {s : Shared} {a : Int} {u v : Value} (h0 : 0 ≤ a) (h1 : a < 2 ^ 20) (hbit : Builtin.Int.intBits a ≤ 20) (hpos : a ≠ 0 → 1 ≤ Builtin.Int.intBits a)
    (R : Rm A 30) (hg : Sub g s.heap) (hl : Live D s.heap) (hP : s.heap.get? P = some (tabObj #[])) (nP : ¬ D P) (hu : tInt.is D s.heap u a) (hv : tInt.is D s.heap v 1) :
    wpAny (model prog w) A (call f4 [u, v]) (fun r s' => (∃ ps, s'.heap.get? P = some (tabObj ps)) ∧ StepI [P] s s' ∧ (tList tInt).is D s'.heap r (i2dL a)) NE s := by
  refine wp_fn (k := 29) C.W hg hl F4.at R [("a", u, ⟨tInt, a⟩), ("n", v, ⟨tInt, 1⟩)] (fun _ _ _ => by rfl) ?_ (fun env hsc hcd R' own hnew s₂ X => ?_) ["a", "n"] rfl (by decide +kernel) (by decide +kernel) (by decide +kernel)
  · intro t m
    rcases List.mem_cons.mp m with rfl | m
    · exact hu
    rcases List.mem_cons.mp m with rfl | m
    · exact hv
    cases m
  · obtain ⟨c, hcode, hhd⟩ := hcd P F4
    have hun := R'.units
    have K : Kinds (scopeOf (stOf P2 4)) env := kinds_of hsc
    have hPL : P ≠ env.locals := fun q => by rw [← q, hP] at hnew; cases hnew
    have kp := X.kp
    have hP₂ := keeps_get kp hP
    have lv := X.live
    have X : Ex g (hid s P) (Plus D env.locals) env s₂ (upd (upd (fun _ => none) "n" ⟨tInt, 1⟩) "a" ⟨tInt, a⟩) := X.base keeps_hid (sub_hid hg gP)
    have own : ∀ {n : Str}, (scopeOf (stOf P2 4)).names.lookup n = some .local ∨ (scopeOf (stOf P2 4)).names.lookup n = some .cell → Own (hid s P) env n := fun h => (own _ h).base keeps_hid
    refine ex_cons ?_
    refine ex_assign_own (P := fun h p => Acc tInt D p h (zerosL a)) X ?_ (own (by decide +kernel)) fun s₃ p s₄ k₃ hp hpL acc₃ X₄ oth₄ le₄ ot₄ => ?_
    · refine Hs.weak (has_mullistT (T := tInt) (xs := [0]) (n := ((Builtin.Int.intBits a : Int) + 1 - 1).fdiv 1) (has_list1 (has_int _ _ _) rfl) ?_ ?_ ?_ (by simp)) fun s' v' k hv' => ?_
      · refine has_fdiv (x := (Builtin.Int.intBits a : Int) + 1 - 1) (y := 1) (has_sub (x := (Builtin.Int.intBits a : Int) + 1) (y := 1) (has_add (x := Builtin.Int.intBits a) (y := 1) (has_bitlen ?_) ?_) (has_int _ _ _)) ?_ (by decide) ?_
        · walk_at "v"
        · walk_at "v"
        · walk_at "v"
        · unfold Builtin.divisionGoesByPylong
          rw [Bool.and_eq_false_iff]
          exact .inl (by decide +kernel)
      · rw [Int.fdiv_eq_ediv_of_nonneg _ (by decide)]; omega
      · rw [Int.fdiv_eq_ediv_of_nonneg _ (by decide)]; omega
      · obtain ⟨p, n, vs, e, d, hgp, hpp, hnp⟩ := hv'
        exact ⟨p, e, hnp, ⟨_, hgp⟩, vs, n, hgp, paired_mono (fun _ _ z => z) hpp⟩
    have hPp : P ≠ p := fun q => by rw [← q, hP₂] at hp; cases hp
    have hP₄ : s₄.heap.get? P = some (tabObj #[]) := ot₄.still _ _ hP₂ hPL fun v q => by cases q
    have acc₄ : Acc tInt (Plus (Plus D env.locals) p) p s₄.heap (zerosL a) := by
      obtain ⟨vs, n, e, q⟩ := acc₃
      exact ⟨vs, n, oth₄ p _ e hpL (firm_lst _ _), q⟩
    have npg : g.get? p = none := by
      cases e : g.get? p with
      | none => rfl
      | some o => rw [X.subs p o e] at hp; cases hp
    have npb : (hid s P).heap.get? p = none := keeps_none X.kp hp
    refine ex_cons ?_
    refine ex_def C B X₄ hcode hhd hP₄ hid_none ?_ ?_ (own (by decide +kernel)) fun s₅ s₆ f st₅ hf clo₅ tab₅ X₅ X₆ ot₆ => ?_
    · rintro ((d | d) | d)
      · exact nP d
      · exact hPL d
      · exact hPp d
    · intro y m e
      refine X₄.fm.cellOk y.1 (.inl (K.kd ?_ (by decide)))
      revert y
      decide +kernel
    have hfL : ∀ {b : Addr} {o : Obj}, s₅.heap.get? b = some o → (∀ es ep, o.data ≠ .dict es ep) → b ≠ env.locals := fun {b o} e n q => by
      obtain ⟨m, o', es, ep, e', d', _⟩ := X₅.fm.ns
      rw [q, e'] at e; cases e
      exact n _ _ d'
    have clo₆ : CloAt s₆.heap f "inner" (qualnameIn env "inner" "inner") (paramsOf (innerOf 4)) (bodyOf (innerOf 4)) (scopeOf (innerOf 4)) (freeCells env.cells (scopeOf (innerOf 4)).names []) := by
      obtain ⟨o, doc, pm, c1, ctv, e, d, c2, oc, vs, t, e1, e2, e3, e4⟩ := clo₅
      refine ⟨o, doc, pm, c1, ctv, ot₆.still _ _ e (hfL e fun _ _ q => by rw [d] at q; cases q) (fun v q => by rw [d] at q; cases q), d, c2, oc, vs, t, e1, ot₆.still _ _ e2 (hfL e2 fun _ _ q => by rw [e3] at q; cases q) (fun v q => by rw [e3] at q; cases q), e3, e4⟩
    have tab₆ : ∃ ps, s₆.heap.get? P = some (tabObj ps) := by
      obtain ⟨ps, e⟩ := tab₅
      exact ⟨ps, ot₆.still _ _ e hPL fun v q => by cases q⟩
    have acc₆ : Acc tInt (Plus (Plus D env.locals) p) p s₆.heap (zerosL a) := by
      obtain ⟨vs, n, e, q⟩ := acc₄
      exact ⟨vs, n, (oth_others ot₆) p _ (stepI_get st₅ (fun m => hPp (List.mem_singleton.mp m).symm) e) hpL (firm_lst _ _), q⟩
    have fc : ∀ {x : Str} {e : Ent} {ρ' : Rho}, Ex g (hid s P) (Plus (Plus D env.locals) p) env s₆ ρ' → ρ' x = some e → (scopeOf (stOf P2 4)).names.lookup x = some .cell → (x, NameKind.free) ∈ (scopeOf (innerOf 4)).names →
        ∃ c v, (freeCells env.cells (scopeOf (innerOf 4)).names []).lookup x = some c ∧ s₆.heap.IsCell c (some v) ∧ e.T.is (Plus (Plus D env.locals) p) s₆.heap v e.y := fun X h hk hm => by
      obtain ⟨c, v, hc, hv, ht⟩ := cell_of K X h hk
      exact ⟨c, v, freeCells_of hm hc, hv, ht⟩
    have hlow : ∀ x, (scopeOf (innerOf 4)).names.lookup x = some .free → x ∈ [Str.ofString "a_digits", Str.ofString "inner", Str.ofString "n"] := by
      intro x h
      have := mem_of_lookup h
      have k : ∀ y ∈ (scopeOf (innerOf 4)).names, y.2 = .free → y.1 ∈ [Str.ofString "a_digits", Str.ofString "inner", Str.ofString "n"] := by decide +kernel
      exact k _ this rfl
    have I₆ : Inr g (Plus (Plus D env.locals) p) f p (qualnameIn env "inner" "inner") (freeCells env.cells (scopeOf (innerOf 4)).names []) s₆ (zerosL a) := by
      refine ⟨X₆.subs, X₆.live, clo₆, ?_, ?_, ?_, ⟨fun y c' e => X₆.fm.cells y c' (freeCells_some e), fun y z c' e e' => X₆.fm.apart y z c' (freeCells_some e) (freeCells_some e')⟩, acc₆⟩
      · obtain ⟨c', v', h1, h2, h3⟩ := fc (x := "a_digits") (e := ⟨tVal, .ref p⟩) X₆ (by walk_at "nm") (by decide +kernel) (by decide +kernel)
        cases h3
        exact ⟨c', h1, h2⟩
      · obtain ⟨c', v', h1, h2, h3⟩ := fc (x := "inner") (e := ⟨tVal, .ref f⟩) X₆ (by walk_at "nm") (by decide +kernel) (by decide +kernel)
        cases h3
        exact ⟨c', h1, h2⟩
      · obtain ⟨c', v', h1, h2, t, rfl⟩ := fc (x := "n") (e := ⟨tInt, 1⟩) X₆ (by walk_at "nm") (by decide +kernel) (by decide +kernel)
        exact ⟨c', t, h1, h2⟩
    have hall : ∀ x, (scopeOf (innerOf 4)).names.lookup x = some .free → ∃ c, (freeCells env.cells (scopeOf (innerOf 4)).names []).lookup x = some c := fun x h => by
      have m := hlow x h
      rcases List.mem_cons.mp m with rfl | m
      · exact let ⟨c, h, _⟩ := I₆.cA; ⟨c, h⟩
      rcases List.mem_cons.mp m with rfl | m
      · exact let ⟨c, h, _⟩ := I₆.cI; ⟨c, h⟩
      rcases List.mem_cons.mp m with rfl | m
      · exact let ⟨c, _, h, _⟩ := I₆.cN; ⟨c, h⟩
      cases m
    have zl := zerosL_len a
    -- the end
    have fin : ∀ (t : Shared) (ρ' : Rho) (ds : List Int) (l : List Stmt) (pn pr : Pos), l = [.Return (some (.Name "a_digits" pn)) pr] → Ex g (hid s P) (Plus (Plus D env.locals) p) env t ρ' → ρ' "a_digits" = some ⟨tVal, .ref p⟩ → Acc tInt (Plus (Plus D env.locals) p) p t.heap ds → (∃ ps, t.heap.get? P = some (tabObj ps)) → i2dL a = ds →
        wpAny (model prog w) (A.deeper env) (execs l env) (fun fl s' => (∃ ps, s'.heap.get? P = some (tabObj ps)) ∧ StepI [P] s s' ∧ (tList tInt).is D s'.heap (match fl with | .ret v => v | _ => .none) (i2dL a)) NE t := by
      intro t ρ' ds l pn pr hl' Xt hρ acct tabt hds
      refine ex_cons ?_ hl'
      refine ex_return (P := fun h v => tVal.is (Plus (Plus D env.locals) p) h v (.ref p)) Xt (has_name Xt hρ (by decide +kernel)) fun v' t' k' hv' => ?_
      cases hv'
      obtain ⟨ps, eP⟩ := tabt
      obtain ⟨vs, n, ev, pv⟩ := acc_keeps acct k'
      exact ⟨⟨ps, keeps_get k' eP⟩, stepI_hid (keeps_trans Xt.kp k'), p, n, vs, rfl, fun d => live_none lv hp (.inl d), ev, by rw [hds]; exact paired_mono (fun _ _ z => z) pv⟩
    refine ex_cons ?_
    refine ex_if2 X₆ (b := a != 0) (tst_int ?_) (fun hb s₇ X₇ k₇ => ?_) fun hb s₇ X₇ k₇ => ?_
    · walk_at "v"
    · refine ex_expr ?_ rfl (by unfold interactive; rw [hsc]; rfl)
      have hne : a ≠ 0 := by simpa using hb
      refine wp_call3 (T := tInt) (U := tInt) (V := tInt) (y := a) (z := 0) (t := (zerosL a).length) (f := .ref f) X₇.live ?_ ?_ ?_ (has_int _ _ _) (has_own_len (T := tInt) (xs := zerosL a) C K X₇ (acc_keeps acc₆ k₇) ?_ (by omega)) fun s₈ u v w' k₈ hu hv hw => ?_
      · walk_at "v"
      · obtain ⟨o, _, _, _, _, e, d, _⟩ := clo₆
        exact .inr ⟨_, _, _, rfl, keeps_get k₇ e, d⟩
      · walk_at "v"
      · walk_at "v"
      obtain ⟨t1, rfl⟩ := hu
      obtain ⟨t2, rfl⟩ := hv
      obtain ⟨t3, rfl⟩ := hw
      have I₈ := I₆.step (stepI_keeps (keeps_trans k₇ k₈)) npg (acc_keeps acc₆ (keeps_trans k₇ k₈)) (live_keeps X₇.live k₈)
      have hp1 := hpos hne
      refine wpAny_mono (walk_inner C npg hall 20 (by omega) (.inr rfl) I₈ (R'.less (by omega)) (by omega) (by omega) (by omega) (by omega) (by omega) h0 h1) (fun v s₉ h => ?_) fun _ _ e => e
      obtain ⟨rfl, st₉, acc₉⟩ := h
      obtain ⟨vp8, np8, hp8, _⟩ := I₈.acc
      obtain ⟨vp9, np9, hp9, _⟩ := id acc₉
      have X₉ := (X₇.up k₈).stepOwn st₉ (.inr rfl) npb hp8 (firm_lst _ _) hp9 hpL
      refine ex_nil (fin s₉ _ _ _ _ _ rfl X₉ (by walk_at "nm") acc₉ ?_ (by unfold i2dL; rw [if_pos hb]))
      obtain ⟨ps, eP⟩ := tab₆
      exact ⟨ps, stepI_get st₉ (fun m => hPp (List.mem_singleton.mp m)) (keeps_get (keeps_trans k₇ k₈) eP)⟩
    · refine ex_nil (fin s₇ _ _ _ _ _ rfl X₇ (by walk_at "nm") (acc_keeps acc₆ k₇) ?_ (by unfold i2dL; rw [if_neg (by rw [hb]; decide)]))
      obtain ⟨ps, eP⟩ := tab₆
      exact ⟨ps, keeps_get k₇ eP⟩
end
end Mine

end
section
set_option maxRecDepth 100000
open PySem PySem.W PyProof.Rows PySem.Calls PySem.Challenge
namespace Mine
local macro_rules | `(tactic| walk_at "nm") => `(tactic| repeat (first | with_reducible exact upd_here | with_reducible assumption | (with_reducible refine upd_there ?_ (by decide +kernel)) | (with_reducible refine pick_in ?_ (by decide +kernel))))
local macro_rules | `(tactic| walk_at "v") => `(tactic| (refine' has_name ?X ?h ?d; (case X => assumption); (case h => walk_at "nm"); (case d => decide +kernel)))
local macro_rules | `(tactic| walk_at "un") => `(tactic| first | omega | (have := Rm.units (by assumption); omega))

def valD : Nat → List Int → Int → Int → Int
  | 0, _, _, _ => 0
  | n + 1, ds, L, R => if L + 1 == R then ds.getD L.toNat 0 else valD n ds ((L + R) / 2) R * 2 ^ ((L + R) / 2 - L).toNat + valD n ds L ((L + R) / 2)

theorem valD_bound (ds : List Int) (hd : ∀ i : Nat, 0 ≤ ds.getD i 0 ∧ ds.getD i 0 ≤ 1) : ∀ (n : Nat) (L R : Int), L < R → R - L ≤ n → 0 ≤ valD n ds L R ∧ valD n ds L R + 1 ≤ 2 ^ (R - L).toNat := by
  intro n
  induction n with
  | zero => intro L R h1 h2; omega
  | succ n ih =>
    intro L R h1 h2
    unfold valD
    split
    · rename_i h
      have h : L + 1 = R := by simpa using h
      have := hd L.toNat
      rw [show (R - L).toNat = 1 by omega]
      constructor
      · exact this.1
      · have := this.2; rw [Int.pow_succ, Int.pow_zero]; omega
    · rename_i h
      have h : ¬ L + 1 = R := by simpa using h
      obtain ⟨a1, a2⟩ := ih ((L + R) / 2) R (by omega) (by omega)
      obtain ⟨b1, b2⟩ := ih L ((L + R) / 2) (by omega) (by omega)
      generalize hv : valD n ds ((L + R) / 2) R = v at *
      generalize hw : valD n ds L ((L + R) / 2) = u at *
      generalize hP : (2 : Int) ^ ((L + R) / 2 - L).toNat = P at *
      have hP0 : 0 < P := by rw [← hP]; exact Int.pow_pos (by decide)
      have e : (2 : Int) ^ (R - L).toNat = 2 ^ (R - (L + R) / 2).toNat * P := by
        rw [← hP, ← Int.pow_add]
        congr 1
        omega
      have m1 : 0 ≤ v * P := Int.mul_nonneg a1 (Int.le_of_lt hP0)
      have m2 : (v + 1) * P ≤ 2 ^ (R - (L + R) / 2).toNat * P := Int.mul_le_mul_of_nonneg_right a2 (Int.le_of_lt hP0)
      rw [Int.add_mul, Int.one_mul] at m2
      rw [e]
      omega

def innerOf0 (i : Nat) : Stmt := (bodyOf (stOf P2 i)).getD 0 (.Pass ⟨0, 0, 0, 0⟩)

section
variable {prog : Program} {w : World} {A : Around} {D : Addr → Prop} {s s₁ s₀ : Shared} {g : Heap} {env : Env} {ρ : Rho} {mg mb : Str → Option Value}

structure InD (g : Heap) (D : Addr → Prop) (f : Addr) (qual : Str) (cl : List (Str × Addr)) (s : Shared) (ds : List Int) : Prop where
  sub : Sub g s.heap
  live : Live D s.heap
  clo : CloAt s.heap f "inner" qual (paramsOf (innerOf0 5)) (bodyOf (innerOf0 5)) (scopeOf (innerOf0 5)) cl
  cD : ∃ c v, cl.lookup ("digits" : Str) = some c ∧ s.heap.IsCell c (some v) ∧ (tList tInt).is D s.heap v ds
  cI : ∃ c, cl.lookup ("inner" : Str) = some c ∧ s.heap.IsCell c (some (.ref f))
  cN : ∃ c t, cl.lookup ("n" : Str) = some c ∧ s.heap.IsCell c (some (.int 1 t))
  good : CellsGood s.heap cl

theorem InD.up {f : Addr} {qual : Str} {cl : List (Str × Addr)} {ds : List Int} {D' : Addr → Prop} (x : InD g D f qual cl s ds) (k : Keeps s s₁) (l : Live D' s₁.heap) (hD : ∀ a o, s.heap.get? a = some o → D' a → D a) : InD g D' f qual cl s₁ ds := by
  have kk : ∀ b o, s.heap.get? b = some o → s₁.heap.get? b = some o := fun b o e => keeps_get k e
  obtain ⟨cD, vD, eD, hDc, tD⟩ := x.cD
  obtain ⟨cI, eI, hI⟩ := x.cI
  obtain ⟨cN, tN, eN, hN⟩ := x.cN
  exact ⟨fun b o e => kk b o (x.sub b o e), l, x.clo.up (I := []) (fun b o _ e => kk b o e) (fun b m => nomatch m), ⟨cD, vD, eD, hDc.keeps kk, (tList tInt).mono (keeps_le k D') ((tList tInt).wide hD tD)⟩, ⟨cI, eI, hI.keeps kk⟩, ⟨cN, tN, eN, hN.keeps kk⟩,
    ⟨fun y c e => let ⟨v, hv⟩ := x.good.cell y c e; ⟨v, hv.keeps kk⟩, x.good.apart⟩⟩

theorem inner2_binds (L R : Int) (tL tR : Tok) : ∀ fd : FuncData, fd.params = paramsOf (innerOf0 5) → fd.defaults = .none → fd.kwdefaults = .none →
    bindArgs fd ⟨[.int L tL, .int R tR], []⟩ = pure [(Str.ofString "L", Value.int L tL), (Str.ofString "R", Value.int R tR)] := by
  intro fd h1 h3 h4
  obtain ⟨a1, a2, a3, a4, a5, a6, a7, a8, a9, b1, b2, b3, b4, b5, b6⟩ := fd
  simp only at h1 h3 h4
  subst h1 h3 h4
  rfl

abbrev rhoJ (L R : Int) (ds : List Int) (f : Addr) : Rho := upd (upd (upd (upd (upd (fun _ => none) "n" ⟨tInt, 1⟩) "inner" ⟨tVal, .ref f⟩) "digits" ⟨tList tInt, ds⟩) "R" ⟨tInt, R⟩) "L" ⟨tInt, L⟩

theorem walk_inner2 (C : Cx g mg mb) {f : Addr} {qual : Str} {cl : List (Str × Addr)} {ds : List Int} (hd : ∀ i : Nat, 0 ≤ ds.getD i 0 ∧ ds.getD i 0 ≤ 1) (hall : ∀ x, (scopeOf (innerOf0 5)).names.lookup x = some .free → ∃ c, cl.lookup x = some c) :
    ∀ n : Nat, n ≤ 20 → ∀ {A : Around} {D : Addr → Prop} {s : Shared} {L R : Int} {tL tR : Tok}, InD g D f qual cl s ds → Rm A (n + 2) → 0 ≤ L → L < R → R - L ≤ n → R ≤ ds.length → ds.length ≤ 1000 →
    Has prog w A D s (call (.ref f) [.int L tL, .int R tR]) tInt (valD n ds L R) := by
  intro n
  induction n with
  | zero => intro _ A D s L R tL tR I Rr h0 h1 h2; omega
  | succ n ih =>
    intro hn A D s₀ L R tL tR I₀ Rr h0 h1 h2 h3 h4 s k₀ l₀
    have I := I₀.up k₀ l₀ (fun _ _ _ d => d)
    obtain ⟨cD, vD, eD, hDc, tD⟩ := I.cD
    obtain ⟨cI, eI, hI⟩ := I.cI
    obtain ⟨cN, tN, eN, hN⟩ := I.cN
    refine wp_clo C.W I.sub I.live I.clo (k := n + 2) Rr [("L", .int L tL, ⟨tInt, L⟩), ("R", .int R tR, ⟨tInt, R⟩)] [("digits", vD, ⟨tList tInt, ds⟩), ("inner", .ref f, ⟨tVal, .ref f⟩), ("n", .int 1 tN, ⟨tInt, 1⟩)]
      (fun fd q1 q2 q3 q4 => inner2_binds L R tL tR fd q1 q3 q4) ?_ ?_ I.good ["L", "R"] ["digits", "inner", "n"] rfl rfl (by decide +kernel) (by decide +kernel) (by decide +kernel) hall (by decide +kernel) (fun env hsc R' s₂ X => ?_)
    · intro t m
      rcases List.mem_cons.mp m with rfl | m
      · exact ⟨_, rfl⟩
      rcases List.mem_cons.mp m with rfl | m
      · exact ⟨_, rfl⟩
      cases m
    · intro t m
      rcases List.mem_cons.mp m with rfl | m
      · exact ⟨tD, cD, eD, hDc⟩
      rcases List.mem_cons.mp m with rfl | m
      · exact ⟨rfl, cI, eI, hI⟩
      rcases List.mem_cons.mp m with rfl | m
      · exact ⟨⟨_, rfl⟩, cN, eN, hN⟩
      cases m
    · have K : Kinds (scopeOf (innerOf0 5)) env := kinds_of hsc
      have hun := R'.units
      have kp := X.kp
      have hnew := X.fm.newL
      have own : ∀ {y : Str}, (scopeOf (innerOf0 5)).names.lookup y = some .local → Own s env y := fun h => .inl (K.kd h (by decide))
      have X : Ex g s (Plus D env.locals) env s₂ (rhoJ L R ds f) := X
      have calls : ∀ {t : Shared} {ρ' : Rho} {x y : Int} {ea eb : Expr} {pn pc : Pos}, Ex g s (Plus D env.locals) env t ρ' → ρ' "inner" = some ⟨tVal, .ref f⟩ → Has prog w (A.deeper env) (Plus D env.locals) t (eval ea env) tInt x → Has prog w (A.deeper env) (Plus D env.locals) t (eval eb env) tInt y →
          isStarred ea = false → isStarred eb = false → 0 ≤ x → x < y → y - x ≤ n → y ≤ ds.length → Has prog w (A.deeper env) (Plus D env.locals) t (eval (.Call (.Name "inner" pn) [ea, eb] [] pc) env) tInt (valD n ds x y) := by
        intro t ρ' x y ea eb pn pc Xt hρ ha hb s1 s2 g0 g1 g2 g3
        have It : InD g (Plus D env.locals) f qual cl t ds := I.up Xt.kp Xt.live (plus_wide hnew)
        refine hs_call (has_name Xt hρ (by decide +kernel)) ?_ (hsl_cons ha (hsl_cons hb hsl_nil (st1 s2)) (st1 s1)) (fun s₃ vs k₃ q => ?_) (nost2 s1 s2)
        · obtain ⟨o, _, _, _, _, e, d, _⟩ := It.clo
          exact .inr ⟨_, _, _, rfl, e, d⟩
        · obtain ⟨u, v, rfl, ⟨t1, rfl⟩, ⟨t2, rfl⟩⟩ := q.two
          exact ih (by omega) (It.up k₃ (live_keeps Xt.live k₃) fun _ _ _ d => d) (R'.less (by omega)) g0 g1 g2 g3 h4
      refine ex_cons ?_
      refine ex_if2 X (b := L + 1 == R) (tst_eq (has_add ?_ (has_int _ _ _)) ?_) (fun hb s₃ X₃ k₃ => ?_) fun hb s₃ X₃ k₃ => ?_
      · walk_at "v"
      · walk_at "v"
      · refine ex_ret (T := tInt) (y := valD (n + 1) ds L R) X₃ (fun _ d => .inl d) (fun _ _ a b => ⟨a, b⟩) ?_
        have : valD (n + 1) ds L R = ds.getD L.toNat 0 := by unfold valD; rw [if_pos hb]
        rw [this]
        exact has_item (T := tInt) (xs := ds) (i := L) (by walk_at "v") (by walk_at "v") h0 (by omega) (getD_of 0 (by omega))
      · have hb' : ¬ L + 1 = R := by simpa using hb
        refine ex_nil (ex_cons ?_)
        refine ex_assign (T := tInt) (y := (L + R) / 2) X₃ (Has.val (x := (L + R).fdiv (2 ^ (1 : Int).toNat)) (has_shr (x := L + R) (y := 1) (has_add (x := L) (y := R) ?_ ?_) (has_int _ _ _) (by decide)) ?_) (own (by decide +kernel)) fun s₄ X₄ o₄ => ?_
        · walk_at "v"
        · walk_at "v"
        · rw [Int.fdiv_eq_ediv_of_nonneg _ (by decide)]; rfl
        refine ex_cons ?_
        refine ex_assign (T := tInt) (y := (L + R) / 2 - L) X₄ (Has.val (has_mul (x := (L + R) / 2 - L) (y := 1) (has_sub (x := (L + R) / 2) (y := L) ?_ ?_) ?_ (IntMulOk.of_right (by decide +kernel))) (Int.mul_one _)) (own (by decide +kernel)) fun s₅ X₅ o₅ => ?_
        · walk_at "v"
        · walk_at "v"
        · walk_at "v"
        refine ex_ret (T := tInt) (y := valD (n + 1) ds L R) X₅ (fun _ d => .inl d) (fun _ _ a b => ⟨a, b⟩) ?_
        have : valD (n + 1) ds L R = valD n ds ((L + R) / 2) R * 2 ^ ((L + R) / 2 - L).toNat + valD n ds L ((L + R) / 2) := by rw [valD, if_neg (by simpa using hb')]
        rw [this]
        obtain ⟨b1, b2⟩ := valD_bound ds hd n ((L + R) / 2) R (by omega) (by omega)
        have b3 : (2 : Int) ^ (R - (L + R) / 2).toNat ≤ 2 ^ 20 := by
          have := Nat.pow_le_pow_right (n := 2) (by decide) (show (R - (L + R) / 2).toNat ≤ 20 by omega)
          exact_mod_cast this
        refine has_add (has_shl (x := valD n ds ((L + R) / 2) R) (y := (L + R) / 2 - L) ?_ ?_ (by omega) (by omega) (by omega)) ?_
        · exact calls X₅ (by walk_at "nm") (by walk_at "v") (by walk_at "v") rfl rfl (by omega) (by omega) (by omega) (by omega)
        · walk_at "v"
        · exact calls X₅ (by walk_at "nm") (by walk_at "v") (by walk_at "v") rfl rfl (by omega) (by omega) (by omega) (by omega)

/-- a list's truth -/
theorem tst_list {x : Str} {px : Pos} {α : Type} {T : Ty α} {xs : List α} (he : Has prog w A D s (eval (.Name x px) env) (tList T) xs) (hl : xs.length ≤ 1000) : Tst prog w A D s (.Name x px) env (!xs.isEmpty) := fun s' k l =>
  isTrue_plain (wpAny_mono (he s' k l) (fun v s₁ h => by
    obtain ⟨k1, p, n, vs, rfl, d, hg, hp⟩ := h
    refine wpAny_truthy_list (isList_of hg) (by rw [List.size_toArray, hp.length]; omega) ⟨keeps_trans k1 (keeps_toks _ _), ?_⟩
    have := hp.length
    cases vs <;> cases xs <;> first | rfl | (simp at this)) fun _ _ e => e)

def d2iL (ds : List Int) : Int := if !ds.isEmpty then valD 20 ds 0 ds.length else 0

theorem walk_d2i (C : Cx g mg mb) (B : Bm g mg) {f5 : Value} {P : Addr} (F5 : TabAt4 g mg 5 f5 P) (gP : g.get? P = none) {A : Around} {D : Addr → Prop} {s : Shared} {ds : List Int} {u v : Value} (hd : ∀ i : Nat, 0 ≤ ds.getD i 0 ∧ ds.getD i 0 ≤ 1) (hlen : ds.length ≤ 20)
    (R : Rm A 30) (hg : Sub g s.heap) (hl : Live D s.heap) (hP : s.heap.get? P = some (tabObj #[])) (nP : ¬ D P) (hu : (tList tInt).is D s.heap u ds) (hv : tInt.is D s.heap v 1) :
    wpAny (model prog w) A (call f5 [u, v]) (fun r s' => (∃ ps, s'.heap.get? P = some (tabObj ps)) ∧ StepI [P] s s' ∧ tInt.is D s'.heap r (d2iL ds)) NE s := by
  refine wp_fn (k := 29) C.W hg hl F5.at R [("digits", u, ⟨tList tInt, ds⟩), ("n", v, ⟨tInt, 1⟩)] (fun _ _ _ => by rfl) ?_ (fun env hsc hcd R' own hnew s₂ X => ?_) ["digits", "n"] rfl (by decide +kernel) (by decide +kernel) (by decide +kernel)
  · intro t m
    rcases List.mem_cons.mp m with rfl | m
    · exact hu
    rcases List.mem_cons.mp m with rfl | m
    · exact hv
    cases m
  · obtain ⟨c, hcode, hhd⟩ := hcd P F5
    have hun := R'.units
    have K : Kinds (scopeOf (stOf P2 5)) env := kinds_of hsc
    have hPL : P ≠ env.locals := fun q => by rw [← q, hP] at hnew; cases hnew
    have kp := X.kp
    have hP₂ := keeps_get kp hP
    have X : Ex g (hid s P) (Plus D env.locals) env s₂ (upd (upd (fun _ => none) "n" ⟨tInt, 1⟩) "digits" ⟨tList tInt, ds⟩) := X.base keeps_hid (sub_hid hg gP)
    have own : ∀ {n : Str}, (scopeOf (stOf P2 5)).names.lookup n = some .local ∨ (scopeOf (stOf P2 5)).names.lookup n = some .cell → Own (hid s P) env n := fun h => (own _ h).base keeps_hid
    refine ex_cons ?_
    refine ex_def C B X hcode hhd hP₂ hid_none ?_ ?_ (own (by decide +kernel)) fun s₅ s₆ f st₅ hf clo₅ tab₅ X₅ X₆ ot₆ => ?_
    · rintro (d | d)
      · exact nP d
      · exact hPL d
    · intro y m e
      refine X.fm.cellOk y.1 (.inl (K.kd ?_ (by decide)))
      revert y
      decide +kernel
    have hfL : ∀ {b : Addr} {o : Obj}, s₅.heap.get? b = some o → (∀ es ep, o.data ≠ .dict es ep) → b ≠ env.locals := fun {b o} e n q => by
      obtain ⟨m, o', es, ep, e', d', _⟩ := X₅.fm.ns
      rw [q, e'] at e; cases e
      exact n _ _ d'
    have clo₆ : CloAt s₆.heap f "inner" (qualnameIn env "inner" "inner") (paramsOf (innerOf0 5)) (bodyOf (innerOf0 5)) (scopeOf (innerOf0 5)) (freeCells env.cells (scopeOf (innerOf0 5)).names []) := by
      obtain ⟨o, doc, pm, c1, ctv, e, d, c2, oc, vs, t, e1, e2, e3, e4⟩ := clo₅
      refine ⟨o, doc, pm, c1, ctv, ot₆.still _ _ e (hfL e fun _ _ q => by rw [d] at q; cases q) (fun v q => by rw [d] at q; cases q), d, c2, oc, vs, t, e1, ot₆.still _ _ e2 (hfL e2 fun _ _ q => by rw [e3] at q; cases q) (fun v q => by rw [e3] at q; cases q), e3, e4⟩
    have tab₆ : ∃ ps, s₆.heap.get? P = some (tabObj ps) := by
      obtain ⟨ps, e⟩ := tab₅
      exact ⟨ps, ot₆.still _ _ e hPL fun v q => by cases q⟩
    have fc : ∀ {x : Str} {e : Ent} {ρ' : Rho}, Ex g (hid s P) (Plus D env.locals) env s₆ ρ' → ρ' x = some e → (scopeOf (stOf P2 5)).names.lookup x = some .cell → (x, NameKind.free) ∈ (scopeOf (innerOf0 5)).names →
        ∃ c v, (freeCells env.cells (scopeOf (innerOf0 5)).names []).lookup x = some c ∧ s₆.heap.IsCell c (some v) ∧ e.T.is (Plus D env.locals) s₆.heap v e.y := fun X h hk hm => by
      obtain ⟨c, v, hc, hv, ht⟩ := cell_of K X h hk
      exact ⟨c, v, freeCells_of hm hc, hv, ht⟩
    have hlow : ∀ x, (scopeOf (innerOf0 5)).names.lookup x = some .free → x ∈ [Str.ofString "digits", Str.ofString "inner", Str.ofString "n"] := by
      intro x h
      have := mem_of_lookup h
      have k : ∀ y ∈ (scopeOf (innerOf0 5)).names, y.2 = .free → y.1 ∈ [Str.ofString "digits", Str.ofString "inner", Str.ofString "n"] := by decide +kernel
      exact k _ this rfl
    have I₆ : InD g (Plus D env.locals) f (qualnameIn env "inner" "inner") (freeCells env.cells (scopeOf (innerOf0 5)).names []) s₆ ds := by
      refine ⟨X₆.subs, X₆.live, clo₆, ?_, ?_, ?_, ⟨fun y c' e => X₆.fm.cells y c' (freeCells_some e), fun y z c' e e' => X₆.fm.apart y z c' (freeCells_some e) (freeCells_some e')⟩⟩
      · obtain ⟨c', v', h1, h2, h3⟩ := fc (x := "digits") (e := ⟨tList tInt, ds⟩) X₆ (by walk_at "nm") (by decide +kernel) (by decide +kernel)
        exact ⟨c', v', h1, h2, h3⟩
      · obtain ⟨c', v', h1, h2, h3⟩ := fc (x := "inner") (e := ⟨tVal, .ref f⟩) X₆ (by walk_at "nm") (by decide +kernel) (by decide +kernel)
        cases h3
        exact ⟨c', h1, h2⟩
      · obtain ⟨c', v', h1, h2, t, rfl⟩ := fc (x := "n") (e := ⟨tInt, 1⟩) X₆ (by walk_at "nm") (by decide +kernel) (by decide +kernel)
        exact ⟨c', t, h1, h2⟩
    have hall : ∀ x, (scopeOf (innerOf0 5)).names.lookup x = some .free → ∃ c, (freeCells env.cells (scopeOf (innerOf0 5)).names []).lookup x = some c := fun x h => by
      have m := hlow x h
      rcases List.mem_cons.mp m with rfl | m
      · exact let ⟨c, _, h, _⟩ := I₆.cD; ⟨c, h⟩
      rcases List.mem_cons.mp m with rfl | m
      · exact let ⟨c, h, _⟩ := I₆.cI; ⟨c, h⟩
      rcases List.mem_cons.mp m with rfl | m
      · exact let ⟨c, _, h, _⟩ := I₆.cN; ⟨c, h⟩
      cases m
    refine ex_cons ?_
    refine ex_return (P := fun h v => tInt.is (Plus D env.locals) h v (d2iL ds)) X₆ ?_ fun v' s₇ k₇ hv' => ?_
    · refine has_ifexp (T := tInt) (tst_list (T := tInt) (xs := ds) ?_ (by omega)) (fun hb => ?_) fun hb => ?_
      · walk_at "v"
      · have e : d2iL ds = valD 20 ds 0 ds.length := by unfold d2iL; rw [if_pos hb]
        rw [e]
        have hne : 0 < ds.length := by cases ds with | nil => cases hb | cons _ _ => simp
        refine hs_call (f := .ref f) ?_ ?_ (hsl_cons (T := tInt) (y := 0) (has_int _ _ _) (hsl_cons (T := tInt) (y := ds.length) (e_len C K X₆ (T := tInt) (xs := ds) ?_ (by omega)) hsl_nil (st1 rfl)) (st1 rfl)) (fun s₈ vs k₈ q => ?_) (nost2 rfl rfl)
        · walk_at "v"
        · obtain ⟨o, _, _, _, _, e, d, _⟩ := clo₆
          exact .inr ⟨_, _, _, rfl, e, d⟩
        · walk_at "v"
        · obtain ⟨u', v', rfl, ⟨t1, rfl⟩, ⟨t2, rfl⟩⟩ := q.two
          exact walk_inner2 C hd hall 20 (by omega) (I₆.up k₈ (live_keeps X₆.live k₈) fun _ _ _ d => d) (R'.less (by omega)) (by omega) (by omega) (by omega) (by omega) (by omega)
      · have e : d2iL ds = 0 := by unfold d2iL; rw [if_neg (by rw [hb]; decide)]
        rw [e]
        exact has_int _ _ _
    · obtain ⟨ps, eP⟩ := tab₆
      exact ⟨⟨ps, keeps_get k₇ eP⟩, stepI_hid (keeps_trans X₆.kp k₇), hv'⟩
end
end Mine

end
section

open PySem PySem.W PyProof.Rows PySem.Calls PySem.Challenge
namespace Mine

def pairsL (m : Int) : List (Int × Int) := (rangeL 0 m.toNat).flatMap fun other => ((rangeL 0 other.toNat).filter fun _ => true).map fun one => (one, other)
def lenP (m : Int) : Int := (pairsL m).length
def figsL (m N : Int) : List Int := (i2dL N ++ (List.replicate (lenP m).toNat [(0 : Int)]).flatten).take (lenP m).toNat
def tiesL (m N : Int) : List (Int × Int) := ((enumL 0 (pairsL m)).filter fun x => (figsL m N).getD x.1.toNat 0 == 1).map fun x => x.2
def nonL (ties : List (Int × Int)) (m : Int) : List (Int × Int) := (pairsL m).filter fun x => !tied ties x
def leastV (ties : List (Int × Int)) (counts : List Int) (m : Int) : Int := leastL ([2 * m] ++ (nonL ties m).map fun x => counts.getD x.1.toNat 0 + counts.getD x.2.toNat 0)
def bad1 (least rounds m : Int) (through : Bool) (counts : List Int) : Bool :=
  (decide (least ≥ m) && (rounds == 0)) || ((decide (2 * leastL counts ≥ m) && (rounds == 0)) || (decide (least ≥ m - 1) && !through))
def bad2 (ties : List (Int × Int)) (rounds m : Int) (through : Bool) (counts : List Int) : Bool :=
  (rounds.fmod 2 == 1) || (decide (rounds > 0) && (decide ((ties.length : Int) < m) || (decide (leastL counts < 2) || !through)))
def bad3 (ties : List (Int × Int)) (rounds m : Int) (counts : List Int) (pair : Int × Int) : Bool :=
  decide (counts.getD pair.1.toNat 0 + counts.getD pair.2.toNat 0 ≥ m) && (decide ((waysL (ties ++ [pair]) m).1 > 0) != decide (rounds > 0))
def prodL (m : Int) : Int := (rangeL 1 (m - 1).toNat).foldl (fun p k => p * k) 1
def fin (ties : List (Int × Int)) (rounds m : Int) : Bool := decide (rounds ≤ prodL m) && (decide ((ties.length : Int) < (pairsL m).length) || (rounds == prodL m))

/-- what the plain law says of one case -/
structure Fine (m N : Int) : Prop where
  m3 : 3 ≤ m
  m5 : m ≤ 5
  n0 : 0 ≤ N
  n1 : N < 2 ^ 20
  bit : Builtin.Int.intBits N ≤ 20
  pos : N ≠ 0 → 1 ≤ Builtin.Int.intBits N
  digs : ∀ i : Nat, 0 ≤ (figsL m N).getD i 0 ∧ (figsL m N).getD i 0 ≤ 1
  d2i : d2iL (figsL m N) = N
  fresh : freshC (rows0 m) (tiesL m N) = true
  sums : (countsL (tiesL m N) m).sum = 2 * (tiesL m N).length
  b1 : bad1 (leastV (tiesL m N) (countsL (tiesL m N) m) m) (waysL (tiesL m N) m).1 m (waysL (tiesL m N) m).2 (countsL (tiesL m N) m) = false
  b2 : bad2 (tiesL m N) (waysL (tiesL m N) m).1 m (waysL (tiesL m N) m).2 (countsL (tiesL m N) m) = false
  b3 : ∀ pair ∈ ((nonL (tiesL m N) m).map fun x => x).take 2, bad3 (tiesL m N) (waysL (tiesL m N) m).1 m (countsL (tiesL m N) m) pair = false
  good : fin (tiesL m N) (waysL (tiesL m N) m).1 m = true

theorem mem_pairsL {m : Int} {x : Int × Int} (h : x ∈ pairsL m) : 0 ≤ x.1 ∧ x.1 < m ∧ 0 ≤ x.2 ∧ x.2 < m := by
  obtain ⟨o, ho, hx⟩ := List.mem_flatMap.mp h
  obtain ⟨n, hn, rfl⟩ := List.mem_map.mp hx
  have h1 := mem_rangeL ho
  have h2 := mem_rangeL (List.mem_filter.mp hn).1
  dsimp only
  omega
theorem pairsL_len (m : Int) (h3 : 3 ≤ m) (h5 : m ≤ 5) : 3 ≤ (pairsL m).length ∧ (pairsL m).length ≤ 10 := by
  have : m = 3 ∨ m = 4 ∨ m = 5 := by omega
  rcases this with rfl | rfl | rfl <;> decide +kernel
theorem figsL_len (m N : Int) : (figsL m N).length = (pairsL m).length := by
  unfold figsL lenP
  rw [List.length_take, List.length_append, Int.toNat_natCast, List.length_flatten, List.map_replicate, List.sum_replicate_nat]
  simp
theorem enumL_mem {α : Type} : ∀ {l : List α} {i : Int} {x : Int × α}, x ∈ enumL i l → i ≤ x.1 ∧ x.1 < i + l.length ∧ x.2 ∈ l
  | [], _, _, h => nomatch h
  | y :: l, i, x, h => by
    cases h with
    | head => exact ⟨Int.le_refl _, by simp; omega, .head _⟩
    | tail _ h =>
      obtain ⟨a, b, c⟩ := enumL_mem h
      exact ⟨by omega, by simp at b ⊢; omega, .tail _ c⟩
theorem enumL_len {α : Type} : ∀ (l : List α) (i : Int), (enumL i l).length = l.length
  | [], _ => rfl
  | _ :: l, i => by rw [enumL, List.length_cons, List.length_cons, enumL_len l]
theorem tiesL_len (m N : Int) : (tiesL m N).length ≤ (pairsL m).length := by
  unfold tiesL
  rw [List.length_map]
  exact Nat.le_trans (List.length_filter_le _ _) (Nat.le_of_eq (enumL_len _ _))
theorem countsL_len (ties : List (Int × Int)) (m : Int) : (countsL ties m).length = m.toNat := by
  unfold countsL
  rw [List.length_map, filter_tt, foldC_len]
  unfold rows0
  rw [List.length_map, filter_tt, rangeL_len]
theorem pairs_sz (m : Int) (h3 : 3 ≤ m) (h5 : m ≤ 5) : ((rangeL 0 m.toNat).flatMap fun other => ((rangeL 0 other.toNat).filter fun _ => true).map fun one => (one, other)).length ≤ 10 := (pairsL_len m h3 h5).2
end Mine

end
section
set_option maxRecDepth 100000
open PySem PySem.W PyProof.Rows PySem.Calls PySem.Challenge
namespace Mine
local macro_rules | `(tactic| walk_at "nm") => `(tactic| repeat (first | with_reducible exact upd_here | with_reducible assumption | (with_reducible refine upd_there ?_ (by decide +kernel)) | (with_reducible refine pick_in ?_ (by decide +kernel))))
local macro_rules | `(tactic| walk_at "v") => `(tactic| (refine' has_name ?X ?h ?d; (case X => assumption); (case h => walk_at "nm"); (case d => decide +kernel)))
local macro_rules | `(tactic| walk_at "un") => `(tactic| first | omega | (have := Rm.units (by assumption); omega))
section
variable {prog : Program} {w : World} {A : Around} {D : Addr → Prop} {s s₁ s₀ : Shared} {g : Heap} {env : Env} {ρ : Rho} {mg mb : Str → Option Value}

def drawn (ns : List Int) : Int := (ns ++ [0]).getD 0 0
def manyOf (ns : List Int) : Int := 3 + ns.sum.fmod 3
def numberOf (ns : List Int) : Int := (if drawn ns < 0 then -drawn ns else drawn ns).fmod (2 ^ (lenP (manyOf ns)).toNat)

theorem walk_law (C : Cx g mg mb) (B : Bm g mg) {f1 f2 f4 f5 f7 f8 f9 f10 : Value} {P4 P5 : Addr} (F1 : DefAt P2 g mg 1 f1) (F2 : DefAt P2 g mg 2 f2) (F4 : TabAt4 g mg 4 f4 P4) (F5 : TabAt4 g mg 5 f5 P5) (F7 : DefAt P2 g mg 7 f7) (F8 : DefAt P2 g mg 8 f8) (F9 : DefAt P2 g mg 9 f9) (F10 : DefAt P2 g mg 10 f10)
    (g4 : g.get? P4 = none) (g5 : g.get? P5 = none) (h45 : P4 ≠ P5) {A : Around} {s : Shared} {v : Value} {ns : List Int} (R : Rm A 60) (hg : Sub g s.heap) (hP4 : s.heap.get? P4 = some (tabObj #[])) (hP5 : s.heap.get? P5 = some (tabObj #[]))
    (hl : ns.length ≤ 63) (hv : (tList tInt).is (fun _ => False) s.heap v ns) (fine : Fine (manyOf ns) (numberOf ns)) :
    wpAny (model prog w) A (call f10 [v]) (fun r s' => r = .bool true ∧ Keeps { s with heap := g } s' ∧ (∃ ps, s'.heap.get? P4 = some (tabObj ps)) ∧ ∃ ps, s'.heap.get? P5 = some (tabObj ps)) NE s := by
  refine wp_fn (k := 59) C.W hg (D := fun _ => False) (fun _ d => d.elim) F10 R [("script", v, ⟨tList tInt, ns⟩)] (fun _ _ _ => by rfl) ?_ (fun env hsc _ R' own hnew s₂ X => ?_) ["script"] rfl (by decide +kernel) (by decide +kernel) (by decide +kernel)
  · intro t m
    rcases List.mem_cons.mp m with rfl | m
    · exact hv
    cases m
  have hun := R'.units
  have hh := R'.handled
  have K : Kinds (scopeOf (stOf P2 10)) env := kinds_of hsc
  have hP4L : P4 ≠ env.locals := fun q => by rw [← q, hP4] at hnew; cases hnew
  have hP5L : P5 ≠ env.locals := fun q => by rw [← q, hP5] at hnew; cases hnew
  have kp := X.kp
  have kb : Keeps { s with heap := g } s := ⟨s.heap, s.toks, rfl, fun b o e => hg b o e⟩
  have own : ∀ {n : Str}, (scopeOf (stOf P2 10)).names.lookup n = some .local ∨ (scopeOf (stOf P2 10)).names.lookup n = some .cell → Own { s with heap := g } env n := fun h => (own _ h).base kb
  have X : Ex g { s with heap := g } (Plus (fun _ => False) env.locals) env s₂ (upd (fun _ => none) "script" ⟨tList tInt, ns⟩) := X.base kb (fun _ _ e => e)
  obtain ⟨hm, hN⟩ : (∃ m, manyOf ns = m) ∧ ∃ N, numberOf ns = N := ⟨⟨_, rfl⟩, _, rfl⟩
  obtain ⟨m, hm⟩ := hm
  obtain ⟨N, hN⟩ := hN
  have hN' := hN
  unfold numberOf at hN'
  rw [hm] at hN'
  rw [hm, hN] at fine
  have hpl := pairsL_len m fine.m3 fine.m5
  have m3 := fine.m3
  have m5 := fine.m5
  have hP4₂ := keeps_get kp hP4
  have hP5₂ := keeps_get kp hP5
  -- many
  refine ex_cons ?_
  refine ex_assign (T := tInt) (y := m) X (Has.val (has_add (has_int _ _ _) (has_mod (e_sum C K X hh ?_) (has_int _ _ _) (by decide))) hm) (own (by decide +kernel)) fun s₃ X₃ o₃ => ?_
  · walk_at "v"
  -- pairs
  refine ex_cons ?_
  refine ex_comp2 K (blockOf hsc) (T := tInt) (T' := tInt) (U := tEdge) (xs := rangeL 0 m.toNat) (fun other => rangeL 0 other.toNat) (fun _ _ => true) (fun other one => (one, other)) X₃ (i_range1 C K X₃ hh ?_ (by omega) (by omega)) (Nat.le_trans (pairs_sz m m3 m5) (by omega)) (fun x hx => ?_)
    (fun x hx env' s' D' t k' K' X' => i_range1 C K' X' hh ?_ ?_ ?_) (fun x hx y hy env' s' D' t k' K' X' => tests_none) (fun x hx y hy _ env' s' D' t k' K' X' => ?_) fun s₄ X₄ o₄ => ?_
  · walk_at "v"
  · have := mem_rangeL hx
    rw [rangeL_len]; omega
  · walk_at "v"
  · have := mem_rangeL hx; omega
  · have := mem_rangeL hx; omega
  · exact has_tuple2 (by walk_at "v") (by walk_at "v")
  have X₄ : Ex g { s with heap := g } (Plus (fun _ => False) env.locals) env s₄ (upd (upd (upd (fun _ => none) "script" ⟨tList tInt, ns⟩) "many" ⟨tInt, m⟩) "pairs" ⟨tList tEdge, pairsL m⟩) := X₄
  -- number
  refine ex_cons ?_
  have e0 : (ns ++ [0])[(0 : Int).toNat]? = some (drawn ns) := getD_of 0 (by simp)
  have hlen : ∀ {t : Shared} {ρ' : Rho} {px pp pos : Pos}, Ex g { s with heap := g } (Plus (fun _ => False) env.locals) env t ρ' → ρ' "pairs" = some ⟨tList tEdge, pairsL m⟩ → Has prog w (A.deeper env) (Plus (fun _ => False) env.locals) t (eval (.Call (.Name "len" px) [.Name "pairs" pp] [] pos) env) tInt (lenP m) := fun Xt hρ =>
    e_len C K Xt (T := tEdge) (xs := pairsL m) (has_name Xt hρ (by decide +kernel)) (by omega)
  refine ex_assign (T := tInt) (y := N) X₄ (Has.val (has_mod (e_abs C K X₄ (has_itemE (T := tInt) (xs := ns ++ [0]) (i := 0) (has_addlist (ys := [0]) ?_ (has_list1 (has_int _ _ _) rfl) (by simp; omega)) (has_int _ _ _) (by omega) (by omega) e0)) (has_pow2 (has_int _ _ _) (hlen X₄ ?_) ?_ ?_) ?_) hN') (own (by decide +kernel)) fun s₅ X₅ o₅ => ?_
  · walk_at "v"
  · walk_at "nm"
  · unfold lenP; omega
  · unfold lenP; omega
  · exact Int.ne_of_gt (Int.pow_pos (by decide))
  have still : ∀ {a b : Shared} {P : Addr} {ps : Array Value}, Others (Plus (fun _ => False) env.locals) env a b → P ≠ env.locals → a.heap.get? P = some (tabObj ps) → b.heap.get? P = some (tabObj ps) := fun o n e => o.still _ _ e n fun v q => by cases q
  have hP4₅ := still o₅ hP4L (still o₄ hP4L (still o₃ hP4L hP4₂))
  have hP5₅ := still o₅ hP5L (still o₄ hP5L (still o₃ hP5L hP5₂))
  have nP4 : ¬ Plus (fun _ => False) env.locals P4 := fun d => d.elim id hP4L
  have nP5 : ¬ Plus (fun _ => False) env.locals P5 := fun d => d.elim id hP5L
  -- figures
  refine ex_cons ?_
  refine wpAny_Assign_Name ?_ rfl
  refine Subscript_ (wpAny_BinOp ?_)
  refine wp_call2 (T := tInt) (U := tInt) (y := N) (z := 1) (f := f4) X₅.live ?_ (F4.at.callee.sub X₅.subs) ?_ (has_int _ _ _) fun s₆ u v' k₆ hu hv' => ?_
  · exact has_gl C K X₅ (by decide +kernel) F4.at.gl (by decide +kernel)
  · walk_at "v"
  have X₆ := X₅.up k₆
  refine wpAny_mono (walk_i2d C B F4 g4 fine.n0 fine.n1 fine.bit fine.pos (R'.less (by omega)) X₆.subs X₆.live (keeps_get k₆ hP4₅) nP4 hu hv') (fun r s₇ h => ?_) fun _ _ e => e
  obtain ⟨tab₇, st₇, hr⟩ := h
  obtain ⟨X₇, oth₇⟩ := X₆.tab st₇ (keeps_get k₆ hP4₅) g4 nP4
  have hP5₇ : s₇.heap.get? P5 = some (tabObj #[]) := stepI_get st₇ (fun q => h45 (List.mem_singleton.mp q).symm) (keeps_get k₆ hP5₅)
  have il : (i2dL N).length ≤ 20 := by rw [i2dL_len]; exact fine.bit
  have zl : (List.replicate (lenP m).toNat [(0 : Int)]).flatten.length ≤ 10 := by
    rw [List.length_flatten, List.map_replicate, List.sum_replicate_nat]; unfold lenP; simp; omega
  refine (has_mullist (T := tInt) (xs := [0]) (n := lenP m) (has_list1 (has_int _ _ _) rfl) (hlen X₇ (by walk_at "nm")) (by unfold lenP; omega) (by unfold lenP; omega) (by simp)).use X₇.live fun z s₈ k₈ hz => ?_
  refine (bin_addlist (T := tInt) ((tList tInt).mono (keeps_le k₈ _) hr) hz (by omega)).use (live_keeps X₇.live k₈) fun z2 s₉ k₉ hz2 => ?_
  have X₉ := X₇.up (keeps_trans k₈ k₉)
  refine wp_upto X₉.live hz2 (hlen X₉ (by walk_at "nm")) (by unfold lenP; omega) (by rw [List.length_append]; omega) fun z3 s₁₀ k₁₀ hz3 => ?_
  refine (X₉.up k₁₀).store (T := tList tInt) (y := figsL m N) (own (by decide +kernel)) hz3 fun s₁₁ X₁₁ o₁₁ => ?_
  have k710 := keeps_trans (keeps_trans k₈ k₉) k₁₀
  have tab₁₁ : ∃ ps, s₁₁.heap.get? P4 = some (tabObj ps) := by
    obtain ⟨ps, e⟩ := tab₇
    exact ⟨ps, still o₁₁ hP4L (keeps_get k710 e)⟩
  have hP5₁₁ := still o₁₁ hP5L (keeps_get k710 hP5₇)
  -- the figures told back
  refine ex_cons ?_
  refine wpAny_If ?_
  refine wpAny_isTrue_Compare1 ?_ rfl
  refine wp_call2 (T := tList tInt) (U := tInt) (y := figsL m N) (z := 1) (f := f5) X₁₁.live ?_ (F5.at.callee.sub X₁₁.subs) ?_ (has_int _ _ _) fun s₁₂ u v' k₁₂ hu hv' => ?_
  · exact has_gl C K X₁₁ (by decide +kernel) F5.at.gl (by decide +kernel)
  · walk_at "v"
  have X₁₂ := X₁₁.up k₁₂
  refine wpAny_mono (walk_d2i C B F5 g5 fine.digs (by rw [figsL_len]; omega) (R'.less (by omega)) X₁₂.subs X₁₂.live (keeps_get k₁₂ hP5₁₁) nP5 hu hv') (fun r s₁₃ h => ?_) fun _ _ e => e
  obtain ⟨tab₁₃, st₁₃, hr⟩ := h
  obtain ⟨X₁₃, oth₁₃⟩ := X₁₂.tab st₁₃ (keeps_get k₁₂ hP5₁₁) g5 nP5
  have tab4₁₃ : ∃ ps, s₁₃.heap.get? P4 = some (tabObj ps) := by
    obtain ⟨ps, e⟩ := tab₁₁
    exact ⟨ps, stepI_get st₁₃ (fun q => h45 (List.mem_singleton.mp q)) (keeps_get k₁₂ e)⟩
  refine Hs.use (P := fun h v => tInt.is (Plus (fun _ => False) env.locals) h v N) ?_ X₁₃.live fun z s₁₄ k₁₄ hz => ?_
  · walk_at "v"
  refine (cmp_ne (tInt.mono (keeps_le k₁₄ _) hr) hz).use (live_keeps X₁₃.live k₁₄) fun c s₁₅ k₁₅ hc => ?_
  cases hc
  refine wpAny_truthy_bool ?_
  rw [show (d2iL (figsL m N) != N) = false by rw [fine.d2i]; simp]
  refine ex_nil ?_
  have k1315 := keeps_trans k₁₄ k₁₅
  have X₁₅ := X₁₃.up k1315
  have t4 : ∃ ps, s₁₅.heap.get? P4 = some (tabObj ps) := let ⟨ps, e⟩ := tab4₁₃; ⟨ps, keeps_get k1315 e⟩
  have t5 : ∃ ps, s₁₅.heap.get? P5 = some (tabObj ps) := let ⟨ps, e⟩ := tab₁₃; ⟨ps, keeps_get k1315 e⟩
  -- ties
  refine ex_cons ?_
  refine ex_assign (T := tList tEdge) (y := tiesL m N) X₁₅ ?_ (own (by decide +kernel)) (fun s₁₆ X₁₆ o₁₆ => ?_) (swaps_no K (by decide +kernel))
  · refine e_compP K (T := tInt) (T' := tEdge) (U := tEdge) (xs := enumL 0 (pairsL m)) (fun x => (figsL m N).getD x.1.toNat 0 == 1) (fun x => x.2) hh X₁₅ (i_enum C K X₁₅ hh ?_) (by rw [enumL_len]; omega) (fun x hx env' s' D' t k' K' X' => tests_one (tst_eq ?_ (has_int _ _ _))) fun x hx _ env' s' D' t k' K' X' => ?_
    · walk_at "v"
    · have hx' := enumL_mem hx
      refine has_item (T := tInt) (xs := figsL m N) (i := x.1) ?_ ?_ (by omega) (by omega) (getD_of 0 (by rw [figsL_len]; omega))
      · walk_at "v"
      · walk_at "v"
    · walk_at "v"
  have tl := tiesL_len m N
  have fresh := fine.fresh
  have sums := fine.sums
  have b1 := fine.b1
  have b2 := fine.b2
  have b3 := fine.b3
  have good := fine.good
  generalize hT : tiesL m N = ties at X₁₆ tl fresh sums b1 b2 b3 good
  -- counts, rounds, through
  refine ex_cons ?_
  refine ex_assign_pat (T := tPair (tList tInt) (tPair tInt tBool)) (y := (countsL ties m, waysL ties m)) X₁₆ (has_tuple2 ?_ ?_ (by rfl)) (asg_two hh (asg_name (own (by decide +kernel))) (asg_pair hh (own (by decide +kernel)) (own (by decide +kernel))) (by rfl)) (fun s₁₇ X₁₇ o₁₇ => ?_) (hw := swapped_deep)
  · refine e_call2 (tList tEdge) ties tInt m C K X₁₆ F9.gl F9.callee ?_ ?_ fun t u v k hu hv => walk_counts C F1 F2 F9 (by omega) (by omega) fresh (R'.less (by omega)) (sub_keeps X₁₆.subs k) hu hv
    · walk_at "v"
    · walk_at "v"
  · refine e_call2 (tList tEdge) ties tInt m C K X₁₆ F8.gl F8.callee ?_ ?_ fun t u v k hu hv => walk_ways C F7 F8 (by omega) (by omega) (by omega) (R'.less (by omega)) (sub_keeps X₁₆.subs k) hu hv
    · walk_at "v"
    · walk_at "v"
  have cl := countsL_len ties m
  generalize hC : countsL ties m = counts at X₁₇ sums b1 b2 b3 good cl
  generalize hW : waysL ties m = W at X₁₇ b1 b2 b3 good
  obtain ⟨rounds, through⟩ := W
  dsimp only at b1 b2 b3 good
  have c₁₇ : Calm (Plus (fun _ => False) env.locals) s₁₅ s₁₇ := o₁₆.calm.trans o₁₇.calm
  have hh' : A.handled = none ∧ (A.deeper env).handled = none := ⟨R.handled, hh⟩
  have cget : ∀ i : Int, 0 ≤ i → i < m → counts[i.toNat]? = some (counts.getD i.toNat 0) := fun i h0 h1 => getD_of 0 (by omega)
  -- sum
  refine ex_cons ?_
  refine ex_if2 (b := counts.sum != 2 * (ties.length : Int)) X₁₇ (tst_ne (e_sum (xs := counts) C K X₁₇ hh ?_) (has_mul (has_int _ _ _) (e_len C K X₁₇ (T := tEdge) (xs := ties) ?_ (by omega)) (.of_left (by decide)))) (fun q => absurd q ?_) fun _ s₁₈ X₁₈ k₁₈ => ex_nil ?_
  · walk_at "v"
  · walk_at "v"
  · rw [sums]; simp
  -- least
  refine ex_cons ?_
  refine ex_assign (T := tInt) (y := leastV ties counts m) X₁₈ (e_min C K X₁₈ hh (has_addlist (xs := [2 * m]) (ys := (nonL ties m).map fun x => counts.getD x.1.toNat 0 + counts.getD x.2.toNat 0) (has_list1 (has_mul (has_int _ _ _) ?_ (.of_left (by decide))) rfl) ?_ ?_) (by simp)) (own (by decide +kernel)) fun s₁₉ X₁₉ o₁₉ => ?_
  · walk_at "v"
  · refine e_compP K (T := tInt) (T' := tInt) (U := tInt) (xs := pairsL m) (fun x => !tied ties x) (fun x => counts.getD x.1.toNat 0 + counts.getD x.2.toNat 0) hh X₁₈ (iters_list hh ?_) (by omega) (fun x hx env' s' D' t k' K' X' => tests_one (tst_notin (by omega) (has_tuple2 ?_ ?_) ?_)) fun x hx hp env' s' D' t k' K' X' => has_add ?_ ?_
    · walk_at "v"
    · walk_at "v"
    · walk_at "v"
    · walk_at "v"
    · have hx' := mem_pairsL hx
      refine has_item (T := tInt) (xs := counts) (i := x.1) ?_ ?_ (by omega) (by omega) (cget _ (by omega) (by omega))
      · walk_at "v"
      · walk_at "v"
    · have hx' := mem_pairsL hx
      refine has_item (T := tInt) (xs := counts) (i := x.2) ?_ ?_ (by omega) (by omega) (cget _ (by omega) (by omega))
      · walk_at "v"
      · walk_at "v"
  · have := List.length_filter_le (fun x => !tied ties x) (pairsL m)
    unfold nonL
    simp only [List.length_map, List.length_cons, List.length_nil]
    omega
  have c₁₉ := (c₁₇.trans (.keeps k₁₈)).trans o₁₉.calm
  -- the first test
  refine ex_cons ?_
  refine ex_if2 (b := bad1 (leastV ties counts m) rounds m through counts) X₁₉ (tst_orC (tst_and2 (tst_ge ?a1 ?a2) fun _ => tst_eq ?a3 (has_int _ _ _)) fun _ => tst_orC (tst_and2 (tst_ge (has_mul (has_int _ _ _) (e_min C K X₁₉ hh ?a4 ?a5) (.of_left (by decide))) ?a6) fun _ => tst_eq ?a7 (has_int _ _ _)) fun _ => tst_or1 (tst_and2 (tst_ge ?a8 (has_sub ?a9 (has_int _ _ _))) fun _ => tst_not (tst_bool ?a10))) (fun q => absurd q (by rw [b1]; simp)) fun _ s₂₀ X₂₀ k₂₀ => ex_nil ?_
  case a5 => omega
  case a1 => walk_at "v"
  case a2 => walk_at "v"
  case a3 => walk_at "v"
  case a4 => walk_at "v"
  case a6 => walk_at "v"
  case a7 => walk_at "v"
  case a8 => walk_at "v"
  case a9 => walk_at "v"
  case a10 => walk_at "v"
  -- the second test
  refine ex_cons ?_
  refine ex_if2 (b := bad2 ties rounds m through counts) X₂₀ (tst_or2 (tst_eq (has_mod ?a1 (has_int _ _ _) (by decide)) (has_int _ _ _)) fun _ => tst_and2 (tst_gt ?a2 (has_int _ _ _)) fun _ => tst_orC (tst_lt (e_len (T := tEdge) (xs := ties) C K X₂₀ ?a3 (by omega)) ?a4) fun _ => tst_orC (tst_lt (e_min C K X₂₀ hh ?a5 ?a6) (has_int _ _ _)) fun _ => tst_or1 (tst_not (tst_bool ?a7))) (fun q => absurd q (by rw [b2]; simp)) fun _ s₂₁ X₂₁ k₂₁ => ex_nil ?_
  case a6 => omega
  case a1 => walk_at "v"
  case a2 => walk_at "v"
  case a3 => walk_at "v"
  case a4 => walk_at "v"
  case a5 => walk_at "v"
  case a7 => walk_at "v"
  have c₂₁ := (c₁₉.trans (.keeps k₂₀)).trans (.keeps k₂₁)
  -- a tie more
  have X₂₁ : Ex g { s with heap := g } (Plus (fun _ => False) env.locals) env s₂₁ (upd (upd (upd (upd (upd (fun _ => none) "counts" ⟨tList tInt, counts⟩) "rounds" ⟨tInt, rounds⟩) "ties" ⟨tList tEdge, ties⟩) "pairs" ⟨tList tEdge, pairsL m⟩) "many" ⟨tInt, m⟩) := X₂₁.weak (((((RLe.none.upd (by walk_at "nm")).upd (by walk_at "nm")).upd (by walk_at "nm")).upd (by walk_at "nm")).upd (by walk_at "nm"))
  refine ex_cons ?_
  refine ex_for_st (T := tEdge) (β := Unit) (fun _ => _) (fun _ _ => True) (fun _ _ => ()) () X₂₁ trivial (fun _ _ _ _ _ _ => trivial) (xs := ((nonL ties m).map fun x => x).take (2 : Int).toNat) (iters_list hh (has_upto (xs := (nonL ties m).map fun x => x) ?_ (has_int _ _ _) (by decide) ?_)).f (asg_name (own (by decide +kernel))) ?_ ?_
  · refine e_compN K (T := tEdge) (U := tEdge) (xs := pairsL m) (fun x => !tied ties x) (fun x => x) X₂₁ (iters_list hh ?_) (by omega) (fun x hx env' s' D' t k' K' X' => tests_one (tst_notin (by omega) ?_ ?_)) fun x hx hp env' s' D' t k' K' X' => ?_
    · walk_at "v"
    · walk_at "v"
    · walk_at "v"
    · walk_at "v"
  · have := List.length_filter_le (fun x => !tied ties x) (pairsL m)
    unfold nonL
    simp only [List.length_map]
    omega
  · intro done x rem s₂₂ hx X₂₂ _ c₂₂
    have hm : x ∈ ((nonL ties m).map fun x => x).take 2 := by
      have : x ∈ ((nonL ties m).map fun x => x).take (2 : Int).toNat := by rw [hx]; simp
      exact this
    have hb := b3 x hm
    have hx' : x ∈ pairsL m := by
      have := List.mem_of_mem_take hm
      rw [List.map_id'] at this
      exact (List.mem_filter.mp this).1
    have hx' := mem_pairsL hx'
    refine ex_cons ?_
    refine ex_if2 (b := bad3 ties rounds m counts x) X₂₂ (tst_and2 (tst_ge (has_add (has_item (T := tInt) (xs := counts) (i := x.1) ?a1 (has_fst (T := tInt) (U := tInt) (p := x) ?a2 (has_int _ _ _)) (by omega) (by omega) (cget _ (by omega) (by omega))) (has_item (T := tInt) (xs := counts) (i := x.2) ?a3 (has_snd (T := tInt) (U := tInt) (p := x) ?a4 (has_int _ _ _)) (by omega) (by omega) (cget _ (by omega) (by omega)))) ?a5)
      fun _ => tst_neb (has_gt (has_fstE (T := tInt) (U := tBool) (p := waysL (ties ++ [x]) m) (e_call2 (tList tEdge) (ties ++ [x]) tInt m C K X₂₂ F8.gl F8.callee (has_addlist (xs := ties) (ys := [x]) ?a6 (has_list1 ?a7 rfl) (by simp; omega)) ?a8 fun t u v k hu hv => walk_ways C F7 F8 (by omega) (by omega) (by simp; omega) (R'.less (by omega)) (sub_keeps X₂₂.subs k) hu hv) (has_int _ _ _)) (has_int _ _ _)) (has_gt ?a9 (has_int _ _ _))) (fun q => absurd q (by rw [hb]; simp)) fun _ s₂₃ X₂₃ k₂₃ => ex_nil ?_
    case a1 => walk_at "v"
    case a2 => walk_at "v"
    case a3 => walk_at "v"
    case a4 => walk_at "v"
    case a5 => walk_at "v"
    case a6 => walk_at "v"
    case a7 => walk_at "v"
    case a8 => walk_at "v"
    case a9 => walk_at "v"
    refine ex_nil ⟨⟨_, X₂₃, ?_⟩, trivial, .keeps k₂₃⟩
    exact (((((RLe.none.upd (by walk_at "nm")).upd (by walk_at "nm")).upd (by walk_at "nm")).upd (by walk_at "nm")).upd (by walk_at "nm"))
  · intro s₂₂ X₂₂ _ c₂₂
    have c₂₂ := c₂₁.trans c₂₂
    -- the orders' count
    refine ex_cons ?_
    refine ex_assign (T := tInt) (y := 1) X₂₂ (has_int _ _ _) (own (by decide +kernel)) fun s₂₃ X₂₃ o₂₃ => ?_
    refine ex_cons ?_
    let R₀ : Int → Rho := fun p => upd (upd (upd (upd (upd (fun _ => none) "product" ⟨tInt, p⟩) "rounds" ⟨tInt, rounds⟩) "ties" ⟨tList tEdge, ties⟩) "pairs" ⟨tList tEdge, pairsL m⟩) "many" ⟨tInt, m⟩
    have X₂₃' : Ex g { s with heap := g } (Plus (fun _ => False) env.locals) env s₂₃ (R₀ 1) := X₂₃.weak (((((RLe.none.upd (by walk_at "nm")).upd (by walk_at "nm")).upd (by walk_at "nm")).upd (by walk_at "nm")).upd (by walk_at "nm"))
    refine ex_for_st (T := tInt) R₀ (fun _ _ => True) (fun p k => p * k) 1 X₂₃' trivial (fun _ _ _ _ _ _ => trivial) (xs := rangeL 1 (m - 1).toNat) (i_range2 C K X₂₃' hh (has_int _ _ _) ?_ (by omega) (by omega) (by omega)).f (asg_name (own (by decide +kernel))) ?_ ?_
    · walk_at "v"
    · intro done k rem s₂₄ hx X₂₄ _ c₂₄
      have hk := mem_rangeL (show k ∈ rangeL 1 (m - 1).toNat by rw [hx]; simp)
      refine ex_cons ?_
      refine ex_assign (T := tInt) (y := done.foldl (fun p k => p * k) 1 * k) X₂₄ (has_mul ?_ ?_ (.of_right (intBits_le_64 (by omega) (by omega)))) (own (by decide +kernel)) fun s₂₅ X₂₅ o₂₅ => ?_
      · walk_at "v"
      · walk_at "v"
      · exact ex_nil ⟨⟨_, X₂₅, ((((RLe.none.upd (by walk_at "nm")).upd (by walk_at "nm")).upd (by walk_at "nm")).upd (by walk_at "nm")).upd (by walk_at "nm")⟩, trivial, o₂₅.calm⟩
    · intro s₂₄ X₂₄ _ c₂₄
      have c₂₄ := (c₂₂.trans o₂₃.calm).trans c₂₄
      refine ex_cons (ex_return (P := fun h v => tBool.is (Plus (fun _ => False) env.locals) h v (fin ties rounds m)) X₂₄ ?_ fun v s' k hv => ?_) rfl
      rotate_left
      · rw [good] at hv
        refine ⟨hv, keeps_trans X₂₄.kp k, ?_, ?_⟩
        · obtain ⟨ps, e⟩ := t4
          exact ⟨ps, keeps_get k (c₂₄.fields _ _ _ e rfl)⟩
        · obtain ⟨ps, e⟩ := t5
          exact ⟨ps, keeps_get k (c₂₄.fields _ _ _ e rfl)⟩
      · refine has_and (has_le ?_ (Has.val (x := (rangeL 1 (m - 1).toNat).foldl (fun p k => p * k) 1) ?_ rfl)) fun _ => has_and1 (has_or (has_lt (e_len (T := tEdge) (xs := ties) C K X₂₄ ?_ (by omega)) (e_len (T := tEdge) (xs := pairsL m) C K X₂₄ ?_ (by omega))) (has_eq ?_ (Has.val (x := (rangeL 1 (m - 1).toNat).foldl (fun p k => p * k) 1) ?_ rfl)))
        · walk_at "v"
        · walk_at "v"
        · walk_at "v"
        · walk_at "v"
        · walk_at "v"
        · walk_at "v"
end
end Mine

end
section
set_option maxRecDepth 100000
open PySem PySem.W PyProof.Rows PySem.Calls PySem.Challenge
namespace Mine
/-- the place of a pair in the row of pairs -/
def ixP (e : Int × Int) : Nat := (e.2.toNat * (e.2.toNat - 1)) / 2 + e.1.toNat
/-- a within b, as sets of bits -/
def within (mask p : Nat) : Bool := Nat.beq (Nat.land mask p) p
theorem beq_iff {a b : Nat} : (Nat.beq a b = true) = (a = b) := propext ⟨Nat.eq_of_beq_eq_true, fun h => h ▸ Nat.beq_refl a⟩
theorem within_iff (mask p : Nat) : within mask p = true ↔ ∀ i, p.testBit i = true → mask.testBit i = true := by
  unfold within
  rw [beq_iff]
  constructor
  · intro h i hi
    have := congrArg (fun x => x.testBit i) h
    change (mask &&& p).testBit i = p.testBit i at this
    rw [Nat.testBit_and, hi] at this
    simpa using this
  · intro h
    refine Nat.eq_of_testBit_eq fun i => ?_
    change (mask &&& p).testBit i = p.testBit i
    rw [Nat.testBit_and]
    cases hp : p.testBit i with
    | true => simp [h i hp]
    | false => simp
theorem within_or (mask a b : Nat) : within mask (a ||| b) = (within mask a && within mask b) := by
  rw [Bool.eq_iff_iff, Bool.and_eq_true, within_iff, within_iff, within_iff]
  constructor
  · intro h
    exact ⟨fun i hi => h i (by rw [Nat.testBit_or, hi]; rfl), fun i hi => h i (by rw [Nat.testBit_or, hi]; simp)⟩
  · intro ⟨h1, h2⟩ i hi
    rw [Nat.testBit_or, Bool.or_eq_true] at hi
    exact hi.elim (h1 i) (h2 i)
theorem within_zero (mask : Nat) : within mask 0 = true := by
  rw [within_iff]
  intro i h
  rw [Nat.zero_testBit] at h
  cases h
theorem within_pow (mask i : Nat) : within mask (2 ^ i) = mask.testBit i := by
  rw [Bool.eq_iff_iff, within_iff]
  constructor
  · intro h
    exact h i (by rw [Nat.testBit_two_pow]; simp)
  · intro h j hj
    rw [Nat.testBit_two_pow] at hj
    exact of_decide_eq_true hj ▸ h
def pm (m : Int) (o : List Int) : Nat := (rangeL 1 (m - 1).toNat).foldr (fun k acc => 2 ^ ixP (lowHigh (o.getD (k - 1).toNat 0) (o.getD k.toNat 0)) ||| acc) 0
def good1 (m : Int) (o : List Int) : Bool := (rangeL 1 (m - 1).toNat).all fun k => (pairsL m).contains (lowHigh (o.getD (k - 1).toNat 0) (o.getD k.toNat 0))
theorem whole_pm {ties : List (Int × Int)} {m : Int} {mask : Nat} (H : ∀ e ∈ pairsL m, tied ties e = mask.testBit (ixP e)) {o : List Int} (g : good1 m o = true) : wholeL ties m o = within mask (pm m o) := by
  unfold wholeL pm
  unfold good1 at g
  generalize rangeL 1 (m - 1).toNat = ks at g
  induction ks with
  | nil => rw [List.foldr_nil, within_zero]; rfl
  | cons k r ih =>
    rw [List.all_cons, Bool.and_eq_true] at g
    rw [List.foldr_cons, within_or, within_pow, ← H _ (by simpa using g.1), ← ih g.2, List.filter_cons]
    cases tied ties (lowHigh (o.getD (k - 1).toNat 0) (o.getD k.toNat 0)) <;> simp
def cm (m : Int) (o : List Int) : Nat := pm m o ||| 2 ^ ixP (0, o.getLastD 0)
def countB : List Nat → Nat → Nat
  | [], _ => 0
  | p :: r, mask => cond (within mask p) (Nat.succ (countB r mask)) (countB r mask)
def anyB : List Nat → Nat → Bool
  | [], _ => false
  | p :: r, mask => cond (within mask p) true (anyB r mask)
def good2 (m : Int) (o : List Int) : Bool := good1 m o && (!(o.getD 0 0 == 0) || (pairsL m).contains (0, o.getLastD 0))
theorem ways_fold {ties : List (Int × Int)} {m : Int} {mask : Nat} (H : ∀ e ∈ pairsL m, tied ties e = mask.testBit (ixP e)) : ∀ (os : List (List Int)), os.all (good2 m) = true → ∀ (b : Int × Bool),
    os.foldl (stepW ties m) b = (b.1 + countB ((os.filter fun o => o.getD 0 0 == 0).map (cm m)) mask, b.2 || anyB (os.map (pm m)) mask)
  | [], _, b => by simp [countB, anyB]
  | o :: os, g, b => by
    rw [List.all_cons, Bool.and_eq_true] at g
    have g1 := g.1
    unfold good2 at g1
    rw [Bool.and_eq_true] at g1
    rw [List.foldl_cons, ways_fold H os g.2]
    have hw := whole_pm H g1.1
    have e1 : (stepW ties m b o).2 = (b.2 || within mask (pm m o)) := by unfold stepW; rw [hw]
    have e2 : (stepW ties m b o).1 = b.1 + (if (within mask (pm m o) && ((o.getD 0 0 == 0) && tied ties (0, o.getLastD 0))) then 1 else 0) := by unfold stepW; rw [hw]
    rw [e1, e2, List.filter_cons, List.map_cons]
    refine Prod.ext ?_ ?_
    · dsimp only
      cases h0 : (o.getD 0 0 == 0) with
      | false => simp
      | true =>
        have hc : (pairsL m).contains (0, o.getLastD 0) = true := by have := g1.2; rw [h0] at this; simpa using this
        rw [if_pos rfl, List.map_cons]
        rw [countB]
        unfold cm
        rw [within_or, within_pow, ← H _ (by simpa using hc)]
        cases within mask (pm m o) <;> cases tied ties (0, o.getLastD 0) <;> simp
        omega
    · dsimp only
      rw [anyB]
      cases within mask (pm m o) <;> simp
theorem ways_fast {ties : List (Int × Int)} {m : Int} {mask : Nat} (H : ∀ e ∈ pairsL m, tied ties e = mask.testBit (ixP e)) {cs ps : List Nat} (g : (ordersL m.toNat (rangeL 0 m.toNat)).all (good2 m) = true)
    (hc : ((ordersL m.toNat (rangeL 0 m.toNat)).filter fun o => o.getD 0 0 == 0).map (cm m) = cs) (hp : (ordersL m.toNat (rangeL 0 m.toNat)).map (pm m) = ps) : waysL ties m = ((countB cs mask : Int), anyB ps mask) := by
  unfold waysL
  rw [ways_fold H _ g, hc, hp]
  simp
end Mine

end
section
set_option maxRecDepth 100000
open PySem PySem.W PyProof.Rows PySem.Calls PySem.Challenge
namespace Mine
def bitsF : Nat → Nat → List Int
  | 0, _ => []
  | k + 1, n => cond (Nat.beq (n % 2) 1) 1 0 :: bitsF k (n / 2)
def tiesN : List (Int × Int) → Nat → List (Int × Int)
  | [], _ => []
  | e :: r, n => cond (Nat.beq (n % 2) 1) (e :: tiesN r (n / 2)) (tiesN r (n / 2))
theorem bit0 (n : Nat) : Nat.beq (n % 2) 1 = n.testBit 0 := by
  rw [Nat.testBit_zero, Bool.eq_iff_iff, beq_iff, decide_eq_true_eq]
theorem bits_getD : ∀ (k n j : Nat), j < k → (bitsF k n).getD j 0 = if n.testBit j then 1 else 0
  | 0, _, _, h => absurd h (Nat.not_lt_zero _)
  | k + 1, n, 0, _ => by
    rw [bitsF, bit0, List.getD_cons_zero]
    cases n.testBit 0 <;> rfl
  | k + 1, n, j + 1, h => by
    rw [bitsF, List.getD_cons_succ, bits_getD k _ j (by omega), Nat.testBit_succ]
theorem ties_go : ∀ (l : List (Int × Int)) (n : Nat) (i : Int) (fs : List Int), 0 ≤ i → (∀ j, j < l.length → fs.getD (i.toNat + j) 0 = if n.testBit j then 1 else 0) →
    ((enumL i l).filter fun x => fs.getD x.1.toNat 0 == 1).map (fun x => x.2) = tiesN l n
  | [], _, _, _, _, _ => rfl
  | e :: r, n, i, fs, h0, h => by
    have hh := h 0 (by simp)
    rw [Nat.add_zero] at hh
    have ih := ties_go r (n / 2) (i + 1) fs (by omega) fun j hj => by
      have := h (j + 1) (by simp; omega)
      rw [Nat.testBit_succ] at this
      rw [← this]
      congr 1
      omega
    rw [enumL, tiesN, List.filter_cons, bit0, ← ih]
    dsimp only
    rw [hh]
    cases n.testBit 0 <;> rfl
theorem ties_bits {m N : Int} (h : figsL m N = bitsF (pairsL m).length N.toNat) : tiesL m N = tiesN (pairsL m) N.toNat := by
  unfold tiesL
  rw [h]
  exact ties_go _ _ 0 _ (Int.le_refl _) fun j hj => by
    rw [Int.toNat_zero, Nat.zero_add]
    exact bits_getD _ _ _ hj
theorem mem_tiesN {e : Int × Int} : ∀ (l : List (Int × Int)) (n : Nat), e ∈ tiesN l n ↔ ∃ k : Nat, l[k]? = some e ∧ n.testBit k = true
  | [], n => by simp [tiesN]
  | x :: r, n => by
    rw [tiesN, bit0]
    have ih := mem_tiesN (e := e) r (n / 2)
    constructor
    · intro h
      have h' : (n.testBit 0 = true ∧ e = x) ∨ e ∈ tiesN r (n / 2) := by
        cases hb : n.testBit 0 with
        | true => rw [hb] at h; rcases List.mem_cons.mp h with h | h
                  · exact .inl ⟨rfl, h⟩
                  · exact .inr h
        | false => rw [hb] at h; exact .inr h
      rcases h' with ⟨hb, rfl⟩ | h
      · exact ⟨0, rfl, hb⟩
      · obtain ⟨k, h1, h2⟩ := ih.mp h
        exact ⟨k + 1, h1, by rw [Nat.testBit_succ]; exact h2⟩
    · intro ⟨k, h1, h2⟩
      cases k with
      | zero =>
        cases h1
        rw [h2]
        exact .head _
      | succ k =>
        have := ih.mpr ⟨k, h1, by rw [← Nat.testBit_succ]; exact h2⟩
        cases n.testBit 0 with
        | true => exact .tail _ this
        | false => exact this
/-- the pairs stand at their places -/
def placed (m : Int) : Bool := ((pairsL m).all fun e => (pairsL m)[ixP e]? == some e) && (List.range (pairsL m).length).all fun k => ((pairsL m)[k]?.map ixP) == some k
theorem at_place {m : Int} (p : placed m = true) {e : Int × Int} (h : e ∈ pairsL m) (k : Nat) : (pairsL m)[k]? = some e ↔ k = ixP e := by
  unfold placed at p
  rw [Bool.and_eq_true, List.all_eq_true, List.all_eq_true] at p
  constructor
  · intro q
    have hk : k < (pairsL m).length := (List.getElem?_eq_some_iff.mp q).1
    have := p.2 k (List.mem_range.mpr hk)
    rw [q] at this
    simpa using (by simpa using this : ixP e = k).symm
  · rintro rfl
    simpa using p.1 e h
theorem tied_mem (ties : List (Int × Int)) (e : Int × Int) : tied ties e = decide (e ∈ ties) := by
  unfold tied
  rw [Bool.eq_iff_iff, List.any_eq_true, decide_eq_true_eq]
  exact ⟨fun ⟨y, h, q⟩ => of_decide_eq_true q ▸ h, fun h => ⟨e, h, by simp⟩⟩
theorem tied_bits {m : Int} (p : placed m = true) (n : Nat) : ∀ e ∈ pairsL m, tied (tiesN (pairsL m) n) e = n.testBit (ixP e) := fun e h => by
  rw [tied_mem, Bool.eq_iff_iff, decide_eq_true_eq, mem_tiesN]
  constructor
  · intro ⟨k, h1, h2⟩
    rw [(at_place p h k).mp h1] at h2
    exact h2
  · intro q
    exact ⟨_, (at_place p h _).mpr rfl, q⟩
theorem tied_more {m : Int} (p : placed m = true) (n : Nat) {x : Int × Int} (hx : x ∈ pairsL m) : ∀ e ∈ pairsL m, tied (tiesN (pairsL m) n ++ [x]) e = (n ||| 2 ^ ixP x).testBit (ixP e) := fun e h => by
  have := tied_bits p n e h
  rw [tied_mem] at this ⊢
  rw [Nat.testBit_or, ← this, Nat.testBit_two_pow]
  have inj : ixP x = ixP e ↔ e = x := by
    constructor
    · intro q
      have a := (at_place p h _).mpr rfl
      rw [← q, (at_place p hx _).mpr rfl] at a
      cases a; rfl
    · rintro rfl; rfl
  rw [Bool.eq_iff_iff]
  simp only [List.mem_append, List.mem_singleton, decide_eq_true_eq, Bool.or_eq_true, inj]

/-- what is told for each number by counting on -/
def chkA (m : Int) (n : Nat) : Bool := (figsL m n == bitsF (pairsL m).length n) && ((d2iL (bitsF (pairsL m).length n) == n) && Nat.ble (Builtin.Int.intBits n) 20)
def chkB (m : Int) (n : Nat) : Bool := freshC (rows0 m) (tiesN (pairsL m) n) && ((countsL (tiesN (pairsL m) n) m).sum == 2 * (tiesN (pairsL m) n).length)
def bad3F (cs : List Nat) (n : Nat) (m : Int) (counts : List Int) (pair : Int × Int) : Bool :=
  decide (counts.getD pair.1.toNat 0 + counts.getD pair.2.toNat 0 ≥ m) && (decide ((countB cs (n ||| 2 ^ ixP pair) : Int) > 0) != decide ((countB cs n : Int) > 0))
def chkC (cs ps : List Nat) (m : Int) (n : Nat) : Bool :=
  !bad1 (leastV (tiesN (pairsL m) n) (countsL (tiesN (pairsL m) n) m) m) (countB cs n) m (anyB ps n) (countsL (tiesN (pairsL m) n) m) && (!bad2 (tiesN (pairsL m) n) (countB cs n) m (anyB ps n) (countsL (tiesN (pairsL m) n) m) &&
  (((nonL (tiesN (pairsL m) n) m).take 2).all (fun pair => !bad3F cs n m (countsL (tiesN (pairsL m) n) m) pair) && fin (tiesN (pairsL m) n) (countB cs n) m))
def chk (cs ps : List Nat) (m : Int) (n : Nat) : Bool := chkA m n && (chkB m n && chkC cs ps m n)
theorem intBits_pos {N : Int} (h : N ≠ 0) : 1 ≤ Builtin.Int.intBits N := by
  unfold Builtin.Int.intBits
  rw [if_neg (by simpa using h)]
  omega

theorem fine_of {cs ps : List Nat} {m : Int} {n : Nat} (m3 : 3 ≤ m) (m5 : m ≤ 5) (hn : n < 1024) (p : placed m = true) (g : (ordersL m.toNat (rangeL 0 m.toNat)).all (good2 m) = true)
    (hc : ((ordersL m.toNat (rangeL 0 m.toNat)).filter fun o => o.getD 0 0 == 0).map (cm m) = cs) (hp : (ordersL m.toNat (rangeL 0 m.toNat)).map (pm m) = ps) (h : chk cs ps m n = true) : Fine m n := by
  unfold chk chkA chkB chkC at h
  simp only [Bool.and_eq_true, beq_iff_eq, Bool.not_eq_true', List.all_eq_true] at h
  obtain ⟨⟨hf, hd, hb⟩, ⟨fr, sm⟩, b1, b2, b3, fi⟩ := h
  have ht := ties_bits (m := m) (N := n) hf
  rw [Int.toNat_natCast] at ht
  have hw := ways_fast (tied_bits p n) g hc hp
  constructor
  · exact m3
  · exact m5
  · omega
  · omega
  · exact Nat.le_of_ble_eq_true hb
  · exact intBits_pos
  · intro i
    rw [hf]
    by_cases hi : i < (pairsL m).length
    · rw [bits_getD _ _ _ hi]
      split <;> decide
    · rw [List.getD_eq_getElem?_getD, List.getElem?_eq_none (by
        have : ∀ k n, (bitsF k n).length = k := fun k => by
          induction k with
          | zero => intro n; rfl
          | succ k ih => intro n; rw [bitsF, List.length_cons, ih]
        rw [this]; omega)]
      decide
  · rw [hf]; exact hd
  · rw [ht]; exact fr
  · rw [ht]; exact sm
  · rw [ht, hw]; exact b1
  · rw [ht, hw]; exact b2
  · rw [ht, hw]
    intro pair hpair
    rw [List.map_id'] at hpair
    have := b3 pair hpair
    have hin : pair ∈ pairsL m := (List.mem_filter.mp (List.mem_of_mem_take hpair)).1
    unfold bad3
    rw [ways_fast (tied_more p n hin) g hc hp]
    exact this
  · rw [ht, hw]; exact fi
end Mine

end
section
set_option maxRecDepth 100000
open PySem PySem.W PyProof.Rows PySem.Calls PySem.Challenge
namespace Mine
def cs3 : List Nat := [7, 7]
def ps3 : List Nat := [5, 6, 3, 6, 3, 5]
def cs4 : List Nat := [45, 51, 30, 51, 30, 45]
def ps4 : List Nat := [37, 49, 22, 50, 28, 44, 35, 41, 14, 44, 26, 50, 19, 26, 13, 28, 41, 49, 13, 14, 19, 22, 35, 37]
def cs5 : List Nat := [613, 781, 369, 787, 425, 675, 598, 654, 242, 675, 410, 787, 348, 410, 236, 425, 654, 781, 236, 242, 348, 369, 598, 613]
def ps5 : List Nat := [549, 773, 305, 785, 417, 673, 534, 646, 178, 674, 402, 786, 284, 408, 172, 424, 652, 780, 228, 240, 340, 368, 596, 612, 547, 771, 297, 777, 353, 609, 526, 582, 108, 612, 332, 780, 282, 344, 114, 368, 594, 786, 226, 232, 394, 424, 650, 674, 531, 643, 154, 650, 210, 594, 525, 581, 92, 596, 204, 652, 169, 232, 113, 240, 609, 673, 337, 344, 393, 408, 777, 785, 269, 393, 142, 394, 204, 332, 275, 337, 86, 340, 210, 402, 163, 226, 101, 228, 353, 417, 581, 582, 643, 646, 771, 773, 101, 113, 86, 114, 92, 108, 163, 169, 142, 172, 154, 178, 275, 282, 269, 284, 297, 305, 525, 526, 531, 534, 547, 549]
theorem g3 : (ordersL ((3 : Int)).toNat (rangeL 0 ((3 : Int)).toNat)).all (good2 3) = true := by decide +kernel
theorem hc3 : ((ordersL ((3 : Int)).toNat (rangeL 0 ((3 : Int)).toNat)).filter fun o => o.getD 0 0 == 0).map (cm 3) = cs3 := by decide +kernel
theorem hp3 : (ordersL ((3 : Int)).toNat (rangeL 0 ((3 : Int)).toNat)).map (pm 3) = ps3 := by decide +kernel
theorem pl3 : placed 3 = true := by decide +kernel
theorem g4 : (ordersL ((4 : Int)).toNat (rangeL 0 ((4 : Int)).toNat)).all (good2 4) = true := by decide +kernel
theorem hc4 : ((ordersL ((4 : Int)).toNat (rangeL 0 ((4 : Int)).toNat)).filter fun o => o.getD 0 0 == 0).map (cm 4) = cs4 := by decide +kernel
theorem hp4 : (ordersL ((4 : Int)).toNat (rangeL 0 ((4 : Int)).toNat)).map (pm 4) = ps4 := by decide +kernel
theorem pl4 : placed 4 = true := by decide +kernel
theorem g5 : (ordersL ((5 : Int)).toNat (rangeL 0 ((5 : Int)).toNat)).all (good2 5) = true := by decide +kernel
theorem hc5 : ((ordersL ((5 : Int)).toNat (rangeL 0 ((5 : Int)).toNat)).filter fun o => o.getD 0 0 == 0).map (cm 5) = cs5 := by decide +kernel
theorem hp5 : (ordersL ((5 : Int)).toNat (rangeL 0 ((5 : Int)).toNat)).map (pm 5) = ps5 := by decide +kernel
theorem pl5 : placed 5 = true := by decide +kernel
theorem from_chunk {f : Nat → Bool} {a k n : Nat} (h : ((List.range' a k).all f) = true) (h1 : a ≤ n) (h2 : n < a + k) : f n = true :=
  List.all_eq_true.mp h n (List.mem_range'_1.mpr ⟨h1, h2⟩)
theorem k3_0 : ((List.range' 0 8).all fun n => chk cs3 ps3 3 n) = true := by decide +kernel
theorem all3 (n : Nat) (h : n < 8) : chk cs3 ps3 3 n = true := by
  exact from_chunk (f := fun n => chk cs3 ps3 3 n) k3_0 (by omega) (by omega)
theorem k4_0 : ((List.range' 0 64).all fun n => chk cs4 ps4 4 n) = true := by decide +kernel
theorem all4 (n : Nat) (h : n < 64) : chk cs4 ps4 4 n = true := by
  exact from_chunk (f := fun n => chk cs4 ps4 4 n) k4_0 (by omega) (by omega)
theorem k5_0 : ((List.range' 0 64).all fun n => chk cs5 ps5 5 n) = true := by decide +kernel
theorem k5_1 : ((List.range' 64 64).all fun n => chk cs5 ps5 5 n) = true := by decide +kernel
theorem k5_2 : ((List.range' 128 64).all fun n => chk cs5 ps5 5 n) = true := by decide +kernel
theorem k5_3 : ((List.range' 192 64).all fun n => chk cs5 ps5 5 n) = true := by decide +kernel
theorem k5_4 : ((List.range' 256 64).all fun n => chk cs5 ps5 5 n) = true := by decide +kernel
theorem k5_5 : ((List.range' 320 64).all fun n => chk cs5 ps5 5 n) = true := by decide +kernel
theorem k5_6 : ((List.range' 384 64).all fun n => chk cs5 ps5 5 n) = true := by decide +kernel
theorem k5_7 : ((List.range' 448 64).all fun n => chk cs5 ps5 5 n) = true := by decide +kernel
theorem k5_8 : ((List.range' 512 64).all fun n => chk cs5 ps5 5 n) = true := by decide +kernel
theorem k5_9 : ((List.range' 576 64).all fun n => chk cs5 ps5 5 n) = true := by decide +kernel
theorem k5_10 : ((List.range' 640 64).all fun n => chk cs5 ps5 5 n) = true := by decide +kernel
theorem k5_11 : ((List.range' 704 64).all fun n => chk cs5 ps5 5 n) = true := by decide +kernel
theorem k5_12 : ((List.range' 768 64).all fun n => chk cs5 ps5 5 n) = true := by decide +kernel
theorem k5_13 : ((List.range' 832 64).all fun n => chk cs5 ps5 5 n) = true := by decide +kernel
theorem k5_14 : ((List.range' 896 64).all fun n => chk cs5 ps5 5 n) = true := by decide +kernel
theorem k5_15 : ((List.range' 960 64).all fun n => chk cs5 ps5 5 n) = true := by decide +kernel
theorem all5 (n : Nat) (h : n < 1024) : chk cs5 ps5 5 n = true := by
  by_cases h0 : n < 64
  · exact from_chunk (f := fun n => chk cs5 ps5 5 n) k5_0 (by omega) (by omega)
  by_cases h1 : n < 128
  · exact from_chunk (f := fun n => chk cs5 ps5 5 n) k5_1 (by omega) (by omega)
  by_cases h2 : n < 192
  · exact from_chunk (f := fun n => chk cs5 ps5 5 n) k5_2 (by omega) (by omega)
  by_cases h3 : n < 256
  · exact from_chunk (f := fun n => chk cs5 ps5 5 n) k5_3 (by omega) (by omega)
  by_cases h4 : n < 320
  · exact from_chunk (f := fun n => chk cs5 ps5 5 n) k5_4 (by omega) (by omega)
  by_cases h5 : n < 384
  · exact from_chunk (f := fun n => chk cs5 ps5 5 n) k5_5 (by omega) (by omega)
  by_cases h6 : n < 448
  · exact from_chunk (f := fun n => chk cs5 ps5 5 n) k5_6 (by omega) (by omega)
  by_cases h7 : n < 512
  · exact from_chunk (f := fun n => chk cs5 ps5 5 n) k5_7 (by omega) (by omega)
  by_cases h8 : n < 576
  · exact from_chunk (f := fun n => chk cs5 ps5 5 n) k5_8 (by omega) (by omega)
  by_cases h9 : n < 640
  · exact from_chunk (f := fun n => chk cs5 ps5 5 n) k5_9 (by omega) (by omega)
  by_cases h10 : n < 704
  · exact from_chunk (f := fun n => chk cs5 ps5 5 n) k5_10 (by omega) (by omega)
  by_cases h11 : n < 768
  · exact from_chunk (f := fun n => chk cs5 ps5 5 n) k5_11 (by omega) (by omega)
  by_cases h12 : n < 832
  · exact from_chunk (f := fun n => chk cs5 ps5 5 n) k5_12 (by omega) (by omega)
  by_cases h13 : n < 896
  · exact from_chunk (f := fun n => chk cs5 ps5 5 n) k5_13 (by omega) (by omega)
  by_cases h14 : n < 960
  · exact from_chunk (f := fun n => chk cs5 ps5 5 n) k5_14 (by omega) (by omega)
  exact from_chunk (f := fun n => chk cs5 ps5 5 n) k5_15 (by omega) (by omega)
theorem fine_all {m N : Int} (h3 : 3 ≤ m) (h5 : m ≤ 5) (h0 : 0 ≤ N) (h1 : N < 2 ^ (lenP m).toNat) : Fine m N := by
  obtain ⟨n, rfl⟩ := Int.eq_ofNat_of_zero_le h0
  have : m = 3 ∨ m = 4 ∨ m = 5 := by omega
  rcases this with rfl | rfl | rfl
  · have e : (lenP 3).toNat = 3 := by decide +kernel
    rw [e] at h1
    exact fine_of (by decide) (by decide) (by omega) pl3 g3 hc3 hp3 (all3 n (by omega))
  · have e : (lenP 4).toNat = 6 := by decide +kernel
    rw [e] at h1
    exact fine_of (by decide) (by decide) (by omega) pl4 g4 hc4 hp4 (all4 n (by omega))
  · have e : (lenP 5).toNat = 10 := by decide +kernel
    rw [e] at h1
    exact fine_of (by decide) (by decide) (by omega) pl5 g5 hc5 hp5 (all5 n (by omega))
end Mine

end
section
set_option maxRecDepth 100000
open PySem PySem.W PyProof.Rows PySem.Calls PySem.Challenge
namespace Mine
/-- the i-th definition of a text, as the head writes it down -/
def posOf : Stmt → Pos
  | .FunctionDef _ _ _ _ _ _ _ _ _ p => p
  | _ => ⟨0, 0, 0, 0⟩
def recOf (p : Program) (i : Nat) : DefRec := ⟨nameOf (stOf p i), paramsOf (stOf p i), bodyOf (stOf p i), scopeOf (stOf p i), posOf (stOf p i)⟩
def bnames : List Str := ["range", "enumerate", "len", "sum", "min", "max", "abs", "int", "list", "dict", "sorted"]
def freeOk (p : Program) (loose : List Str) : Bool := bnames.all fun x => !startupNames.contains x && (!loose.contains x && (!((recsOf p).map (·.name)).contains x && (!((litsOf p).map (·.1)).contains x && !((clssOf p loose).map (·.name)).contains x)))

section
variable {prog p : Program} {w : World} {loose : List Str} {mean : ExcName → Option Value} {mg mb : Str → Option Value} {h : Heap} {tabs : List (Addr × Addr)} {P : Program} {idx : List Nat}
theorem bt_top (T : Top p loose mean mg mb h) (hf : freeOk p loose = true) : Bt mg mb := by
  have fr : ∀ x ∈ bnames, ∀ v, x ≠ "__name__" → bootBuiltins x = some v → gl mg mb x = some v := fun x hx v hn hb => by
    have := List.all_eq_true.mp hf x hx
    simp only [Bool.and_eq_true, Bool.not_eq_true', List.contains_eq_mem, decide_eq_false_iff_not] at this
    obtain ⟨h1, h2, h3, h4, h5⟩ := this
    unfold gl
    rw [T.free x h1 h2 h3 h4 h5, T.builtins x hn, hb]
    rfl
  constructor <;> exact fr _ (by decide +kernel) _ (by decide +kernel) (by with_unfolding_all rfl)
theorem ghost_sub : Sub (ghostOf h tabs) h := fun _ _ e => of_hideAll _ e
theorem cx_top (hT : TabsAt tabs h) (T : Top p loose mean mg mb h) (hf : freeOk p loose = true) : Cx (ghostOf h tabs) mg mb :=
  ⟨⟨ghost_ns hT T.g, ghost_ns hT T.b, let ⟨mc, a, r⟩ := T.nolimit; ⟨mc, ghost_ns hT a, r⟩⟩, bt_top T hf⟩
theorem bm_top (hT : TabsAt tabs h) (T : Top p loose mean mg mb h) : Bm (ghostOf h tabs) mg :=
  let ⟨bm, ob, a1, a2, a3, a4, r⟩ := T.bmain; ⟨bm, ob, a1, a2, ghost_get hT a3 (fun q => by rw [q] at a4; cases a4), a4, r⟩
theorem coderec_ghost (hT : TabsAt tabs h) {cd : Value} {q : Str} (x : h.CodeRec cd q) : (ghostOf h tabs).CodeRec cd q := by
  obtain ⟨c, o, vs, t, e1, e2, e3, e4⟩ := x
  exact ⟨c, o, vs, t, e1, ghost_get hT e2 (fun q => by rw [q] at e3; cases e3; cases e4), e3, e4⟩
theorem def_top (hT : TabsAt tabs h) (T : Top p loose mean mg mb h) (hR : recsOf p = idx.map (recOf P)) {i : Nat} (hi : i ∈ idx) : ∃ f, DefAt P (ghostOf h tabs) mg i f := by
  obtain ⟨a, o, pm, code, doc, h1, h2, h3, h4⟩ := T.fn (recOf P i) (hR ▸ List.mem_map_of_mem hi)
  exact ⟨.ref a, h1, a, o, pm, code, doc, rfl, ghost_get hT h2 (fun q => by rw [q] at h3; cases h3), h3, coderec_ghost hT h4⟩
theorem tab_top {K : Frag} {c q : Addr} (hT : TabsAt tabs h) (T : Top p loose mean mg mb h) (X : K.In h) (hR : recsOf p = idx.map (recOf P)) {i : Nat} (hi : i ∈ idx) (ht : tabIn K (nameOf (stOf P i)) = some (c, q)) (hc : CodeHd (ghostOf h tabs) c q) :
    ∃ f, FnTab (ghostOf h tabs) mg (nameOf (stOf P i)) (paramsOf (stOf P i)) (bodyOf (stOf P i)) (scopeOf (stOf P i)) f q := by
  obtain ⟨a, o, pm, code, doc, h1, h2, h3, h4⟩ := T.fn (recOf P i) (hR ▸ List.mem_map_of_mem hi)
  have hcode : code = .ref c := law_code X T.g ht h1 h2 h3
  subst hcode
  exact ⟨.ref a, h1, a, o, pm, c, doc, rfl, ghost_get hT h2 (fun q => by rw [q] at h3; cases h3), h3, coderec_ghost hT h4, hc⟩
theorem script_top {Q : Params} {l : Addr} {vs : List Value} {ns : List Int} (x : Well Q h (.ref l) (ofPy (.list (ns.map PyData.int)))) (hL : h.IsList l vs.toArray) (hI : IntsAre vs ns) : (tList tInt).is (fun _ => False) h (.ref l) ns := by
  cases x with
  | list hg ha =>
    rename_i us
    obtain ⟨o, e, _, n, hd⟩ := hL
    rw [hg] at e; cases e
    have hus : us = vs := by
      have := congrArg (fun d : Data => match d with | .seq a _ => a.toList | _ => []) hd
      simpa using this
    subst hus
    exact ⟨l, 0, us, rfl, fun d => d, hg, intsAre_to hI⟩
theorem rm_caller : Rm callerA 60 := ⟨rfl, by decide +kernel, by decide +kernel⟩
end

theorem many_ok (ns : List Int) : 3 ≤ manyOf ns ∧ manyOf ns ≤ 5 := by
  unfold manyOf
  have h1 := Int.fmod_nonneg_of_pos ns.sum (b := 3) (by decide)
  have h2 := Int.fmod_lt_of_pos ns.sum (b := 3) (by decide)
  omega
theorem number_ok (ns : List Int) : 0 ≤ numberOf ns ∧ numberOf ns < 2 ^ (lenP (manyOf ns)).toNat := by
  have hp : (0 : Int) < 2 ^ (lenP (manyOf ns)).toNat := Int.pow_pos (by decide)
  unfold numberOf
  exact ⟨Int.fmod_nonneg_of_pos _ hp, Int.fmod_lt_of_pos _ hp⟩

theorem join02 {prog p : Program} {w : World} {loose : List Str} {mean : ExcName → Option Value} {mg mb : Str → Option Value} {s₁ : Shared} {K : Frag} {c4 P4 c5 P5 fa l : Addr} {vs : List Value} {ns : List Int} {Q : Params}
    (T : Top p loose mean mg mb s₁.heap) (X : K.In s₁.heap) (hR : recsOf p = [1, 2, 4, 5, 7, 8, 9, 10].map (recOf P2)) (hf : freeOk p loose = true) (hT : TabsAt [(c4, P4), (c5, P5)] s₁.heap) (h45 : P4 ≠ P5)
    (t4 : tabIn K (nameOf (stOf P2 4)) = some (c4, P4)) (t5 : tabIn K (nameOf (stOf P2 5)) = some (c5, P5)) (hm : mg "law" = some (.ref fa)) (x : Well Q s₁.heap (.ref l) (ofPy (.list (ns.map PyData.int)))) (hL : s₁.heap.IsList l vs.toArray) (hI : IntsAre vs ns) (h63 : ¬ (63 : Int) < ns.length) :
    wpAny (model prog w) callerA (call (.ref fa) [.ref l]) (fun r s' => r = .bool true ∧ Keeps { s₁ with heap := ghostOf s₁.heap [(c4, P4), (c5, P5)] } s' ∧ GrownAll [(c4, P4), (c5, P5)] s'.heap) NE s₁ := by
  have C := cx_top hT T hf
  have B := bm_top hT T
  have gc := ghost_code hT
  obtain ⟨f1, F1⟩ := def_top hT T hR (i := 1) (by decide)
  obtain ⟨f2, F2⟩ := def_top hT T hR (i := 2) (by decide)
  obtain ⟨f7, F7⟩ := def_top hT T hR (i := 7) (by decide)
  obtain ⟨f8, F8⟩ := def_top hT T hR (i := 8) (by decide)
  obtain ⟨f9, F9⟩ := def_top hT T hR (i := 9) (by decide)
  obtain ⟨f10, F10⟩ := def_top hT T hR (i := 10) (by decide)
  obtain ⟨f4, F4⟩ := tab_top hT T X hR (i := 4) (by decide) t4 gc.1
  obtain ⟨f5, F5⟩ := tab_top hT T X hR (i := 5) (by decide) t5 gc.2.1
  have e10 : f10 = .ref fa := by
    have := F10.nm
    rw [show nameOf (stOf P2 10) = "law" by decide +kernel, hm] at this
    exact (Option.some.inj this).symm
  subst e10
  have m := many_ok ns
  have n := number_ok ns
  refine wpAny_mono (walk_law C B F1 F2 F4 F5 F7 F8 F9 F10 (hideAll_none _ (.head _)) (hideAll_none _ (.tail _ (.head _))) h45 rm_caller ghost_sub (hT (c4, P4) (.head _)).2 (hT (c5, P5) (.tail _ (.head _))).2 (by omega) (script_top x hL hI) (fine_all m.1 m.2 n.1 n.2)) (fun r s' q => ?_) fun _ _ e => e
  exact ⟨q.1, q.2.1, q.2.2.1, q.2.2.2, trivial⟩
theorem good_end {c : ClaimW} {cl : Str → Option Addr} {mean : ExcName → Option Value} {args : List WData} {s₁ s' : Shared} {tabs : List (Addr × Addr)} {r : Value} (hT : TabsAt tabs s₁.heap) (h1 : ∀ cls, c.raises args cls = false) (h2 : c.post args (.bool true) args = true) (hg : s₁.gens = #[])
    (q : r = .bool true ∧ Keeps { s₁ with heap := ghostOf s₁.heap tabs } s' ∧ GrownAll tabs s'.heap) : GoodWG c cl mean args s₁ (.ok (.ret r)) s' := by
  obtain ⟨rfl, ⟨h', tk, rfl, hk⟩, gr⟩ := q
  have tab : ∀ b o, b ∈ tabs.map (·.2) → s₁.heap.get? b = some o → isCodeTable s₁.heap b ∧ o = tabObj #[] ∧ ∃ ps, h'.get? b = some (tabObj ps) := fun b o hb e => by
    obtain ⟨t, ht, rfl⟩ := List.mem_map.mp hb
    have here := (hT t ht).2
    rw [e] at here
    exact ⟨((hT t ht).1.tab (hT t ht).2).isCodeTable, Option.some.inj here, gr.get t ht⟩
  refine ⟨.inl ⟨_, .bool true, [], rfl, h1, .bool true, h2, fun _ => ⟨List.nodup_nil, fun a m => nomatch m⟩⟩, ⟨fun b o e => ?_, fun b o e => ?_⟩, rfl, .of_eq hg⟩
  · by_cases hb : b ∈ tabs.map (·.2)
    · obtain ⟨ht, rfl, ps, hp⟩ := tab b o hb e
      exact .inr (.inl ⟨ht, rfl, #[], ps, rfl, by rw [Array.empty_append]; exact hp⟩)
    · exact .inl (hk b o (ghost_ne e hb))
  · by_cases hb : b ∈ tabs.map (·.2)
    · obtain ⟨_, _, ps, hp⟩ := tab b o hb e
      exact ⟨_, hp⟩
    · exact ⟨o, hk b o (ghost_ne e hb)⟩
end Mine

end
set_option maxRecDepth 100000 in
set_option maxHeartbeats 8000000 in
theorem PySem.Challenge.cw_gm0002_02_holds : PySem.Challenge.rw_gm0002_02.Holds := by
  w_on
  o_law
  k_head
  (case hw => w_witness2)
  k_fill
  intro w s₀ s₁ mg mb G Y fa o pm cd doc dV kV ho hd hcd hD hmg hg args vals as hpre hlay hrd hwl hlo
  have KX := km_in_of Y
  km_tabs Y
  refine Ground.open G ?_
  intro T B D TE TW
  km_lay T hmg ho hd cd
  wrow_args hpre hlay hrd hwl hlo
  have hT7 : TabsAt [(34, 30), (41, 37)] s₁.heap := fun q m => hT9 q (by
    rcases List.mem_cons.mp m with rfl | m
    · exact .tail _ (.head _)
    · rcases List.mem_cons.mp m with rfl | m
      · exact .head _
      · cases m)
  refine wpAny_mono (Mine.join02 T KX (by kernel_rfl) (by kernel_rfl) hT7 (by decide) (by kernel_rfl) (by kernel_rfl) hmg (by assumption) (by assumption) (by assumption) (by assumption)) (fun r s' q => ?_) (fun _ _ e => e.elim)
  exact Mine.good_end hT7 (fun _ => rfl) (by kernel_rfl) hg q
