import PyProof.Rows.All
import Wide.All
import OpenK.AllK
import Wide.FinOn
import KE.BitLaws
import PySem.Challenge.RW_mg0004_01
set_option Elab.async false
set_option linter.unusedVariables false
section
open PySem PySem.W PyProof.Rows PySem.Calls
namespace Mine

theorem kp_refl (s : Shared) : Keeps s s := ⟨s.heap, s.toks, rfl, fun _ _ e => e⟩
theorem kp_trans {a b c : Shared} (h : Keeps a b) (k : Keeps b c) : Keeps a c := by
  obtain ⟨h1, t1, rfl, k1⟩ := h
  obtain ⟨h2, t2, rfl, k2⟩ := k
  exact ⟨h2, t2, rfl, fun b o e => k2 b o (k1 b o e)⟩
theorem kp_get {s s' : Shared} (h : Keeps s s') {b : Addr} {o : Obj} (e : s.heap.get? b = some o) : s'.heap.get? b = some o := by
  obtain ⟨h1, t1, rfl, k1⟩ := h
  exact k1 b o e
theorem kp_keep {s s' : Shared} (h : Keeps s s') : ∀ b o, s.heap.get? b = some o → s'.heap.get? b = some o := fun _ _ e => kp_get h e
theorem kp_tok (s : Shared) (t : Nat) : Keeps s { s with toks := t } := ⟨s.heap, t, rfl, fun _ _ e => e⟩
theorem kp_mk {s : Shared} {h : Heap} {t : Nat} (k : ∀ b o, s.heap.get? b = some o → h.get? b = some o) : Keeps s { s with heap := h, toks := t } := ⟨h, t, rfl, k⟩
theorem kp_push (s : Shared) (o : Obj) : Keeps s { s with heap := s.heap.push o } := ⟨_, s.toks, rfl, fun _ _ e => Heap.get?_push_of_some _ e⟩
theorem kp_ns {s s' : Shared} (h : Keeps s s') {L : Addr} {m} (n : s.heap.Ns L m) : s'.heap.Ns L m := n.keeps (kp_keep h)

/-- from any state that keeps all of s₀, the tree ends by itself, raises nothing, keeps all, and its value is told by P -/
def Ev {α : Type} (prog : Program) (w : World) (A : Around) (s₀ : Shared) (t : Sem α) (P : α → Shared → Prop) : Prop :=
  ∀ (s : Shared) (E : Value → Shared → Prop), Keeps s₀ s → wpAny (model prog w) A t (fun v s' => P v s' ∧ Keeps s s') E s

/-- an int, a text, a bool -/
def IsI (i : Int) (v : Value) : Prop := ∃ t, v = .int i t
def IsS (x : Str) (v : Value) : Prop := ∃ t, v = .str x t
def IsB (b : Bool) (v : Value) : Prop := v = .bool b

section
variable {prog : Program} {w : World} {A : Around} {s₀ : Shared} {env : Env}

theorem Ev.mono {α : Type} {t : Sem α} {P P' : α → Shared → Prop} (h : Ev prog w A s₀ t P) (hp : ∀ v s, Keeps s₀ s → P v s → P' v s) : Ev prog w A s₀ t P' :=
  fun s E k => wpAny_mono (h s E k) (fun v s' x => ⟨hp v s' (kp_trans k x.2) x.1, x.2⟩) fun _ _ x => x
theorem Ev.later {α : Type} {t : Sem α} {P : α → Shared → Prop} {s₁ : Shared} (h : Ev prog w A s₀ t P) (k : Keeps s₀ s₁) : Ev prog w A s₁ t P :=
  fun s E k' => h s E (kp_trans k k')
theorem Ev.use {α : Type} {t : Sem α} {P : α → Shared → Prop} {Q : α → Shared → Prop} {E : Value → Shared → Prop} (h : Ev prog w A s₀ t P) (hq : ∀ v s', Keeps s₀ s' → P v s' → Q v s') :
    wpAny (model prog w) A t Q E s₀ := wpAny_mono (h s₀ E (kp_refl _)) (fun v s' x => hq v s' x.2 x.1) fun _ _ x => x
theorem Ev.at {α : Type} {t : Sem α} {P : α → Shared → Prop} {Q : α → Shared → Prop} {E : Value → Shared → Prop} {s : Shared} (h : Ev prog w A s₀ t P) (k : Keeps s₀ s) (hq : ∀ v s', Keeps s s' → P v s' → Q v s') :
    wpAny (model prog w) A t Q E s := wpAny_mono (h s E k) (fun v s' x => hq v s' x.2 x.1) fun _ _ x => x
theorem Ev.of {α : Type} {t : Sem α} {P : α → Shared → Prop}
    (h : ∀ (s : Shared) (Q : α → Shared → Prop) (E : Value → Shared → Prop), Keeps s₀ s → (∀ v s', Keeps s s' → P v s' → Q v s') → wpAny (model prog w) A t Q E s) : Ev prog w A s₀ t P :=
  fun s E k => h s _ E k fun v s' k' p => ⟨p, k'⟩
theorem Ev.pure {α : Type} {a : α} {P : α → Shared → Prop} (h : ∀ s, Keeps s₀ s → P a s) : Ev prog w A s₀ (Pure.pure a) P := fun s E k => wpAny_pure ⟨h s k, kp_refl _⟩
theorem Ev.bind {α β : Type} {t : Sem α} {f : α → Sem β} {P : α → Shared → Prop} {P' : β → Shared → Prop} (h : Ev prog w A s₀ t P) (hf : ∀ v s₁, Keeps s₀ s₁ → P v s₁ → Ev prog w A s₁ (f v) P') :
    Ev prog w A s₀ (t >>= f) P' := fun s E k =>
  wpAny_bind (wpAny_mono (h s E k) (fun v s₁ x => wpAny_mono (hf v s₁ (kp_trans k x.2) x.1 s₁ E (kp_refl _)) (fun u s₂ y => ⟨y.1, kp_trans x.2 y.2⟩) fun _ _ x => x) fun _ _ x => x)

/-- constants -/
theorem ev_int {i : Int} {k : Nat} {pos : Pos} : Ev prog w A s₀ (eval (.Constant (.int i) k pos) env) (fun v _ => IsI i v) :=
  fun s E _ => wpAny_Constant_int ⟨⟨_, rfl⟩, kp_tok _ _⟩
theorem ev_str {x : Str} {k : Nat} {pos : Pos} : Ev prog w A s₀ (eval (.Constant (.str x) k pos) env) (fun v _ => IsS x v) :=
  fun s E _ => wpAny_Constant_str ⟨⟨_, rfl⟩, kp_tok _ _⟩
theorem ev_bool {b : Bool} {k : Nat} {pos : Pos} : Ev prog w A s₀ (eval (.Constant (.bool b) k pos) env) (fun v _ => IsB b v) :=
  fun s E _ => Constant_bool ⟨rfl, kp_refl _⟩

/-- names -/
theorem ev_loc {x : Str} {pos : Pos} {m : Str → Option Value} {v : Value} (n : s₀.heap.Ns env.locals m) (hv : m x = some v) (hk : env.scope.kind = .function := by rfl) (hl : env.kindOf x = some .local := by rfl)
    (hd : (x == ("__debug__" : Str)) = false := by decide) : Ev prog w A s₀ (eval (.Name x pos) env) (fun u _ => u = v) :=
  fun s E k => wpAny_Name (wpAny_loadName_local hk hl (kp_ns k n) hv ⟨rfl, kp_refl _⟩) hd
theorem ev_glob {x : Str} {pos : Pos} {mg : Str → Option Value} {v : Value} (n : s₀.heap.Ns env.globals mg) (hv : mg x = some v) (hk : env.scope.kind = .function := by rfl) (hl : env.kindOf x = some .globalImplicit := by rfl)
    (hd : (x == ("__debug__" : Str)) = false := by decide) : Ev prog w A s₀ (eval (.Name x pos) env) (fun u _ => u = v) :=
  fun s E k => Name_function_global hk hl (loadGlobal_global (kp_ns k n) hv ⟨rfl, kp_refl _⟩) hd
theorem ev_blt {x : Str} {pos : Pos} {mg mb : Str → Option Value} {v : Value} (n : s₀.heap.Ns env.globals mg) (hm : mg x = none) (nb : s₀.heap.Ns env.builtins mb) (hv : mb x = some v)
    (hk : env.scope.kind = .function := by rfl) (hl : env.kindOf x = some .globalImplicit := by rfl)
    (hd : (x == ("__debug__" : Str)) = false := by decide) : Ev prog w A s₀ (eval (.Name x pos) env) (fun u _ => u = v) :=
  fun s E k => Name_function_global hk hl (loadGlobal_builtin (kp_ns k n) hm (kp_ns k nb) hv ⟨rfl, kp_refl _⟩) hd

/-- two operands -/
theorem ev_op {l r : Expr} {op : Operator} {pos : Pos} {p1 p2 : Value → Prop} {P : Value → Shared → Prop} (h1 : Ev prog w A s₀ (eval l env) (fun v _ => p1 v)) (h2 : Ev prog w A s₀ (eval r env) (fun v _ => p2 v))
    (h3 : ∀ a b, p1 a → p2 b → Ev prog w A s₀ (binaryOp op a b) P) : Ev prog w A s₀ (eval (.BinOp l op r pos) env) P :=
  Ev.of fun s Q E k hQ => wpAny_BinOp (h1.at k fun a s₁ k₁ pa => h2.at (kp_trans k k₁) fun b s₂ k₂ pb => (h3 a b pa pb).at (kp_trans (kp_trans k k₁) k₂) fun v s₃ k₃ pv => hQ v s₃ (kp_trans (kp_trans k₁ k₂) k₃) pv)
theorem ev_cmp {l r : Expr} {op : CmpOp} {pos : Pos} {p1 p2 : Value → Prop} {P : Value → Shared → Prop} (h1 : Ev prog w A s₀ (eval l env) (fun v _ => p1 v)) (h2 : Ev prog w A s₀ (eval r env) (fun v _ => p2 v))
    (h3 : ∀ a b, p1 a → p2 b → Ev prog w A s₀ (compareOp op a b) P) (hm : behindInMarks op r = false := by with_unfolding_all rfl) : Ev prog w A s₀ (eval (.Compare l [op] [r] pos) env) P :=
  Ev.of fun s Q E k hQ => wpAny_Compare1 (h1.at k fun a s₁ k₁ pa => h2.at (kp_trans k k₁) fun b s₂ k₂ pb => (h3 a b pa pb).at (kp_trans (kp_trans k k₁) k₂) fun v s₃ k₃ pv => hQ v s₃ (kp_trans (kp_trans k₁ k₂) k₃) pv) hm

theorem ev_tok {t : Sem Value} {p : Value → Prop} {f : Nat → Value} (h : ∀ (s : Shared) (Q : Value → Shared → Prop) (E : Value → Shared → Prop), Q (f s.toks) { s with toks := s.toks + 1 } → wpAny (model prog w) A t Q E s) (hp : ∀ n, p (f n)) :
    Ev prog w A s₀ t (fun v _ => p v) := fun s E _ => h s _ E ⟨hp _, kp_tok _ _⟩
theorem ev_same {t : Sem Value} {p : Value → Prop} {v : Value} (h : ∀ (s : Shared) (Q : Value → Shared → Prop) (E : Value → Shared → Prop), Q v s → wpAny (model prog w) A t Q E s) (hp : p v) :
    Ev prog w A s₀ t (fun v _ => p v) := fun s E _ => h s _ E ⟨hp, kp_refl _⟩

theorem bim {op : CmpOp} (h : (op == .In || op == .NotIn) = false) (r : Expr) : behindInMarks op r = false := by
  cases r <;> simp [behindInMarks, h]

section
variable {a b : Int} {l r : Expr} {pos : Pos} (h1 : Ev prog w A s₀ (eval l env) (fun v _ => IsI a v)) (h2 : Ev prog w A s₀ (eval r env) (fun v _ => IsI b v))
include h1 h2
theorem ev_add : Ev prog w A s₀ (eval (.BinOp l .Add r pos) env) (fun v _ => IsI (a + b) v) :=
  ev_op h1 h2 fun _ _ ⟨_, e1⟩ ⟨_, e2⟩ => by subst e1 e2; exact ev_tok (fun s Q E h => add_int h) fun n => ⟨n, rfl⟩
theorem ev_sub : Ev prog w A s₀ (eval (.BinOp l .Sub r pos) env) (fun v _ => IsI (a - b) v) :=
  ev_op h1 h2 fun _ _ ⟨_, e1⟩ ⟨_, e2⟩ => by subst e1 e2; exact ev_tok (fun s Q E h => sub_int h) fun n => ⟨n, rfl⟩
theorem ev_mul (hm : IntMulOk a b) : Ev prog w A s₀ (eval (.BinOp l .Mult r pos) env) (fun v _ => IsI (a * b) v) :=
  ev_op h1 h2 fun _ _ ⟨_, e1⟩ ⟨_, e2⟩ => by subst e1 e2; exact ev_tok (fun s Q E h => mul_int h hm) fun n => ⟨n, rfl⟩
theorem ev_and : Ev prog w A s₀ (eval (.BinOp l .BitAnd r pos) env) (fun v _ => IsI (Builtin.bitAnd a b) v) :=
  ev_op h1 h2 fun _ _ ⟨_, e1⟩ ⟨_, e2⟩ => by subst e1 e2; exact ev_tok (fun s Q E h => and_int h) fun n => ⟨n, rfl⟩
theorem ev_or : Ev prog w A s₀ (eval (.BinOp l .BitOr r pos) env) (fun v _ => IsI (Builtin.bitOr a b) v) :=
  ev_op h1 h2 fun _ _ ⟨_, e1⟩ ⟨_, e2⟩ => by subst e1 e2; exact ev_tok (fun s Q E h => or_int h) fun n => ⟨n, rfl⟩
theorem ev_mod (hb : b ≠ 0) : Ev prog w A s₀ (eval (.BinOp l .Mod r pos) env) (fun v _ => IsI (a.fmod b) v) :=
  ev_op h1 h2 fun _ _ ⟨_, e1⟩ ⟨_, e2⟩ => by subst e1 e2; exact ev_tok (fun s Q E h => mod_int hb h) fun n => ⟨n, rfl⟩
theorem ev_div (hb : b ≠ 0) (hp : b.natAbs < 1073741824) : Ev prog w A s₀ (eval (.BinOp l .FloorDiv r pos) env) (fun v _ => IsI (a.fdiv b) v) :=
  ev_op h1 h2 fun _ _ ⟨_, e1⟩ ⟨_, e2⟩ => by subst e1 e2; exact ev_tok (fun s Q E h => floordiv_int hb h (Or.inl (PyProof.noPylong_small hp))) fun n => ⟨n, rfl⟩
theorem ev_eqI : Ev prog w A s₀ (eval (.Compare l [.Eq] [r] pos) env) (fun v _ => IsB (a == b) v) :=
  ev_cmp h1 h2 (fun _ _ ⟨_, e1⟩ ⟨_, e2⟩ => by subst e1 e2; exact ev_same (fun s Q E h => eq_int h) rfl) (bim rfl r)
theorem ev_neI : Ev prog w A s₀ (eval (.Compare l [.NotEq] [r] pos) env) (fun v _ => IsB (a != b) v) :=
  ev_cmp h1 h2 (fun _ _ ⟨_, e1⟩ ⟨_, e2⟩ => by subst e1 e2; exact ev_same (fun s Q E h => ne_int h) rfl) (bim rfl r)
theorem ev_ltI : Ev prog w A s₀ (eval (.Compare l [.Lt] [r] pos) env) (fun v _ => IsB (decide (a < b)) v) :=
  ev_cmp h1 h2 (fun _ _ ⟨_, e1⟩ ⟨_, e2⟩ => by subst e1 e2; exact ev_same (fun s Q E h => lt_int h) rfl) (bim rfl r)
theorem ev_gtI : Ev prog w A s₀ (eval (.Compare l [.Gt] [r] pos) env) (fun v _ => IsB (decide (a > b)) v) :=
  ev_cmp h1 h2 (fun _ _ ⟨_, e1⟩ ⟨_, e2⟩ => by subst e1 e2; exact ev_same (fun s Q E h => gt_int h) rfl) (bim rfl r)
theorem ev_geI : Ev prog w A s₀ (eval (.Compare l [.GtE] [r] pos) env) (fun v _ => IsB (decide (a ≥ b)) v) :=
  ev_cmp h1 h2 (fun _ _ ⟨_, e1⟩ ⟨_, e2⟩ => by subst e1 e2; exact ev_same (fun s Q E h => ge_int h) rfl) (bim rfl r)
end
end
end Mine
end
section
open PySem PySem.W PyProof.Rows PySem.Calls
namespace Mine
section
variable {prog : Program} {w : World} {A : Around} {s₀ : Shared} {env : Env}

/-- tests -/
theorem ev_tcmp {l r : Expr} {op : CmpOp} {pos : Pos} {whole : Sem Value} {p1 p2 : Value → Prop} {c : Bool} (h1 : Ev prog w A s₀ (eval l env) (fun v _ => p1 v)) (h2 : Ev prog w A s₀ (eval r env) (fun v _ => p2 v))
    (h3 : ∀ a b, p1 a → p2 b → Ev prog w A s₀ (compareOp op a b) (fun v _ => IsB c v)) (hm : behindInMarks op r = false := by with_unfolding_all rfl) :
    Ev prog w A s₀ (isTrue (.Compare l [op] [r] pos) env whole) (fun b _ => b = c) :=
  Ev.of fun s Q E k hQ => wpAny_isTrue_Compare1 (h1.at k fun a s₁ k₁ pa => h2.at (kp_trans k k₁) fun b s₂ k₂ pb => (h3 a b pa pb).at (kp_trans (kp_trans k k₁) k₂) fun v s₃ k₃ pv => by
    cases pv; exact wpAny_truthy_bool (hQ c s₃ (kp_trans (kp_trans k₁ k₂) k₃) rfl)) hm
section
variable {a b : Int} {l r : Expr} {pos : Pos} {whole : Sem Value} (h1 : Ev prog w A s₀ (eval l env) (fun v _ => IsI a v)) (h2 : Ev prog w A s₀ (eval r env) (fun v _ => IsI b v))
include h1 h2
theorem ev_tEq : Ev prog w A s₀ (isTrue (.Compare l [.Eq] [r] pos) env whole) (fun c _ => c = (a == b)) :=
  ev_tcmp h1 h2 (fun _ _ ⟨_, e1⟩ ⟨_, e2⟩ => by subst e1 e2; exact ev_same (fun s Q E h => eq_int h) rfl) (bim rfl r)
theorem ev_tNe : Ev prog w A s₀ (isTrue (.Compare l [.NotEq] [r] pos) env whole) (fun c _ => c = (a != b)) :=
  ev_tcmp h1 h2 (fun _ _ ⟨_, e1⟩ ⟨_, e2⟩ => by subst e1 e2; exact ev_same (fun s Q E h => ne_int h) rfl) (bim rfl r)
theorem ev_tLt : Ev prog w A s₀ (isTrue (.Compare l [.Lt] [r] pos) env whole) (fun c _ => c = decide (a < b)) :=
  ev_tcmp h1 h2 (fun _ _ ⟨_, e1⟩ ⟨_, e2⟩ => by subst e1 e2; exact ev_same (fun s Q E h => lt_int h) rfl) (bim rfl r)
theorem ev_tGt : Ev prog w A s₀ (isTrue (.Compare l [.Gt] [r] pos) env whole) (fun c _ => c = decide (a > b)) :=
  ev_tcmp h1 h2 (fun _ _ ⟨_, e1⟩ ⟨_, e2⟩ => by subst e1 e2; exact ev_same (fun s Q E h => gt_int h) rfl) (bim rfl r)
theorem ev_tGe : Ev prog w A s₀ (isTrue (.Compare l [.GtE] [r] pos) env whole) (fun c _ => c = decide (a ≥ b)) :=
  ev_tcmp h1 h2 (fun _ _ ⟨_, e1⟩ ⟨_, e2⟩ => by subst e1 e2; exact ev_same (fun s Q E h => ge_int h) rfl) (bim rfl r)
theorem ev_tLe : Ev prog w A s₀ (isTrue (.Compare l [.LtE] [r] pos) env whole) (fun c _ => c = decide (a ≤ b)) :=
  ev_tcmp h1 h2 (fun _ _ ⟨_, e1⟩ ⟨_, e2⟩ => by subst e1 e2; exact ev_same (fun s Q E h => le_int h) rfl) (bim rfl r)
end
theorem ev_tval {e : Expr} {p : Value → Prop} {c : Bool} (h : Ev prog w A s₀ (eval e env) (fun v _ => p v)) (ht : ∀ v, p v → Ev prog w A s₀ (truthy v) (fun b _ => b = c))
    (he : isTrue e env (eval e env) = (do let v ← eval e env; standAt e.pos; holding [v] (truthy v)) := by rfl) : Ev prog w A s₀ (isTrue e env (eval e env)) (fun b _ => b = c) :=
  Ev.of fun s Q E k hQ => isTrue_plain (h.at k fun v s₁ k₁ pv => (ht v pv).at (kp_trans k k₁) fun b s₂ k₂ pb => hQ b s₂ (kp_trans k₁ k₂) pb) he
theorem ev_truB {b : Bool} : ∀ v, IsB b v → Ev prog w A s₀ (truthy v) (fun c _ => c = b) := by
  rintro v rfl s E k; exact wpAny_truthy_bool ⟨rfl, kp_refl _⟩
theorem ev_truI {i : Int} : ∀ v, IsI i v → Ev prog w A s₀ (truthy v) (fun c _ => c = (i != 0)) := by
  rintro v ⟨t, rfl⟩ s E k; exact PyProof.Rows.truthy_int ⟨rfl, kp_refl _⟩
theorem ev_tnot {e : Expr} {pos : Pos} {whole : Sem Value} {c : Bool} (h : Ev prog w A s₀ (isTrue e env (eval e env)) (fun b _ => b = c)) : Ev prog w A s₀ (isTrue (.UnaryOp .Not e pos) env whole) (fun b _ => b = !c) :=
  Ev.of fun s Q E k hQ => isTrue_not (h.at k fun b s₁ k₁ pb => hQ (!b) s₁ k₁ (by rw [pb]))
theorem ev_tand {e₁ e₂ : Expr} {pos : Pos} {whole : Sem Value} {c d : Bool} (h₁ : Ev prog w A s₀ (isTrue e₁ env (eval e₁ env)) (fun b _ => b = c)) (h₂ : c = true → Ev prog w A s₀ (isTrue e₂ env (eval e₂ env)) (fun b _ => b = d)) :
    Ev prog w A s₀ (isTrue (.BoolOp .And [e₁, e₂] pos) env whole) (fun b _ => b = (c && d)) :=
  Ev.of fun s Q E k hQ => isTrue_and (h₁.at k fun b s₁ k₁ pb => by
    subst pb
    cases b with
    | false => exact hQ _ s₁ k₁ rfl
    | true => exact isTrue_and ((h₂ rfl).at (kp_trans k k₁) fun b' s₂ k₂ pb' => by
        subst pb'
        cases b' with
        | false => exact hQ _ s₂ (kp_trans k₁ k₂) rfl
        | true => exact isTrue_and_nil (hQ _ s₂ (kp_trans k₁ k₂) rfl)))
theorem ev_tor {e₁ e₂ : Expr} {pos : Pos} {whole : Sem Value} {c d : Bool} (h₁ : Ev prog w A s₀ (isTrue e₁ env (eval e₁ env)) (fun b _ => b = c)) (h₂ : c = false → Ev prog w A s₀ (isTrue e₂ env (eval e₂ env)) (fun b _ => b = d)) :
    Ev prog w A s₀ (isTrue (.BoolOp .Or [e₁, e₂] pos) env whole) (fun b _ => b = (c || d)) :=
  Ev.of fun s Q E k hQ => isTrue_or (h₁.at k fun b s₁ k₁ pb => by
    subst pb
    cases b with
    | true => exact hQ _ s₁ k₁ rfl
    | false => exact isTrue_or ((h₂ rfl).at (kp_trans k k₁) fun b' s₂ k₂ pb' => by
        subst pb'
        cases b' with
        | true => exact hQ _ s₂ (kp_trans k₁ k₂) rfl
        | false => exact isTrue_or_nil (hQ _ s₂ (kp_trans k₁ k₂) rfl)))

theorem ev_ifexp {t b o : Expr} {pos : Pos} {c : Bool} {P : Value → Shared → Prop} (ht : Ev prog w A s₀ (isTrue t env (eval t env)) (fun b _ => b = c)) (h1 : c = true → Ev prog w A s₀ (eval b env) P) (h2 : c = false → Ev prog w A s₀ (eval o env) P) :
    Ev prog w A s₀ (eval (.IfExp t b o pos) env) P :=
  Ev.of fun s Q E k hQ => IfExp_ (ht.at k fun b' s₁ k₁ pb => by
    subst pb
    cases b' with
    | true => exact (h1 rfl).at (kp_trans k k₁) fun v s₂ k₂ pv => hQ v s₂ (kp_trans k₁ k₂) pv
    | false => exact (h2 rfl).at (kp_trans k k₁) fun v s₂ k₂ pv => hQ v s₂ (kp_trans k₁ k₂) pv)

/-- l ≤ x ≤ r of ints, as a value -/
theorem ev_chainLL {l m r : Expr} {pos : Pos} {a x b : Int} (h1 : Ev prog w A s₀ (eval l env) (fun v _ => IsI a v)) (h2 : Ev prog w A s₀ (eval m env) (fun v _ => IsI x v)) (h3 : Ev prog w A s₀ (eval r env) (fun v _ => IsI b v))
    (hm : lastMarks [.LtE, .LtE] [m, r] = false := by with_unfolding_all rfl) :
    Ev prog w A s₀ (eval (.Compare l [.LtE, .LtE] [m, r] pos) env) (fun v _ => IsB (decide (a ≤ x ∧ x ≤ b)) v) :=
  Ev.of fun s Q E k hQ => Compare_chain (h1.at k fun va s₁ k₁ pa => chain_link (h2.at (kp_trans k k₁) fun vx s₂ k₂ px => by
    obtain ⟨_, rfl⟩ := pa
    obtain ⟨_, rfl⟩ := px
    refine le_int (wpAny_truthy_bool ?_)
    by_cases hax : a ≤ x
    · rw [decide_eq_true hax]
      simp only [if_true]
      refine chain_last (h3.at (kp_trans (kp_trans k k₁) k₂) fun vb s₃ k₃ pb => ?_)
      obtain ⟨_, rfl⟩ := pb
      exact le_int (hQ _ s₃ (kp_trans (kp_trans k₁ k₂) k₃) (by simp [IsB, hax]))
    · rw [decide_eq_false hax]
      simp only [Bool.false_eq_true, if_false]
      exact hQ _ s₂ (kp_trans k₁ k₂) (by simp [IsB, hax]))) hm
/-- l ≤ x < r of ints, as a test -/
theorem ev_tchainLl {l m r : Expr} {pos : Pos} {whole : Sem Value} {a x b : Int} (h1 : Ev prog w A s₀ (eval l env) (fun v _ => IsI a v)) (h2 : Ev prog w A s₀ (eval m env) (fun v _ => IsI x v)) (h3 : Ev prog w A s₀ (eval r env) (fun v _ => IsI b v))
    (hm : lastMarks [.LtE, .Lt] [m, r] = false := by with_unfolding_all rfl) :
    Ev prog w A s₀ (isTrue (.Compare l [.LtE, .Lt] [m, r] pos) env whole) (fun c _ => c = decide (a ≤ x ∧ x < b)) :=
  Ev.of fun s Q E k hQ => isTrue_chain (h1.at k fun va s₁ k₁ pa => test_link (h2.at (kp_trans k k₁) fun vx s₂ k₂ px => by
    obtain ⟨_, rfl⟩ := pa
    obtain ⟨_, rfl⟩ := px
    refine le_int (wpAny_truthy_bool ?_)
    by_cases hax : a ≤ x
    · rw [decide_eq_true hax]
      simp only [if_true]
      refine test_last (h3.at (kp_trans (kp_trans k k₁) k₂) fun vb s₃ k₃ pb => ?_)
      obtain ⟨_, rfl⟩ := pb
      exact lt_int (wpAny_truthy_bool (hQ _ s₃ (kp_trans (kp_trans k₁ k₂) k₃) (by simp [hax])))
    · rw [decide_eq_false hax]
      simp only [Bool.false_eq_true, if_false]
      exact hQ _ s₂ (kp_trans k₁ k₂) (by simp [hax]))) hm

/-- calls -/
theorem ev_call1 {f : Str} {np pos : Pos} {e : Expr} {id : String} {P1 : Value → Shared → Prop} {P : Value → Shared → Prop} (hf : Ev prog w A s₀ (eval (.Name f np) env) (fun v _ => v = .builtin id))
    (h1 : Ev prog w A s₀ (eval e env) P1) (hc : ∀ v s₁, Keeps s₀ s₁ → P1 v s₁ → Ev prog w A s₁ (call (.builtin id) [v]) P)
    (he : starEach [e] env = (false, eval e env) :: starEach [] env := by rfl) : Ev prog w A s₀ (eval (.Call (.Name f np) [e] [] pos) env) P :=
  Ev.of fun s Q E k hQ => wpAny_Call_NameR (hf.at k fun vf s₁ k₁ pf => by
    subst pf
    refine callWith_builtin1 (spliced_more (h1.at (kp_trans k k₁) fun v s₂ k₂ pv => spliced_none ?_) he) he rfl
    exact (hc v s₂ (kp_trans (kp_trans k k₁) k₂) pv).use fun r s₃ k₃ pr => hQ r s₃ (kp_trans (kp_trans k₁ k₂) k₃) pr)
theorem ev_call2 {f : Str} {np pos : Pos} {e e' : Expr} {id : String} {p1 p2 : Value → Prop} {P : Value → Shared → Prop} (hf : Ev prog w A s₀ (eval (.Name f np) env) (fun v _ => v = .builtin id))
    (h1 : Ev prog w A s₀ (eval e env) (fun v _ => p1 v)) (h2 : Ev prog w A s₀ (eval e' env) (fun v _ => p2 v)) (hc : ∀ v u, p1 v → p2 u → Ev prog w A s₀ (call (.builtin id) [v, u]) P)
    (he : starEach [e, e'] env = (false, eval e env) :: starEach [e'] env := by rfl) (he' : starEach [e'] env = (false, eval e' env) :: starEach [] env := by rfl)
    (hp : (backTo pos (starEach [e'] env)).any (·.1) = false := by rfl) : Ev prog w A s₀ (eval (.Call (.Name f np) [e, e'] [] pos) env) P :=
  Ev.of fun s Q E k hQ => wpAny_Call_NameR (hf.at k fun vf s₁ k₁ pf => by
    subst pf
    refine callWith_builtin1 (spliced_more (h1.at (kp_trans k k₁) fun v s₂ k₂ pv => spliced_more (h2.at (kp_trans (kp_trans k k₁) k₂) fun u s₃ k₃ pu => spliced_none ?_) he') he) he hp
    exact (hc v u pv pu).at (kp_trans (kp_trans (kp_trans k k₁) k₂) k₃) fun r s₄ k₄ pr => hQ r s₄ (kp_trans (kp_trans (kp_trans k₁ k₂) k₃) k₄) pr)
theorem ev_callT {f : Str} {np pos : Pos} {e : Expr} {T : String} {P1 : Value → Shared → Prop} {P : Value → Shared → Prop} (hf : Ev prog w A s₀ (eval (.Name f np) env) (fun v _ => v = .type T))
    (h1 : Ev prog w A s₀ (eval e env) P1) (hc : ∀ v s₁, Keeps s₀ s₁ → P1 v s₁ → Ev prog w A s₁ (call (.type T) [v]) P)
    (he : starEach [e] env = (false, eval e env) :: starEach [] env := by rfl) : Ev prog w A s₀ (eval (.Call (.Name f np) [e] [] pos) env) P :=
  Ev.of fun s Q E k hQ => wpAny_Call_NameR (hf.at k fun vf s₁ k₁ pf => by
    subst pf
    rw [he]
    refine PySem.callWith_type rfl (evalArgs_plain (spliced_cons (h1.at (kp_trans k k₁) fun v s₂ k₂ pv => spliced_nil ?_)))
    exact (hc v s₂ (kp_trans (kp_trans k k₁) k₂) pv).use fun r s₃ k₃ pr => hQ r s₃ (kp_trans (kp_trans k₁ k₂) k₃) pr)
/-- a def of one argument -/
theorem ev_callF {f : Str} {np pos : Pos} {e : Expr} {a : Addr} {o : Obj} {fd : FuncData} {P1 : Value → Shared → Prop} {P : Value → Shared → Prop} (hf : Ev prog w A s₀ (eval (.Name f np) env) (fun v _ => v = .ref a)) (ho : s₀.heap.get? a = some o)
    (hd : o.data = .func fd) (h1 : Ev prog w A s₀ (eval e env) P1) (hc : ∀ v s₁, Keeps s₀ s₁ → P1 v s₁ → Ev prog w A s₁ (call (.ref a) [v]) P)
    (he : starEach [e] env = (false, eval e env) :: starEach [] env := by rfl) : Ev prog w A s₀ (eval (.Call (.Name f np) [e] [] pos) env) P :=
  Ev.of fun s Q E k hQ => wpAny_Call_NameR (hf.at k fun vf s₁ k₁ pf => by
    subst pf
    refine callWith_def hd (spliced_more (h1.at (kp_trans k k₁) fun v s₂ k₂ pv => spliced_none ⟨kp_get (kp_trans (kp_trans k k₁) k₂) ho, ?_⟩) he) he
    exact (hc v s₂ (kp_trans (kp_trans k k₁) k₂) pv).use fun r s₃ k₃ pr => hQ r s₃ (kp_trans (kp_trans k₁ k₂) k₃) pr)
theorem ev_callF2 {f : Str} {np pos : Pos} {e e' : Expr} {a : Addr} {o : Obj} {fd : FuncData} {p1 p2 : Value → Prop} {P : Value → Shared → Prop} (hf : Ev prog w A s₀ (eval (.Name f np) env) (fun v _ => v = .ref a)) (ho : s₀.heap.get? a = some o)
    (hd : o.data = .func fd) (h1 : Ev prog w A s₀ (eval e env) (fun v _ => p1 v)) (h2 : Ev prog w A s₀ (eval e' env) (fun v _ => p2 v)) (hc : ∀ v u, p1 v → p2 u → Ev prog w A s₀ (call (.ref a) [v, u]) P)
    (he : starEach [e, e'] env = (false, eval e env) :: starEach [e'] env := by rfl) (he' : starEach [e'] env = (false, eval e' env) :: starEach [] env := by rfl) : Ev prog w A s₀ (eval (.Call (.Name f np) [e, e'] [] pos) env) P :=
  Ev.of fun s Q E k hQ => wpAny_Call_NameR (hf.at k fun vf s₁ k₁ pf => by
    subst pf
    refine callWith_def hd (spliced_more (h1.at (kp_trans k k₁) fun v s₂ k₂ pv => spliced_more (h2.at (kp_trans (kp_trans k k₁) k₂) fun u s₃ k₃ pu => spliced_none ⟨kp_get (kp_trans (kp_trans (kp_trans k k₁) k₂) k₃) ho, ?_⟩) he') he) he
    exact (hc v u pv pu).at (kp_trans (kp_trans (kp_trans k k₁) k₂) k₃) fun r s₄ k₄ pr => hQ r s₄ (kp_trans (kp_trans (kp_trans k₁ k₂) k₃) k₄) pr)

/-- what the built-ins give -/
theorem ev_isiI {i : Int} {v : Value} (h : IsI i v) : Ev prog w A s₀ (call (.builtin "isinstance") [v, .type "str"]) (fun u _ => IsB false u) := by
  obtain ⟨t, rfl⟩ := h; exact fun s E _ => IsiPair.int_str ⟨rfl, kp_tok _ _⟩
theorem ev_isiS {x : Str} {v : Value} (h : IsS x v) : Ev prog w A s₀ (call (.builtin "isinstance") [v, .type "str"]) (fun u _ => IsB true u) := by
  obtain ⟨t, rfl⟩ := h; exact fun s E _ => IsiPair.str_str ⟨rfl, kp_refl _⟩
theorem ev_ord {c : Nat} {v : Value} (h : IsS ⟨#[c]⟩ v) : Ev prog w A s₀ (call (.builtin "ord") [v]) (fun u _ => IsI c u) := by
  obtain ⟨t, rfl⟩ := h; exact fun s E _ => PySem.P.ord_of_char ⟨⟨_, rfl⟩, kp_tok _ _⟩
theorem ev_chr {i : Int} {v : Value} (h : IsI i v) (h0 : 0 ≤ i) (h1 : i ≤ 1114111) : Ev prog w A s₀ (call (.builtin "chr") [v]) (fun u _ => IsS ⟨#[i.toNat]⟩ u) := by
  obtain ⟨t, rfl⟩ := h; exact fun s E _ => chr_of_range h0 h1 ⟨⟨_, rfl⟩, kp_tok _ _⟩
theorem ev_intI {i : Int} {v : Value} (h : IsI i v) : Ev prog w A s₀ (call (.type "int") [v]) (fun u _ => IsI i u) := by
  obtain ⟨t, rfl⟩ := h; exact fun s E _ => call_int_int ⟨⟨_, rfl⟩, kp_refl _⟩

theorem ev_addS {x y : Str} {l r : Expr} {pos : Pos} (h1 : Ev prog w A s₀ (eval l env) (fun v _ => IsS x v)) (h2 : Ev prog w A s₀ (eval r env) (fun v _ => IsS y v)) (hsz : x.length + y.length ≤ sizeLine) :
    Ev prog w A s₀ (eval (.BinOp l .Add r pos) env) (fun v _ => IsS (x ++ y) v) :=
  ev_op h1 h2 fun _ _ ⟨t, e1⟩ ⟨u, e2⟩ => by
    subst e1 e2
    intro s E _
    exact add_str (fun t' tk => ⟨⟨_, rfl⟩, kp_tok _ _⟩) hsz

/-- a def is entered -/
theorem ev_enter {a : Addr} {o : Obj} {fd : FuncData} {body : List Stmt} {vals : List Value} {binds : List (Str × Value)} {P : Value → Shared → Prop}
    (hroom : A.depth < recursionLimit) (ho : s₀.heap.get? a = some o) (hdata : o.data = .func fd) (hlim : s₀.heap.NoLimit) (hcd : s₀.heap.CodeRec fd.code fd.qualname)
    (hbody : fd.body = .stmts body) (hbind : bindArgs fd ⟨vals, []⟩ = pure binds)
    (hcell : ∀ x ∈ fd.scope.names, x.2 ≠ .cell) (hloc : ∀ x ∈ binds, fd.scope.names.lookup x.1 = some .local)
    (h : ∀ s L s₁, Keeps s₀ s → InCall s L (fun x => binds.reverse.lookup x) s₁ →
      wpAny (model prog w) (A.deeper (callEnv fd L a)) (execs body (callEnv fd L a)) (fun f s' => P (match f with | .ret v => v | _ => .none) s' ∧ Keeps s s') (fun _ _ => False) s₁)
    (hco : fd.scope.isCoroutine = false := by rfl) (hgen : fd.scope.isGenerator = false := by rfl) (hk : fd.scope.kind = .function := by rfl) :
    Ev prog w A s₀ (call (.ref a) vals) P := fun s E k =>
  wpAny_call (codeAny_call_straight hroom (kp_get k ho) hdata (hlim.keeps (kp_keep k)) (hcd.keeps (kp_keep k)) hbody hbind hcell hloc
    (fun s₁ x => wpAny_mono (h s _ s₁ k x) (fun f s' y => y) fun _ _ x => x.elim) hco hgen hk)

/-- the frame behind an expression -/
theorem InCall.kp {s c c' : Shared} {L : Addr} {m : Str → Option Value} (x : InCall s L m c) (k : Keeps c c') : InCall s L m c' := by
  obtain ⟨h', tk, rfl, kk⟩ := k
  obtain ⟨h, tk0, e⟩ := x.same
  exact ⟨⟨h', tk, by rw [e]⟩, x.ns.keeps kk, fun b o e => kk b o (x.keep b o e), x.fresh⟩
theorem InCall.keeps {s c : Shared} {L : Addr} {m : Str → Option Value} (x : InCall s L m c) : Keeps s c := x.done
def KeepsBut (L : Addr) (c c' : Shared) : Prop := ∀ b o, b ≠ L → c.heap.get? b = some o → c'.heap.get? b = some o
theorem st_store {s c : Shared} {L : Addr} {m : Str → Option Value} {x : Str} {v : Value} {Q : Unit → Shared → Prop} {E : Value → Shared → Prop} (i : InCall s L m c) (hL : env.locals = L)
    (h : ∀ c', InCall s L (fun y => if y = x then some v else m y) c' → KeepsBut L c c' → Q () c')
    (hl : env.kindOf x = some .local := by rfl) (hp : (env.scope.kind == .class || (env.scope.kind == .module && env.locals != env.globals)) = false := by rfl) :
    wpAny (model prog w) A (storeName env x v) Q E c := by
  subst hL
  refine wpAny_storeName_local hl i.ns (fun h' hn' hs' => h _ ⟨?_, hn', fun b o e => ?_, i.fresh⟩ fun b o hb e => hs'.extBut b o hb e) hp
  · obtain ⟨h₁, tk, rfl⟩ := i.same
    exact ⟨h', _, rfl⟩
  · exact hs'.extBut b o (Nat.ne_of_lt (Nat.lt_of_lt_of_le (Heap.lt_size e) i.fresh)) (i.keep b o e)
/-- x = e -/
theorem st_assign {s c : Shared} {L : Addr} {m : Str → Option Value} {x : Str} {px pos : Pos} {e : Expr} {rest : List Stmt} {P : Value → Shared → Prop} {Q : Flow → Shared → Prop} {E : Value → Shared → Prop} (i : InCall s L m c) (hL : env.locals = L)
    (he : Ev prog w A c (eval e env) P)
    (h : ∀ v c₁ c₂, Keeps c c₁ → P v c₁ → InCall s L (fun y => if y = x then some v else m y) c₂ → KeepsBut L c₁ c₂ → wpAny (model prog w) A (execs rest env) Q E c₂)
    (hs : swapsWith e (some (.Name x px)) pos.line env = pure false := by rfl)
    (hl : env.kindOf x = some .local := by rfl) (hp : (env.scope.kind == .class || (env.scope.kind == .module && env.locals != env.globals)) = false := by rfl) :
    wpAny (model prog w) A (execs (.Assign [.Name x px] e pos :: rest) env) Q E c :=
  wpAny_execs_cons (wpAny_Assign_Name (he.use fun v c₁ k₁ pv => st_store (InCall.kp i k₁) hL (fun c₂ i₂ kb => h v c₁ c₂ k₁ pv i₂ kb) hl hp) hs)
theorem st_ret {c : Shared} {e : Expr} {pos : Pos} {rest : List Stmt} {P : Value → Shared → Prop} {Q : Flow → Shared → Prop} {E : Value → Shared → Prop} (he : Ev prog w A c (eval e env) P) (h : ∀ v c', Keeps c c' → P v c' → Q (.ret v) c') :
    wpAny (model prog w) A (execs (.Return (some e) pos :: rest) env) Q E c :=
  wpAny_execs_cons (wpAny_Return_some (he.use fun v c' k pv => h v c' k pv))
theorem st_if {c : Shared} {t : Expr} {body orelse rest : List Stmt} {pos : Pos} {b : Bool} {Q : Flow → Shared → Prop} {E : Value → Shared → Prop} (ht : Ev prog w A c (isTrue t env (eval t env)) (fun d _ => d = b))
    (h1 : b = true → ∀ c', Keeps c c' → wpAny (model prog w) A (execs body env) (fun f s' => match f with | .next => wpAny (model prog w) A (execs rest env) Q E s' | f => Q f s') E c')
    (h2 : b = false → ∀ c', Keeps c c' → wpAny (model prog w) A (execs orelse env) (fun f s' => match f with | .next => wpAny (model prog w) A (execs rest env) Q E s' | f => Q f s') E c') :
    wpAny (model prog w) A (execs (.If t body orelse pos :: rest) env) Q E c :=
  wpAny_execs_cons (wpAny_If (ht.use fun d c' k pd => by
    subst pd
    cases d with
    | true => exact h1 rfl c' k
    | false => exact h2 rfl c' k))
end
end Mine
end
section
open PySem PySem.W PyProof.Rows PySem.Calls
namespace Mine
section
variable {prog : Program} {w : World} {A : Around} {s₀ : Shared} {env : Env}

theorem kp_ext {s : Shared} {h' : Heap} (e : Heap.ExtBut s.heap.objs.size s.heap h') : Keeps s { s with heap := h' } :=
  ⟨h', s.toks, rfl, fun b o g => e b o (Nat.ne_of_lt (Heap.lt_size g)) g⟩
theorem kb_kp {L : Addr} {a b : Shared} (h : Keeps a b) : KeepsBut L a b := fun _ _ _ e => kp_get h e
theorem kb_trans {L : Addr} {a b c : Shared} (h : KeepsBut L a b) (k : KeepsBut L b c) : KeepsBut L a c := fun x o n e => k x o n (h x o n e)

/-- x, y = e -/
theorem st_unpack2 {s c : Shared} {L : Addr} {m : Str → Option Value} {x y : Str} {px py tp pos : Pos} {k : Nat} {e : Expr} {rest : List Stmt} {p : Value → Value → Prop} {Q : Flow → Shared → Prop} {E : Value → Shared → Prop} (hh : A.handled = none)
    (i : InCall s L m c) (hL : env.locals = L) (he : Ev prog w A c (eval e env) (fun v c' => ∃ t a b, v = .ref t ∧ c'.heap.IsTuple t #[a, b] ∧ p a b))
    (h : ∀ a b c₂, p a b → InCall s L (fun z => if z = y then some b else if z = x then some a else m z) c₂ → KeepsBut L c c₂ → wpAny (model prog w) A (execs rest env) Q E c₂)
    (hs : swapsWithSole [.Tuple [.Name x px, .Name y py] k tp] e pos.line env = pure false := by rfl) (hw : swappedStores [.Tuple [.Name x px, .Name y py] k tp] e env = pure none := by rfl)
    (hl : env.kindOf x = some .local := by rfl) (hl' : env.kindOf y = some .local := by rfl) (hp : (env.scope.kind == .class || (env.scope.kind == .module && env.locals != env.globals)) = false := by rfl) :
    wpAny (model prog w) A (execs (.Assign [.Tuple [.Name x px, .Name y py] k tp] e pos :: rest) env) Q E c := by
  refine wpAny_execs_cons (Assign_Tuple (he.use fun v c₁ k₁ pv => ?_) hs hw)
  obtain ⟨t, a, b, rfl, ht, hab⟩ := pv
  refine wpAny_assign_Tuple hh ht rfl rfl fun h' ex => ?_
  have k₂ := kp_ext ex
  refine wpAny_assignInOrder_more (wpAny_assign_Name (st_store (InCall.kp (InCall.kp i k₁) k₂) hL (fun c₃ i₃ kb₃ => ?_) hl hp))
  refine wpAny_assignInOrder_more (wpAny_assign_Name (st_store i₃ hL (fun c₄ i₄ kb₄ => wpAny_assignInOrder_none ?_) hl' hp))
  exact h a b c₄ hab i₄ (kb_trans (kb_trans (kb_kp (kp_trans k₁ k₂)) kb₃) kb₄)

theorem ev_divmod {a b : Int} {v u : Value} (h1 : IsI a v) (h2 : IsI b u) (hb : b ≠ 0) (hs : b.natAbs < 1073741824) :
    Ev prog w A s₀ (call (.builtin "divmod") [v, u]) (fun r c => ∃ t x y, r = .ref t ∧ c.heap.IsTuple t #[x, y] ∧ IsI (a.fdiv b) x ∧ IsI (a.fmod b) y) := by
  obtain ⟨t, rfl⟩ := h1
  obtain ⟨t', rfl⟩ := h2
  intro s E _
  refine divmod_int hb ⟨⟨_, _, _, rfl, ⟨_, Heap.get?_push_size _ rfl, rfl, _, rfl⟩, ⟨_, rfl⟩, ⟨_, rfl⟩⟩, ⟨_, _, rfl, fun _ _ e => Heap.get?_push_of_some _ e⟩⟩ (Or.inl (PyProof.noPylong_small hs))
end
end Mine
end
section
open PySem PySem.W PyProof.Rows PySem.Calls
namespace Mine

/-- a live iterator that hands out n things, the i-th told by P; tgt: the target it is unpacked into -/
structure It (prog : Program) (w : World) (A : Around) (tgt : Expr) (I : Addr) (fp wr : List Addr) (n : Nat) (P : Nat → Value → Heap → Prop) (St : Nat → Heap → Prop) : Prop where
  sub : ∀ b ∈ wr, b ∈ fp
  frame : ∀ i h h', St i h → (∀ b ∈ fp, ∀ o, h.get? b = some o → h'.get? b = some o) → St i h'
  live : ∀ i h, St i h → ∀ b ∈ fp, ∃ o, h.get? b = some o
  item : ∀ i (s : Shared) (Q : Value → Shared → Prop) (E : Value → Shared → Prop), i < n → St i s.heap →
    (∀ v h' tk, P i v h' → St (i + 1) h' → (∀ b o, b ∉ wr → s.heap.get? b = some o → h'.get? b = some o) → Q v { s with heap := h', toks := tk }) →
    wpAny (model prog w) A (pyNext (.ref I)) (fun r s₁ => match r with | none => False | some v => wpAny (model prog w) A (letOwnedTupleGo tgt (.ref I) v) (fun _ s₂ => Q v s₂) E s₁) E s
  done : ∀ (s : Shared) (Q : Option Value → Shared → Prop) (E : Value → Shared → Prop), St n s.heap →
    (∀ h' tk, (∀ b o, b ∉ wr → s.heap.get? b = some o → h'.get? b = some o) → Q none { s with heap := h', toks := tk }) → wpAny (model prog w) A (pyNext (.ref I)) Q E s
  self : ∀ i (s : Shared) (Q : Value → Shared → Prop) (E : Value → Shared → Prop), St i s.heap → Q (.ref I) s → wpAny (model prog w) A (pyIter (.ref I)) Q E s

theorem It.ofWalks {prog : Program} {w : World} {A : Around} {x : Str} {px : Pos} {I : Addr} {fp wr : List Addr} {n : Nat} {P : Nat → Value → Prop} {St : Nat → Heap → Prop} (W : Walks prog w A I fp wr n P St)
    (hl : ∀ i h, St i h → ∀ b ∈ fp, ∃ o, h.get? b = some o) : It prog w A (.Name x px) I fp wr n (fun i v _ => P i v) St where
  sub := W.sub
  frame := W.frame
  live := hl
  item := fun i s Q E hi st hQ => W.item i s _ E hi st fun v h' tk p st' k => wpAny_pure (hQ v h' tk p st' k)
  done := W.done
  self := W.self

/-- the source of a loop: what its head evaluates to, iterated -/
def Src (prog : Program) (w : World) (A : Around) (tgt : Expr) (s₀ : Shared) (t : Sem Value) (n : Nat) (P : Nat → Value → Heap → Prop) (F : List Addr) : Prop :=
  ∀ (s : Shared) (E : Value → Shared → Prop), Keeps s₀ s → wpAny (model prog w) A t (fun x s₁ => wpAny (model prog w) A (pyIter x) (fun it s₂ => ∃ I fp wr St, it = .ref I ∧ It prog w A tgt I fp wr n P St ∧ St 0 s₂.heap ∧
    (∀ b ∈ wr, s.heap.get? b = none) ∧ Keeps s s₂ ∧ ∀ b ∈ fp, s₀.heap.get? b = none ∨ b ∈ F) E s₁) E s

theorem lts {h : Heap} {b : Addr} {o : Obj} (e : h.get? b = some o) : @LT.lt Nat instLTNat b h.objs.size := Heap.lt_size e
theorem neL {a b : Nat} (h : @LT.lt Nat instLTNat a b) : @Ne Addr a b := Nat.ne_of_lt h

section
variable {prog : Program} {w : World} {A : Around} {s₀ : Shared} {env : Env}

theorem codeAny_comp {elt target iter : Expr} {ifs : List Expr} {scope : Scope} {pos : Pos} {it acc : Value} {env : Env} {R : Result → Shared → Prop} {s : Shared} (J : Nat → Shared → Prop)
    (turn : ∀ n s, J n s → wpAny (model prog w) A (pyNext it) (fun r s₁ => match r with
      | none => R (.ok .next) s₁
      | some v => wpAny (model prog w) A (letOwnedTupleGo target it v) (fun _ s₁' => wpAny (model prog w) A (assign target env v) (fun _ s₂ =>
          wpAny (model prog w) A (forIn ifs true fun c r => if r = true then do let ok ← isTrue c env (eval c env); pure (ForInStep.yield ok) else pure (ForInStep.yield r)) (fun ok s₃ =>
            if ok = true then wpAny (model prog w) A (eval elt env) (fun x s₄ =>
              wpAny (model prog w) A (call (.builtin "list.append") [acc, x]) (fun _ s₅ => ∃ m, m < n ∧ J m s₅) (fun _ _ => False) s₄) (fun _ _ => False) s₃
            else ∃ m, m < n ∧ J m s₃) (fun _ _ => False) s₂) (fun _ _ => False) s₁') (fun _ _ => False) s₁) (fun _ _ => False) s)
    (n : Nat) (h : J n s) : codeAny (model prog w) A (.compLoop (.ListComp elt [⟨target, iter, ifs, 0⟩] scope pos) 0 it acc env) R s := by
  refine codeAny_loop rfl J (fun n s hI => ?_) n h
  show wpAny _ A ((compTurn (.ListComp elt [⟨target, iter, ifs, 0⟩] scope pos) 0 it acc env).onRaise (fun x => do noteFrame x env; theTreesLotGoes x)) _ _ s
  refine wpAny_noted ?_
  rw [compTurn_list]
  refine wpAny_bind (wpAny_standAt (wpAny_bind (wpAny_mono (turn n s hI) (fun r s₁ h₁ => ?_) fun _ _ h' => h'.elim)))
  cases r with
  | none => exact wpAny_pure h₁
  | some v =>
    refine wpAny_bind (wpAny_mono h₁ (fun _ s₁' h₁' => ?_) fun _ _ h' => h'.elim)
    refine wpAny_bind (wpAny_mono h₁' (fun _ s₂ h₂ => wpAny_bind (wpAny_mono h₂ (fun ok s₃ h₃ => ?_) fun _ _ h' => h'.elim)) fun _ _ h' => h'.elim)
    cases ok with
    | false => exact wpAny_pure ⟨rfl, h₃⟩
    | true =>
      exact wpAny_bind (wpAny_bind (wpAny_mono h₃ (fun x s₄ h₄ => wpAny_bind (wpAny_mono h₄ (fun _ s₅ h₅ => wpAny_pure (wpAny_pure ⟨rfl, h₅⟩)) fun _ _ h' => h'.elim)) fun _ _ h' => h'.elim))

/-- what the target's names are bound to -/
def Binds (prog : Program) (w : World) (A : Around) (tgt : Expr) (cenv : Addr → Env) (n : Nat) (P : Nat → Value → Heap → Prop) (T : Nat → (Str → Option Value) → Prop) : Prop :=
  ∀ (C : Addr) (i : Nat) (v : Value) (s : Shared) (m : Str → Option Value) (Q : Unit → Shared → Prop) (E : Value → Shared → Prop), i < n → P i v s.heap → s.heap.Ns C m →
    (∀ h' tk m', T i m' → h'.Ns C m' → (∀ b o, b ≠ C → s.heap.get? b = some o → h'.get? b = some o) → Q () { s with heap := h', toks := tk }) → wpAny (model prog w) A (assign tgt (cenv C) v) Q E s

theorem comp_core {target elt iter : Expr} {ifs : List Expr} {scope : Scope} {cl : List (Str × Addr)} {pos : Pos} {n : Nat} {P : Nat → Value → Heap → Prop} (T : Nat → (Str → Option Value) → Prop)
    (R : List Addr → Nat → List Value → Heap → Prop) {s s₂ : Shared} {E : Value → Shared → Prop} {I : Addr} {fp wr : List Addr} {St : Nat → Heap → Prop} {RR : Value → Addr → Result → Shared → Prop}
    (W : It prog w A target I fp wr n P St) (hst : St 0 s₂.heap) (hwr : ∀ b ∈ wr, s.heap.get? b = none) (k₂ : Keeps s s₂) (hsz : n ≤ sizeLine) (hbind : Binds prog w A target (fun C => compEnvC scope cl C env) n P T)
    (hR0 : ∀ X h, R X 0 [] h) (hmono : ∀ X i ys h h', R X i ys h → (∀ b o, b ∉ X → h.get? b = some o → h'.get? b = some o) → R X i ys h')
    (hturn : ∀ C X i s₁ m₁ ys, i < n → (∀ b o, s.heap.get? b = some o → s₁.heap.get? b = some o) → s₁.heap.Ns C m₁ → T i m₁ → R X i ys s₁.heap → (∀ b ∈ X, ∃ o, s₁.heap.get? b = some o) →
      ∃ ok : Bool, Ev prog w A s₁ (forIn ifs true fun c r => if r = true then do let ok ← isTrue c (compEnvC scope cl C env) (eval c (compEnvC scope cl C env)); pure (ForInStep.yield ok) else pure (ForInStep.yield r)) (fun b _ => b = ok) ∧
        (ok = false → ∀ h', (∀ b o, s₁.heap.get? b = some o → h'.get? b = some o) → R X (i + 1) ys h') ∧ (ok = true → Ev prog w A s₁ (eval elt (compEnvC scope cl C env)) (fun y s₂ => R X (i + 1) (ys ++ [y]) s₂.heap)))
    (hcell : ∀ y ∈ scope.names, y.2 ≠ .cell) (hkind : scope.kind = .function)
    (hRR : ∀ D C h' tk m' ys X, h'.Ns C m' → h'.PlainList D ys.toArray → R X n ys h' → C ∈ X → D ∈ X → D ≠ C → (∀ b ∈ X, s.heap.get? b = none) → (∀ b o, s.heap.get? b = some o → h'.get? b = some o) → RR (.ref D) C (.ok .next) { s₂ with heap := h', toks := tk }) :
    wpAny (model prog w) A (newList []) (fun acc s₃ => wpAny (model prog w) A (newFunctionEnv scope env.globals cl [] env.qual none .none (some env)) (fun cenv s₄ =>
      codeAny (model prog w) A (.compStart (.ListComp elt [⟨target, iter, ifs, 0⟩] scope pos) 0 (.ref I) acc { cenv with scope := relabel scope env }) (RR acc cenv.locals) s₄) E s₃) E s₂ := by
  refine wpAny_newObj_type (wpAny_newFunctionEnv hcell (by intro y hy; simp at hy) (fun h₁ hns₁ hsb₁ => ?_) hkind)
  dsimp only at hns₁ hsb₁ ⊢
  generalize hH2 : s₂.heap.push { cls := .type "list", dict := none, data := .seq ([] : List Value).toArray } = H2 at hns₁ hsb₁ ⊢
  obtain ⟨D, hDD⟩ : ∃ D : Nat, D = s₂.heap.objs.size := ⟨_, rfl⟩
  obtain ⟨C, hCC⟩ : ∃ C : Nat, C = H2.objs.size := ⟨_, rfl⟩
  rw [← hDD]
  rw [← hCC] at hns₁ hsb₁ ⊢
  have hC : C = D + 1 := by rw [hCC, hDD, ← hH2, Heap.size_push]
  have hDC : D ≠ C := by omega
  have hfp : ∀ b ∈ fp, @LT.lt Nat instLTNat b D := fun b hb => by obtain ⟨o, e⟩ := W.live _ _ hst b hb; rw [hDD]; exact Heap.lt_size e
  have ltD : ∀ b o, s₂.heap.get? b = some o → @LT.lt Nat instLTNat b D := fun b o e => by rw [hDD]; exact lts e
  have ltC : ∀ b o, s₂.heap.get? b = some o → @LT.lt Nat instLTNat b C := fun b o e => by have := ltD b o e; omega
  have old : ∀ b o, s₂.heap.get? b = some o → h₁.get? b = some o := fun b o e =>
    hsb₁.extBut b o (neL (ltC b o e)) (Heap.get?_push_of_some _ (hH2 ▸ Heap.get?_push_of_some _ e))
  have hacc : h₁.PlainList D #[] := ⟨_, hsb₁.extBut _ _ hDC (Heap.get?_push_of_some _ (hH2 ▸ hDD ▸ Heap.get?_push_size _ rfl))⟩
  have hst₁ : St 0 h₁ := W.frame _ _ _ hst fun b _ o e => old b o e
  have hCf : C ∉ fp := fun h => by have := hfp _ h; omega
  have hDf : D ∉ fp := fun h => by have := hfp _ h; omega
  have hCw : C ∉ wr := fun h => hCf (W.sub _ h)
  have hDw : D ∉ wr := fun h => hDf (W.sub _ h)
  let X : List Addr := C :: D :: wr
  have noneD : ∀ j, D ≤ j → s.heap.get? j = none := fun j hj => by
    cases e : s.heap.get? j with
    | none => rfl
    | some o => exact absurd (ltD _ _ (kp_get k₂ e)) (Nat.not_lt.mpr hj)
  have hXn : ∀ b ∈ X, s.heap.get? b = none := fun b hb => by
    simp only [X, List.mem_cons] at hb
    rcases hb with rfl | rfl | hb
    · exact noneD _ (by omega)
    · exact noneD _ (Nat.le_refl _)
    · exact hwr b hb
  -- the loop
  have loop : ∀ s₃ : Shared, s₃ = { s₂ with heap := h₁, toks := s₂.toks + ([] : List (Str × Value)).length } →
      codeAny (model prog w) A (.compLoop (.ListComp elt [⟨target, iter, ifs, 0⟩] scope pos) 0 (.ref I) (.ref D) (compEnvC scope cl C env)) (RR (.ref D) C) s₃ := by
    rintro s₃ rfl
    refine codeAny_comp (fun j s' => ∃ h' tk m ys i, s' = { s₂ with heap := h', toks := tk } ∧ St i h' ∧ h'.PlainList D ys.toArray ∧ h'.Ns C m ∧ R X i ys h' ∧ i ≤ n ∧ ys.length ≤ i ∧ j = n + 1 - i ∧
      (∀ b o, b ≠ C → b ∉ wr → b ≠ D → h₁.get? b = some o → h'.get? b = some o)) ?_ (n + 1) ⟨h₁, _, _, [], 0, rfl, hst₁, hacc, hns₁, hR0 _ _, Nat.zero_le _, Nat.le_refl _, rfl, fun _ _ _ _ _ e => e⟩
    rintro j s' ⟨H, tk, m, ys, i, rfl, hst', hacc', hn', hR, hi, hyl, rfl, hk⟩
    by_cases hlt : i < n
    · refine wpAny_mono (W.item i _ (fun v s₄ => wpAny (model prog w) A (assign target (compEnvC scope cl C env) v) (fun _ s₅ => _) (fun _ _ => False) s₄) (fun _ _ => False) hlt hst' ?_) (fun r s₁ h₁ => by
        cases r with
        | none => exact h₁.elim
        | some v => exact h₁) fun _ _ y => y
      intro v h₂ tk₂ hP hst₂ hk₂
      refine hbind C i v _ m _ _ hlt hP (hn'.at' fun o e => hk₂ _ o hCw e) fun h₃ tk₃ m₃ hT hn₃ hk₃ => ?_
      have hst₃ : St (i + 1) h₃ := W.frame _ _ _ hst₂ fun b hb o e => hk₃ b o (fun h => hCf (h ▸ hb)) e
      have up₃ : ∀ b o, b ∉ X → H.get? b = some o → h₃.get? b = some o := fun b o hb e => by
        simp only [X, List.mem_cons, not_or] at hb
        exact hk₃ b o hb.1 (hk₂ b o hb.2.2 e)
      have hacc₃ : h₃.PlainList D ys.toArray := hacc'.at fun o e => hk₃ _ o hDC (hk₂ _ o hDw e)
      have base₃ : ∀ b o, s.heap.get? b = some o → h₃.get? b = some o := fun b o e => by
        have e2 := kp_get k₂ e
        have hbw : b ∉ wr := fun hb' => by
          have := hwr b hb'
          rw [e] at this; cases this
        exact hk₃ b o (neL (ltC b o e2)) (hk₂ b o hbw (hk b o (neL (ltC b o e2)) hbw (neL (ltD b o e2)) (old b o e2)))
      have liveX : ∀ b ∈ X, ∃ o, h₃.get? b = some o := fun b hb => by
        simp only [X, List.mem_cons] at hb
        rcases hb with rfl | rfl | hb
        · obtain ⟨o, _, _, e, _⟩ := hn₃; exact ⟨o, e⟩
        · obtain ⟨n', e⟩ := hacc₃; exact ⟨_, e⟩
        · exact W.live _ _ hst₃ b (W.sub _ hb)
      obtain ⟨ok, ht, hf, hE⟩ := hturn C X i { s₂ with heap := h₃, toks := tk₃ } m₃ ys hlt base₃ hn₃ hT (hmono _ _ _ _ _ hR up₃) liveX
      refine ht.use fun b s₆ k₆ hb => ?_
      subst hb
      obtain ⟨h₆, tk₆, rfl, hk₆⟩ := k₆
      have hst₆ : St (i + 1) h₆ := W.frame _ _ _ hst₃ fun b _ o e => hk₆ b o e
      cases b with
      | false =>
        simp only [Bool.false_eq_true, if_false]
        exact ⟨n + 1 - (i + 1), by omega, h₆, tk₆, m₃, ys, i + 1, rfl, hst₆, hacc₃.at fun o e => hk₆ _ o e, hn₃.keeps hk₆, hf rfl h₆ hk₆, by omega, by omega, rfl,
          fun b o h1 h2 h3 e => hk₆ b o (hk₃ b o h1 (hk₂ b o h2 (hk b o h1 h2 h3 e)))⟩
      | true =>
        simp only [if_true]
        refine (hE rfl).at ⟨h₆, tk₆, rfl, hk₆⟩ fun y s₇ k₇ hy => ?_
        obtain ⟨h₇, tk₇, rfl, hk₇⟩ := k₇
        refine wpAny_list_append_plain (hsz := by simp; omega) (hacc₃.at fun o e => hk₇ _ o (hk₆ _ o e)) fun h₈ hl₈ hs₈ => ?_
        refine ⟨n + 1 - (i + 1), by omega, h₈, tk₇, m₃, ys ++ [y], i + 1, rfl, ?_, by simpa using hl₈, ((hn₃.keeps hk₆).keeps hk₇).sameBut hs₈ (Ne.symm hDC), ?_, by omega, by simp; omega, rfl, ?_⟩
        · exact W.frame _ _ _ hst₆ fun b hb o e => hs₈.extBut b o (fun h => hDf (h ▸ hb)) (hk₇ b o e)
        · refine hmono _ _ _ _ _ hy fun b o hb e => hs₈.extBut b o (fun h => hb (by simp [X, h])) e
        · exact fun b o h1 h2 h3 e => hs₈.extBut b o h3 (hk₇ b o (hk₆ b o (hk₃ b o h1 (hk₂ b o h2 (hk b o h1 h2 h3 e)))))
    · have hin : i = n := by omega
      subst hin
      refine W.done _ _ _ hst' fun h₂ tk₂ hk₂ => ?_
      refine hRR D C h₂ tk₂ m ys X (hn'.at' fun o e => hk₂ _ o hCw e) (hacc'.at fun o e => hk₂ _ o hDw e) ?_ (by simp [X]) (by simp [X]) hDC hXn ?_
      · refine hmono _ _ _ _ _ hR fun b o hb e => ?_
        simp only [X, List.mem_cons, not_or] at hb
        exact hk₂ b o hb.2.2 e
      · intro b o e
        have e2 := kp_get k₂ e
        have hbw : b ∉ wr := fun hb' => by
          have := hwr b hb'
          rw [e] at this; cases this
        exact hk₂ b o hbw (hk b o (neL (ltC b o e2)) hbw (neL (ltD b o e2)) (old b o e2))
  exact codeAny_compStart_list (loop _ rfl) (W.self 0 _ _ _ hst₁ (loop _ rfl))

theorem none_of {a b : Shared} (k : Keeps a b) {D : Addr} (h : b.heap.get? D = none) : a.heap.get? D = none := by
  cases e : a.heap.get? D with
  | none => rfl
  | some o => rw [kp_get k e] at h; cases h

section
variable {target elt iter : Expr} {ifs : List Expr} {scope : Scope} {cl : List (Str × Addr)} {pos : Pos} {n : Nat} {P : Nat → Value → Heap → Prop} (T : Nat → (Str → Option Value) → Prop)
    (R : List Addr → Nat → List Value → Heap → Prop) {F : List Addr}
theorem ev_comp
    (hsrc : Src prog w A target s₀ (eval iter env) n P F) (hsz : n ≤ sizeLine) (hbind : Binds prog w A target (fun C => compEnvC scope cl C env) n P T)
    (hR0 : ∀ X h, R X 0 [] h) (hmono : ∀ X i ys h h', R X i ys h → (∀ b o, b ∉ X → h.get? b = some o → h'.get? b = some o) → R X i ys h')
    (hturn : ∀ C X i s₁ m₁ ys, i < n → (∀ b o, s₀.heap.get? b = some o → s₁.heap.get? b = some o) → s₁.heap.Ns C m₁ → T i m₁ → R X i ys s₁.heap → (∀ b ∈ X, ∃ o, s₁.heap.get? b = some o) →
      ∃ ok : Bool, Ev prog w A s₁ (forIn ifs true fun c r => if r = true then do let ok ← isTrue c (compEnvC scope cl C env) (eval c (compEnvC scope cl C env)); pure (ForInStep.yield ok) else pure (ForInStep.yield r)) (fun b _ => b = ok) ∧
        (ok = false → ∀ h', (∀ b o, s₁.heap.get? b = some o → h'.get? b = some o) → R X (i + 1) ys h') ∧ (ok = true → Ev prog w A s₁ (eval elt (compEnvC scope cl C env)) (fun y s₂ => R X (i + 1) (ys ++ [y]) s₂.heap)))
    (hclos : closureFor scope env = pure cl) (hcell : (scope.names.all fun y => y.2 != .cell) = true := by decide) (hkind : scope.kind = .function := by rfl)
    (hnames : (scope.names.all fun y => y.2 != .local || scope.names.lookup y.1 == some .local) = true := by decide)
    (hs : ∀ x, foldedSetIterable iter env x = pure x := by intro _; rfl) :
    Ev prog w A s₀ (eval (.ListComp elt [⟨target, iter, ifs, 0⟩] scope pos) env) (fun r c => ∃ D ys X, r = .ref D ∧ c.heap.PlainList D ys.toArray ∧ R X n ys c.heap ∧ D ∈ X ∧ s₀.heap.get? D = none) := by
  have hcell' : ∀ y ∈ scope.names, y.2 ≠ .cell := fun y hy => by simpa using List.all_eq_true.mp hcell y hy
  have hnames' : ∀ y ∈ scope.names, y.2 = .local → scope.names.lookup y.1 = some .local := fun y hy e => by
    have := List.all_eq_true.mp hnames y hy
    simpa [e] using this
  intro s E k
  rw [eval_ListComp]
  refine wpAny_comprehension_free rfl hs hclos hkind hnames' (wpAny_mono (hsrc s E k) (fun x s₁ h₁ => wpAny_mono h₁ (fun it s₂ h₂ => ?_) fun _ _ y => y) fun _ _ y => y)
  obtain ⟨I, fp, wr, St, rfl, W, hst, hwr, k₂, _⟩ := h₂
  refine comp_core T R W hst hwr k₂ hsz hbind hR0 hmono (fun C X i s₁ m₁ ys hi hk => hturn C X i s₁ m₁ ys hi fun b o e => hk b o (kp_get k e)) hcell' hkind fun D C h' tk m' ys X hn hD hR hCX hDX hDC hX hk => ?_
  refine ⟨m', hn, fun h₃ hs₃ => ⟨⟨D, ys, X, rfl, hD.at fun o e => hs₃.extBut _ o hDC e, hmono _ _ _ _ _ hR fun b o hb e => hs₃.extBut b o (fun h => hb (h ▸ hCX)) e, hDX, none_of k (hX D hDX)⟩, ?_⟩⟩
  obtain ⟨h2, tk2, rfl, _⟩ := k₂
  refine ⟨h₃, tk, rfl, fun b o e => hs₃.extBut b o (fun h => ?_) (hk b o e)⟩
  have := hX C hCX
  rw [← h, e] at this; cases this

/-- y = [..] -/
theorem st_assign_comp {s c : Shared} {L : Addr} {m : Str → Option Value} {y : Str} {py spos : Pos} {rest : List Stmt} {Q : Flow → Shared → Prop} {E : Value → Shared → Prop} (i : InCall s L m c) (hL : env.locals = L)
    (hsrc : Src prog w A target c (eval iter env) n P F) (hsz : n ≤ sizeLine) (hbind : Binds prog w A target (fun C => compEnvC scope cl C env) n P T)
    (hR0 : ∀ X h, R X 0 [] h) (hmono : ∀ X i ys h h', R X i ys h → (∀ b o, b ∉ X → h.get? b = some o → h'.get? b = some o) → R X i ys h')
    (hmonoL : ∀ X i ys h h', R X i ys h → (∀ b o, b ∉ X → b ≠ L → h.get? b = some o → h'.get? b = some o) → R X i ys h')
    (hturn : ∀ C X i s₁ m₁ ys, i < n → (∀ b o, c.heap.get? b = some o → s₁.heap.get? b = some o) → s₁.heap.Ns C m₁ → T i m₁ → R X i ys s₁.heap → (∀ b ∈ X, ∃ o, s₁.heap.get? b = some o) →
      ∃ ok : Bool, Ev prog w A s₁ (forIn ifs true fun c r => if r = true then do let ok ← isTrue c (compEnvC scope cl C env) (eval c (compEnvC scope cl C env)); pure (ForInStep.yield ok) else pure (ForInStep.yield r)) (fun b _ => b = ok) ∧
        (ok = false → ∀ h', (∀ b o, s₁.heap.get? b = some o → h'.get? b = some o) → R X (i + 1) ys h') ∧ (ok = true → Ev prog w A s₁ (eval elt (compEnvC scope cl C env)) (fun y s₂ => R X (i + 1) (ys ++ [y]) s₂.heap)))
    (h : ∀ D ys X c₂, c₂.heap.PlainList D ys.toArray → R X n ys c₂.heap → c.heap.get? D = none → InCall s L (fun z => if z = y then some (.ref D) else m z) c₂ → KeepsBut L c c₂ → wpAny (model prog w) A (execs rest env) Q E c₂)
    (hclos : closureFor scope env = pure cl) (hcell : (scope.names.all fun y => y.2 != .cell) = true := by decide) (hkind : scope.kind = .function := by rfl)
    (hnames : (scope.names.all fun y => y.2 != .local || scope.names.lookup y.1 == some .local) = true := by decide)
    (hs : ∀ x, foldedSetIterable iter env x = pure x := by intro _; rfl)
    (hsw : swapsWith (.ListComp elt [⟨target, iter, ifs, 0⟩] scope pos) (some (.Name y py)) spos.line env = pure true := by rfl)
    (hy : env.kindOf y = some .local := by rfl) (hp : (env.scope.kind == .class || (env.scope.kind == .module && env.locals != env.globals)) = false := by rfl) :
    wpAny (model prog w) A (execs (.Assign [.Name y py] (.ListComp elt [⟨target, iter, ifs, 0⟩] scope pos) spos :: rest) env) Q E c := by
  subst hL
  have hcell' : ∀ y ∈ scope.names, y.2 ≠ .cell := fun y hy => by simpa using List.all_eq_true.mp hcell y hy
  have hnames' : ∀ y ∈ scope.names, y.2 = .local → scope.names.lookup y.1 = some .local := fun y hy e => by
    have := List.all_eq_true.mp hnames y hy
    simpa [e] using this
  refine wpAny_execs_cons ?_
  rw [exec_Assign_Name_used _ _ _ _ hsw]
  refine wpAny_bind (wpAny_standAt (wpAny_bind ?_))
  show wpAny _ A (do let _ ← comprehension (.ListComp elt [⟨target, iter, ifs, 0⟩] scope pos) scope env _ (newList []) false (eval iter env) (some (assign (.Name y py) env))) _ _ c
  refine wpAny_bind (wpAny_mono (wpAny_comprehension_free (use := some (assign (.Name y py) env)) (Q := fun _ s' => wpAny (model prog w) A (execs rest env) Q E s') rfl hs hclos hkind hnames'
    (wpAny_mono (hsrc c E (kp_refl _)) (fun x s₁ h₁ => wpAny_mono h₁ (fun it s₂ h₂ => ?_) fun _ _ y => y) fun _ _ y => y)) (fun _ s' hq => wpAny_pure (wpAny_pure hq)) fun _ _ e => e)
  obtain ⟨I, fp, wr, St, rfl, W, hst, hwr, k₂, _⟩ := h₂
  refine comp_core (RR := fun acc C => compPost (model prog w) A E (some (assign (.Name y py) env)) (fun _ s' => wpAny (model prog w) A (execs rest env) Q E s') acc C) T R W hst hwr k₂ hsz hbind hR0 hmono hturn hcell' hkind fun D C h' tk m' ys X hn hD hR hCX hDX hDC hX hk => ?_
  obtain ⟨oL, _, _, eL, _⟩ := id i.ns
  have hLX : env.locals ∉ X := fun h => by
    have := hX _ h
    rw [eL] at this; cases this
  have hLC : env.locals ≠ C := fun h => hLX (h ▸ hCX)
  have hLD : env.locals ≠ D := fun h => hLX (h ▸ hDX)
  have i' : InCall s env.locals m { s₂ with heap := h', toks := tk } := by
    obtain ⟨h2, tk2, rfl, hk2⟩ := k₂
    exact InCall.kp i ⟨h', tk, rfl, hk⟩
  show wpAny _ A (assign (.Name y py) env (.ref D)) _ _ _
  refine wpAny_assign_Name (wpAny_storeName_local hy i'.ns (fun h₂ hn₂ hs₂ => ?_) hp)
  refine ⟨m', hn.sameBut hs₂ (Ne.symm hLC), fun h₃ hs₃ => ?_⟩
  refine h D ys X _ ((hD.extBut hs₂.extBut (Ne.symm hLD)).extBut hs₃.extBut hDC) (hmonoL _ _ _ _ _ hR fun b o hb hbL e => hs₃.extBut b o (fun h => hb (h ▸ hCX)) (hs₂.extBut b o hbL e)) (hX D hDX) ⟨?_, hn₂.sameBut hs₃ hLC, fun b o e => ?_, i.fresh⟩ fun b o hb e => hs₃.extBut b o (fun h => ?_) (hs₂.extBut b o hb (hk b o e))
  · obtain ⟨hh, tt, e⟩ := i'.same
    exact ⟨h₃, tk + 1, by
      have e' := e
      cases s₂; cases s; simp at e' ⊢
      exact ⟨e'.2.1, e'.2.2.1, e'.2.2.2.2⟩⟩
  · have hb : b ≠ env.locals := Nat.ne_of_lt (Nat.lt_of_lt_of_le (Heap.lt_size e) i.fresh)
    have e2 := i.keep b o e
    refine hs₃.extBut b o (fun h => ?_) (hs₂.extBut b o hb (hk b o e2))
    have := hX C hCX
    rw [← h, e2] at this; cases this
  · have := hX C hCX
    rw [← h, e] at this; cases this
end

def KeepsOff (M : List Addr) (s s' : Shared) : Prop := ∀ b o, b ∉ M → s.heap.get? b = some o → s'.heap.get? b = some o

/-- for tgt in iter: body -/
theorem st_for {c : Shared} {tgt iter : Expr} {body rest : List Stmt} {pos : Pos} {n : Nat} {P : Nat → Value → Heap → Prop} {F : List Addr} {Q : Flow → Shared → Prop} {E : Value → Shared → Prop} (M : List Addr) (J : List Addr → Nat → Shared → Prop)
    (hsrc : Src prog w A tgt c (eval iter env) n P F) (hM : ∀ b ∈ M, b ∉ F ∧ ∃ o, c.heap.get? b = some o)
    (hJ0 : ∀ X c', (∀ b ∈ X, c.heap.get? b = none) → Keeps c c' → J X 0 c')
    (hmono : ∀ X i s s', (∀ b ∈ X, c.heap.get? b = none) → J X i s → (∃ h tk, s' = { s with heap := h, toks := tk }) → KeepsOff X s s' → J X i s')
    (hturn : ∀ X i s v, i < n → (∀ b ∈ X, c.heap.get? b = none) → (∀ b ∈ X, ∃ o, s.heap.get? b = some o) → J X i s → P i v s.heap → wpAny (model prog w) A (assign tgt env v) (fun _ s₂ => wpAny (model prog w) A (execs body env) (fun f s₃ => match f with
      | .next | .cont => J X (i + 1) s₃ ∧ KeepsOff M s s₃
      | .brk => wpAny (model prog w) A (execs rest env) Q E s₃
      | .ret v => Q (.ret v) s₃) (fun _ _ => False) s₂) (fun _ _ => False) s)
    (hdone : ∀ X s, (∀ b ∈ X, c.heap.get? b = none) → J X n s → wpAny (model prog w) A (execs rest env) Q E s)
    (hs : ∀ x, foldedSetIterable iter env x = pure x := by intro _; rfl) :
    wpAny (model prog w) A (execs (.For tgt iter body [] pos :: rest) env) Q E c := by
  refine wpAny_execs_cons (wpAny_For (wpAny_mono (hsrc c E (kp_refl _)) (fun x s₁ h₁ => wpAny_mono h₁ (fun it s₂ h₂ => ?_) fun _ _ y => y) fun _ _ y => y) hs)
  obtain ⟨I, fp, wr, St, rfl, W, hst, hwr, k₂, hF⟩ := h₂
  refine codeAny_forLoop_any (fun j s => ∃ i, j = n + 1 - i ∧ i ≤ n ∧ St i s.heap ∧ J wr i s) ?_ (n + 1) ⟨0, rfl, Nat.zero_le _, hst, hJ0 wr s₂ hwr k₂⟩
  rintro j s ⟨i, rfl, hi, hst', hJ⟩
  by_cases hlt : i < n
  · refine wpAny_mono (W.item i s (fun v s₄ => wpAny (model prog w) A (assign tgt env v) (fun _ s₅ => wpAny (model prog w) A (execs body env) (fun f s₃ => match f with
            | .next | .cont => ∃ m, m < n + 1 - i ∧ ∃ i, m = n + 1 - i ∧ i ≤ n ∧ St i s₃.heap ∧ J wr i s₃
            | .brk => wpAny (model prog w) A (execs rest env) Q E s₃
            | .ret v => Q (.ret v) s₃) (fun _ _ => False) s₅) (fun _ _ => False) s₄) (fun _ _ => False) hlt hst' ?_) (fun r s₁ h₁ => by
        cases r with
        | none => exact h₁.elim
        | some v =>
          refine wpAny_mono h₁ (fun _ s₄ h₄ => wpAny_mono h₄ (fun _ s₅ h₅ => wpAny_mono h₅ (fun f s₆ h₆ => ?_) fun _ _ y => y.elim) fun _ _ y => y.elim) fun _ _ y => y.elim
          cases f with
          | next => exact h₆
          | cont => exact h₆
          | brk => exact h₆
          | ret v => exact h₆) fun _ _ y => y.elim
    intro v h₂ tk₂ hP hst₂ hk₂
    have hJ₂ := hmono wr i s { s with heap := h₂, toks := tk₂ } hwr hJ ⟨_, _, rfl⟩ hk₂
    refine wpAny_mono (hturn wr i _ v hlt hwr (fun b hb => W.live _ _ hst₂ b (W.sub _ hb)) hJ₂ hP) (fun _ s₅ h₅ => wpAny_mono h₅ (fun f s₆ h₆ => ?_) fun _ _ y => y) fun _ _ y => y
    have go : J wr (i + 1) s₆ ∧ KeepsOff M { s with heap := h₂, toks := tk₂ } s₆ → ∃ m, m < n + 1 - i ∧ ∃ i, m = n + 1 - i ∧ i ≤ n ∧ St i s₆.heap ∧ J wr i s₆ := by
      rintro ⟨hJ', hk'⟩
      refine ⟨n + 1 - (i + 1), by omega, i + 1, rfl, hlt, W.frame _ _ _ hst₂ fun b hb o e => hk' b o (fun hbM => ?_) e, hJ'⟩
      obtain ⟨h1, o', h2⟩ := hM b hbM
      rcases hF b hb with h3 | h3
      · rw [h2] at h3; cases h3
      · exact h1 h3
    cases f with
    | next => exact go h₆
    | cont => exact go h₆
    | brk => exact h₆
    | ret v => exact h₆
  · have hin : i = n := by omega
    subst hin
    refine W.done _ _ _ hst' fun h₂ tk₂ hk₂ => ?_
    exact wpAny_execs_nil (hdone wr _ hwr (hmono wr i s _ hwr hJ ⟨_, _, rfl⟩ hk₂))
end
end Mine
end
section
open PySem PySem.W PyProof.Rows PySem.Calls
namespace Mine

theorem It.ofWalksT {prog : Program} {w : World} {A : Around} {elts : List Expr} {k : Nat} {pos : Pos} {I : Addr} {fp wr : List Addr} {n : Nat} {Pt : Nat → Array Value → Prop} {St : Nat → Heap → Prop} {Mid : Nat → Addr → Heap → Prop}
    (W : WalksT prog w A I fp wr n Pt St Mid) (hl : ∀ i h, St i h → ∀ b ∈ fp, ∃ o, h.get? b = some o) :
    It prog w A (.Tuple elts k pos) I fp wr n (fun i v h => ∃ T vals, v = .ref T ∧ h.IsTuple T vals ∧ Pt i vals) St where
  sub := W.sub
  frame := W.frame
  live := hl
  item := fun i s Q E hi st hQ => W.item i s _ E hi st fun T vals h' tk p hT ht hm k => W.go _ _ _ i T _ _ _ hm fun h'' st' k' => hQ _ h'' tk ⟨T, vals, rfl, by
      obtain ⟨o, e, r⟩ := ht
      exact ⟨o, k' _ _ (W.apart _ _ _ hm) e, r⟩, p⟩ st' fun b o hb e => k' b o hb (k b o hb e)
  done := W.done
  self := W.self

section
variable {prog : Program} {w : World} {A : Around} {s₀ : Shared} {env : Env}

theorem push_live {h : Heap} {o : Obj} (hf : o.isFreed = false := by rfl) : (h.push o).get? h.objs.size = some o := Heap.get?_push_size _ hf
theorem new_none {s : Shared} {a : Addr} (h : s.heap.objs.size ≤ a) : s.heap.get? a = none := by
  cases e : s.heap.get? a with
  | none => rfl
  | some o => exact absurd (Heap.lt_size e) (Nat.not_lt.mpr h)
theorem kp_new {s s' : Shared} (k : Keeps s s') : s.heap.get? s'.heap.objs.size = none := by
  cases e : s.heap.get? s'.heap.objs.size with
  | none => rfl
  | some o => exact absurd (Heap.lt_size (kp_get k e)) (Nat.lt_irrefl _)

theorem src_list {x : Str} {px : Pos} {t : Sem Value} {vs : List Value} {F : List Addr} (hh : A.handled = none) (h : Ev prog w A s₀ t (fun v c => ∃ l, v = .ref l ∧ c.heap.IsList l vs.toArray ∧ (s₀.heap.get? l = none ∨ l ∈ F))) :
    Src prog w A (.Name x px) s₀ t vs.length (fun i v _ => vs[i]? = some v) F := by
  intro s E k
  refine h.at k fun v s₁ k₁ hv => ?_
  obtain ⟨l, rfl, hl, hF⟩ := hv
  refine wpAny_pyIter_list hl ?_
  have hne : l ≠ s₁.heap.objs.size := by
    obtain ⟨o, e, _⟩ := hl
    exact Nat.ne_of_lt (Heap.lt_size e)
  have hit : ∀ i h, (Heap.IsListIter h s₁.heap.objs.size l i ∧ h.IsList l vs.toArray) → ∀ b ∈ [s₁.heap.objs.size, l], ∃ o, h.get? b = some o := by
    rintro i h ⟨⟨o, e, _⟩, ⟨o', e', _⟩⟩ b hb
    simp only [List.mem_cons, List.not_mem_nil, or_false] at hb
    rcases hb with rfl | rfl
    · exact ⟨o, e⟩
    · exact ⟨o', e'⟩
  have W := It.ofWalks (x := x) (px := px) (Walks.list (prog := prog) (w := w) hh s₁.heap.objs.size l hne vs.toArray) hit
  refine ⟨s₁.heap.objs.size, [s₁.heap.objs.size, l], [s₁.heap.objs.size], fun i h => Heap.IsListIter h s₁.heap.objs.size l i ∧ h.IsList l vs.toArray, rfl, ?_, ⟨⟨_, push_live, rfl, rfl⟩, ?_⟩, ?_, kp_trans k₁ (kp_push _ _), fun b hb => by
    simp only [List.mem_cons, List.not_mem_nil, or_false] at hb
    rcases hb with rfl | rfl
    · exact Or.inl (kp_new (kp_trans k k₁))
    · exact hF⟩
  · simpa using W
  · obtain ⟨o, e, r⟩ := hl
    exact ⟨o, Heap.get?_push_of_some _ e, r⟩
  · intro b hb
    simp only [List.mem_cons, List.not_mem_nil, or_false] at hb
    subst hb
    exact kp_new k₁
theorem src_pairs {elts : List Expr} {k : Nat} {tp : Pos} {t : Sem Value} {vs : List Value} (hh : A.handled = none) {F : List Addr} (hr : ∀ v ∈ vs, ∃ T, v = .ref T) (h : Ev prog w A s₀ t (fun v c => ∃ l, v = .ref l ∧ c.heap.IsList l vs.toArray ∧ (s₀.heap.get? l = none ∨ l ∈ F))) :
    Src prog w A (.Tuple elts k tp) s₀ t vs.length (fun i v _ => vs[i]? = some v) F := by
  intro s E k
  refine h.at k fun v s₁ k₁ hv => ?_
  obtain ⟨l, rfl, hl, hF⟩ := hv
  refine wpAny_pyIter_list hl ?_
  have hne : l ≠ s₁.heap.objs.size := by
    obtain ⟨o, e, _⟩ := hl
    exact Nat.ne_of_lt (Heap.lt_size e)
  have W := Walks.list (prog := prog) (w := w) hh s₁.heap.objs.size l hne vs.toArray
  refine ⟨s₁.heap.objs.size, _, _, fun i h => Heap.IsListIter h s₁.heap.objs.size l i ∧ h.IsList l vs.toArray, rfl, ⟨W.sub, W.frame, ?_, ?_, by simpa using W.done, W.self⟩, ⟨⟨_, push_live, rfl, rfl⟩, ?_⟩, ?_, kp_trans k₁ (kp_push _ _), fun b hb => by
    simp only [List.mem_cons, List.not_mem_nil, or_false] at hb
    rcases hb with rfl | rfl
    · exact Or.inl (kp_new (kp_trans k k₁))
    · exact hF⟩
  · rintro i h ⟨⟨o, e, _⟩, ⟨o', e', _⟩⟩ b hb
    simp only [List.mem_cons, List.not_mem_nil, or_false] at hb
    rcases hb with rfl | rfl
    · exact ⟨o, e⟩
    · exact ⟨o', e'⟩
  · intro i s Q E hi st hQ
    refine W.item i s _ E (by simpa using hi) st fun v h' tk p st' kk => ?_
    have hv : vs[i]? = some v := by simpa using p
    obtain ⟨T, rfl⟩ := hr v (List.mem_of_getElem? hv)
    exact wpAny_letOwnedTupleGo_listiter st'.1 (hQ _ h' tk hv st' kk)
  · obtain ⟨o, e, r⟩ := hl
    exact ⟨o, Heap.get?_push_of_some _ e, r⟩
  · intro b hb
    simp only [List.mem_cons, List.not_mem_nil, or_false] at hb
    subst hb
    exact kp_new k₁

/-- one name as the target -/
theorem binds_name {x : Str} {px : Pos} {cenv : Addr → Env} {n : Nat} {p : Nat → Value → Prop} (hL : ∀ C, (cenv C).locals = C := by intro _; rfl) (hl : ∀ C, (cenv C).kindOf x = some .local := by intro _; rfl)
    (hp : ∀ C, ((cenv C).scope.kind == .class || ((cenv C).scope.kind == .module && (cenv C).locals != (cenv C).globals)) = false := by intro _; rfl) :
    Binds prog w A (.Name x px) cenv n (fun i v _ => p i v) (fun i m => ∃ v, m x = some v ∧ p i v) := by
  intro C i v s m Q E hi hP hn hQ
  refine wpAny_assign_Name (wpAny_storeName_local (hl C) (by rw [hL C]; exact hn) (fun h' hn' hs' => ?_) (hp C))
  rw [hL C] at hn' hs'
  exact hQ h' _ _ ⟨v, by simp, hP⟩ hn' fun b o hb e => hs'.extBut b o hb e
/-- two names as the target -/
theorem binds_pair {x y : Str} {px py tp : Pos} {k : Nat} {cenv : Addr → Env} {n : Nat} {p : Nat → Value → Value → Prop} (hh : A.handled = none) (hxy : (x == y) = false := by decide) (hL : ∀ C, (cenv C).locals = C := by intro _; rfl) (hl : ∀ C, (cenv C).kindOf x = some .local := by intro _; rfl)
    (hl' : ∀ C, (cenv C).kindOf y = some .local := by intro _; rfl)
    (hp : ∀ C, ((cenv C).scope.kind == .class || ((cenv C).scope.kind == .module && (cenv C).locals != (cenv C).globals)) = false := by intro _; rfl) :
    Binds prog w A (.Tuple [.Name x px, .Name y py] k tp) cenv n (fun i v h => ∃ T a b, v = .ref T ∧ h.IsTuple T #[a, b] ∧ p i a b) (fun i m => ∃ a b, m x = some a ∧ m y = some b ∧ p i a b) := by
  intro C i v s m Q E hi hP hn hQ
  obtain ⟨T, a, b, rfl, hT, hab⟩ := hP
  refine wpAny_assign_Tuple hh hT rfl rfl fun h' ex => ?_
  have k₂ := kp_ext ex
  refine wpAny_assignInOrder_more (wpAny_assign_Name (wpAny_storeName_local (hl C) (by rw [hL C]; exact kp_ns k₂ hn) (fun h₁ hn₁ hs₁ => ?_) (hp C)))
  refine wpAny_assignInOrder_more (wpAny_assign_Name (wpAny_storeName_local (hl' C) hn₁ (fun h₂ hn₂ hs₂ => wpAny_assignInOrder_none ?_) (hp C)))
  rw [hL C] at hn₂ hs₂ hs₁
  have hne : x ≠ y := by simpa using hxy
  exact hQ h₂ _ _ ⟨a, b, by simp [hne], by simp, hab⟩ hn₂ fun b o hb e => hs₂.extBut b o hb (hs₁.extBut b o hb (kp_get k₂ e))

/-- ys are what the elements were, by their places -/
def AllAt (F : Nat → Value → Prop) (ys : List Value) : Prop := ∀ j y, ys[j]? = some y → F j y
theorem AllAt.snoc {F : Nat → Value → Prop} {ys : List Value} {y : Value} (h : AllAt F ys) (hy : F ys.length y) : AllAt F (ys ++ [y]) := by
  intro j u hu
  rcases Nat.lt_trichotomy j ys.length with h1 | h1 | h1
  · exact h j u (by rwa [List.getElem?_append_left h1] at hu)
  · subst h1; simp at hu; subst hu; exact hy
  · rw [List.getElem?_eq_none (by simp; omega)] at hu; cases hu

/-- [elt for x in list]: values that need no heap -/
theorem ev_compL {x : Str} {px : Pos} {elt iter : Expr} {scope : Scope} {cl : List (Str × Addr)} {pos : Pos} {vs : List Value} {F0 : List Addr} (F : Nat → Value → Prop) (hh : A.handled = none)
    (hsrc : Ev prog w A s₀ (eval iter env) (fun v c => ∃ l, v = .ref l ∧ c.heap.IsList l vs.toArray ∧ (s₀.heap.get? l = none ∨ l ∈ F0))) (hsz : vs.length ≤ sizeLine)
    (helt : ∀ C i v s₁ m₁, (∀ b o, s₀.heap.get? b = some o → s₁.heap.get? b = some o) → s₁.heap.Ns C m₁ → m₁ x = some v → vs[i]? = some v → Ev prog w A s₁ (eval elt (compEnvC scope cl C env)) (fun y _ => F i y))
    (hclos : closureFor scope env = pure cl) (hcell : (scope.names.all fun y => y.2 != .cell) = true := by decide) (hkind : scope.kind = .function := by rfl)
    (hnames : (scope.names.all fun y => y.2 != .local || scope.names.lookup y.1 == some .local) = true := by decide)
    (hs : ∀ x, foldedSetIterable iter env x = pure x := by intro _; rfl) (hl : ∀ C, (compEnvC scope cl C env).kindOf x = some .local := by intro _; rfl)
    (hp : ∀ C, ((compEnvC scope cl C env).scope.kind == .class || ((compEnvC scope cl C env).scope.kind == .module && (compEnvC scope cl C env).locals != (compEnvC scope cl C env).globals)) = false := by intro _; rfl) :
    Ev prog w A s₀ (eval (.ListComp elt [⟨.Name x px, iter, [], 0⟩] scope pos) env) (fun r c => ∃ D ys, r = .ref D ∧ c.heap.PlainList D ys.toArray ∧ ys.length = vs.length ∧ AllAt F ys ∧ s₀.heap.get? D = none) :=
  (ev_comp (fun i m => ∃ v, m x = some v ∧ vs[i]? = some v) (fun _ i ys _ => ys.length = i ∧ AllAt F ys) (src_list hh hsrc) hsz (binds_name (fun _ => rfl) hl hp) (fun _ _ => ⟨rfl, fun j y h => by simp at h⟩) (fun _ _ _ _ _ h _ => h)
    (fun C X i s₁ m₁ ys hi hk hn hT hR hX => by
      obtain ⟨v, hv, hvs⟩ := hT
      obtain ⟨rfl, hA⟩ := hR
      refine ⟨true, fun s E _ => wpAny_pure ⟨rfl, kp_refl _⟩, fun h => (by cases h), fun _ => ?_⟩
      exact (helt C ys.length v s₁ m₁ hk hn hv hvs).mono fun y s _ hy => ⟨by simp, hA.snoc hy⟩) hclos hcell hkind hnames hs).mono fun r c _ ⟨D, ys, X, h1, h2, h3, _, h4⟩ => ⟨D, ys, h1, h2, h3.1, h3.2, h4⟩
end
end Mine
end
section
open PySem PySem.W PyProof.Rows PySem.Calls
namespace Mine
section
variable {prog : Program} {w : World} {A : Around} {s₀ : Shared} {env : Env}

theorem small1 {a n : Int} (ha : 0 ≤ a) (h : a ≤ n) (hn : n < 2 ^ 62) : Builtin.Range.small a n 1 = true ∧ Builtin.Range.rangeSize a n 1 = n - a := by
  have e : Builtin.Range.rangeSize a n 1 = n - a := by
    unfold Builtin.Range.rangeSize
    rw [if_pos (by decide)]
    split <;> omega
  refine ⟨?_, e⟩
  unfold Builtin.Range.small Builtin.Range.rangeFitsLong
  rw [e]
  simp only [Bool.and_eq_true, decide_eq_true_eq, Bool.or_eq_true, beq_iff_eq]
  rw [if_pos (by decide)]
  simp only [Bool.and_eq_true, decide_eq_true_eq]
  omega

/-- what evaluates to a range object -/
theorem src_range {x : Str} {px : Pos} {t : Sem Value} {a n : Int} {F : List Addr} (hh : A.handled = none) (ha : 0 ≤ a) (han : a ≤ n) (hn : n < 2 ^ 62) (h : Ev prog w A s₀ t (fun v c => ∃ r t₁ u₁ v₁, v = .ref r ∧ IsRange c.heap r a n 1 t₁ u₁ v₁)) :
    Src prog w A (.Name x px) s₀ t (n - a).toNat (fun i v _ => IsI (a + i) v) F := by
  intro s E k
  refine h.at k fun v s₁ k₁ hv => ?_
  obtain ⟨r, t₁, u₁, v₁, rfl, hr⟩ := hv
  obtain ⟨hs, hz⟩ := small1 ha han hn
  refine wpAny_pyIter_range hr hs ?_
  have W := Walks.range (prog := prog) (w := w) hh s₁.heap.objs.size a 1 (n - a).toNat
  refine ⟨s₁.heap.objs.size, [s₁.heap.objs.size], [s₁.heap.objs.size], fun i h => IsRangeIter h s₁.heap.objs.size (a + (i : Nat) * 1) (((n - a).toNat : Int) - (i : Nat)) 1, rfl, ?_, ?_, ?_, kp_trans k₁ (kp_push _ _), ?_⟩
  · refine ⟨W.sub, W.frame, ?_, fun i s Q E hi st hQ => W.item i s _ E hi st fun v h' tk p st' k => wpAny_pure (hQ v h' tk ?_ st' k), W.done, W.self⟩
    · intro i h st b hb
      simp only [List.mem_cons, List.not_mem_nil, or_false] at hb
      subst hb
      exact ⟨_, st⟩
    · obtain ⟨tk', rfl⟩ := p
      exact ⟨tk', by simp⟩
  · show IsRangeIter _ _ _ _ _
    rw [hz]
    have : ((n - a).toNat : Int) - (0 : Nat) = n - a := by omega
    rw [this]
    simpa using (push_live (h := s₁.heap) (o := { cls := .type "range_iterator", data := .fields #[rawInt a, rawInt (n - a), rawInt 1] }))
  · intro b hb
    simp only [List.mem_cons, List.not_mem_nil, or_false] at hb
    subst hb
    exact kp_new k₁
  · intro b hb
    simp only [List.mem_cons, List.not_mem_nil, or_false] at hb
    subst hb
    exact Or.inl (kp_new (kp_trans k k₁))
theorem ev_range1 {n : Int} {v : Value} (h : IsI n v) : Ev prog w A s₀ (call (.type "range") [v]) (fun v c => ∃ r t₁ u₁ v₁, v = .ref r ∧ IsRange c.heap r 0 n 1 t₁ u₁ v₁) := by
  obtain ⟨t, rfl⟩ := h
  exact fun s E _ => call_range_1 ⟨⟨_, _, _, _, rfl, push_live⟩, ⟨_, _, rfl, fun _ _ e => Heap.get?_push_of_some _ e⟩⟩
theorem ev_range2 {a n : Int} {u v : Value} (h' : IsI a u) (h : IsI n v) : Ev prog w A s₀ (call (.type "range") [u, v]) (fun v c => ∃ r t₁ u₁ v₁, v = .ref r ∧ IsRange c.heap r a n 1 t₁ u₁ v₁) := by
  obtain ⟨t, rfl⟩ := h
  obtain ⟨t', rfl⟩ := h'
  exact fun s E _ => call_range_2 ⟨⟨_, _, _, _, rfl, push_live⟩, ⟨_, _, rfl, fun _ _ e => Heap.get?_push_of_some _ e⟩⟩

/-- a text's signs -/
theorem src_str {y : Str} {px : Pos} {t : Sem Value} {x : Str} {F : List Addr} (hh : A.handled = none) (h : Ev prog w A s₀ t (fun v c => IsS x v)) :
    Src prog w A (.Name y px) s₀ t x.cps.size (fun i v _ => ∃ c, x.cps[i]? = some c ∧ IsS ⟨#[c]⟩ v) F := by
  intro s E k
  refine h.at k fun v s₁ k₁ hv => ?_
  obtain ⟨t, rfl⟩ := hv
  refine wpAny_pyIter_strU ?_
  have key : ∀ St : Nat → Heap → Prop, Walks prog w A s₁.heap.objs.size [s₁.heap.objs.size] [s₁.heap.objs.size] x.cps.size (SignAt x) St → (∀ i h, St i h → ∃ o, h.get? s₁.heap.objs.size = some o) →
      St 0 (s₁.heap.push { cls := .type (strIterType x), data := .fields #[.str x t, .int 0 0] }) →
      ∃ I fp wr St, (Value.ref s₁.heap.objs.size) = .ref I ∧ It prog w A (.Name y px) I fp wr x.cps.size (fun i v _ => ∃ c, x.cps[i]? = some c ∧ IsS ⟨#[c]⟩ v) St ∧ St 0 (s₁.heap.push { cls := .type (strIterType x), data := .fields #[.str x t, .int 0 0] }) ∧
        (∀ b ∈ wr, s.heap.get? b = none) ∧ Keeps s { s₁ with heap := s₁.heap.push { cls := .type (strIterType x), data := .fields #[.str x t, .int 0 0] } } ∧ ∀ b ∈ fp, s₀.heap.get? b = none ∨ b ∈ F := by
    intro St W live st
    refine ⟨_, _, _, St, rfl, ⟨W.sub, W.frame, ?_, fun i s Q E hi st hQ => W.item i s _ E hi st fun v h' tk p st' k => wpAny_pure (hQ v h' tk ?_ st' k), W.done, W.self⟩, st, ?_, kp_trans k₁ (kp_push _ _), ?_⟩
    · intro i h st b hb
      simp only [List.mem_cons, List.not_mem_nil, or_false] at hb
      subst hb
      exact live i h st
    · obtain ⟨c, u, h1, rfl⟩ := p
      exact ⟨c, h1, u, rfl⟩
    · intro b hb
      simp only [List.mem_cons, List.not_mem_nil, or_false] at hb
      subst hb
      exact kp_new k₁
    · intro b hb
      simp only [List.mem_cons, List.not_mem_nil, or_false] at hb
      subst hb
      exact Or.inl (kp_new (kp_trans k k₁))
  cases ha : x.cps.all (· < 128)
  · have hT : strIterType x = "str_iterator" := by unfold strIterType; rw [ha]; rfl
    exact key _ (Walks.strWide hh _ x t) (fun i h ⟨o, e, _⟩ => ⟨o, e⟩) ⟨_, push_live, by rw [hT], rfl⟩
  · have hT : strIterType x = "str_ascii_iterator" := by unfold strIterType; rw [ha]; rfl
    exact key _ (Walks.strAscii hh _ x t) (fun i h ⟨o, e, _⟩ => ⟨o, e⟩) ⟨_, push_live, by rw [hT], rfl⟩

/-- zip of two lists that stand -/
theorem src_zip {elts : List Expr} {k : Nat} {tp : Pos} {t : Sem Value} {xs ys : List Value} {l1 l2 : Addr} {F : List Addr} (hh : A.handled = none) (h1 : s₀.heap.IsList l1 xs.toArray) (h2 : s₀.heap.IsList l2 ys.toArray) (hlen : ys.length = xs.length)
    (h : ∀ (s : Shared) (Q : Value → Shared → Prop) (E : Value → Shared → Prop), Keeps s₀ s → (∀ s₁, Keeps s s₁ → wpAny (model prog w) A (call (.type "zip") [.ref l1, .ref l2]) Q E s₁) → wpAny (model prog w) A t Q E s) :
    Src prog w A (.Tuple elts k tp) s₀ t xs.length (fun i v h => ∃ T a b, v = .ref T ∧ h.IsTuple T #[a, b] ∧ xs[i]? = some a ∧ ys[i]? = some b) (l1 :: l2 :: F) := by
  intro s E kk
  refine h s _ E kk fun s₁ k₁ => ?_
  have ke := kp_trans kk k₁
  have hl1 : s₁.heap.IsList l1 xs.toArray := h1.at fun o e => kp_get ke e
  have hl2 : s₁.heap.IsList l2 ys.toArray := h2.at fun o e => kp_get ke e
  refine call_zip_2 hl1 hl2 fun h' z1 z2 z3 z4 z5 hsz hk => wpAny_pyIter_zip z1 ?_
  obtain ⟨o1, e1, r1⟩ := id hl1
  obtain ⟨o2, e2, r2⟩ := id hl2
  have n1 : @LT.lt Nat instLTNat l1 s₁.heap.objs.size := Heap.lt_size e1
  have n2 : @LT.lt Nat instLTNat l2 s₁.heap.objs.size := Heap.lt_size e2
  generalize hN : s₁.heap.objs.size = N at *
  have D : ZipApart (N + 4) (N + 2) (N + 3) N (N + 1) l1 l2 := by
    constructor <;> (first | exact Nat.ne_of_lt (by omega) | exact Nat.ne_of_gt (by omega))
  have W := WalksT.zip2 (prog := prog) (w := w) (A := A) hh (N + 4) (N + 2) (N + 3) N (N + 1) l1 l2 D xs.toArray ys.toArray
  have hmin : min xs.toArray.size ys.toArray.size = xs.length := by simp [hlen]
  rw [hmin] at W
  have fresh : ∀ j, s.heap.get? (N + j) = none := fun j => by
    cases e : s.heap.get? (N + j) with
    | none => rfl
    | some o =>
      have := lts (kp_get k₁ e)
      rw [hN] at this
      omega
  have fresh₀ : ∀ j, s₀.heap.get? (N + j) = none := fun j => by
    cases e : s₀.heap.get? (N + j) with
    | none => rfl
    | some o =>
      have := fresh j
      rw [kp_get kk e] at this
      cases this
  refine ⟨N + 4, [N + 4, N + 2, N + 3, N, N + 1, l1, l2], [N + 4, N + 3, N, N + 1], fun i h => IsZip h (N + 4) (N + 2) (N + 3) .none ∧ IsPair h (N + 2) (.ref N) (.ref (N + 1)) ∧ (∃ a b, IsPair h (N + 3) a b) ∧ h.IsListIter N l1 i ∧
    h.IsListIter (N + 1) l2 i ∧ h.IsList l1 xs.toArray ∧ h.IsList l2 ys.toArray, rfl, ?_, ⟨z1, z2, ⟨_, _, z3⟩, z4, z5, hl1.at fun o e => hk _ o e, hl2.at fun o e => hk _ o e⟩, ?_, kp_trans k₁ ⟨h', s₁.toks, rfl, hk⟩, ?_⟩
  · have W' := It.ofWalksT (elts := elts) (k := k) (pos := tp) W ?_
    · refine ⟨W'.sub, W'.frame, W'.live, fun i s Q E hi st hQ => W'.item i s Q E hi st fun v h' tk p st' kk => hQ v h' tk ?_ st' kk, W'.done, W'.self⟩
      obtain ⟨T, vals, rfl, hT, a, b, ha, hb, rfl⟩ := p
      exact ⟨T, a, b, rfl, hT, by simpa using ha, by simpa using hb⟩
    · rintro i h ⟨q1, q2, ⟨a, b, q3⟩, ⟨o4, q4, _⟩, ⟨o5, q5, _⟩, ⟨o6, q6, _⟩, ⟨o7, q7, _⟩⟩ b hb
      simp only [List.mem_cons, List.not_mem_nil, or_false] at hb
      rcases hb with rfl | rfl | rfl | rfl | rfl | rfl | rfl
      · exact ⟨_, q1⟩
      · exact ⟨_, q2⟩
      · exact ⟨_, q3⟩
      · exact ⟨_, q4⟩
      · exact ⟨_, q5⟩
      · exact ⟨_, q6⟩
      · exact ⟨_, q7⟩
  · intro b hb
    simp only [List.mem_cons, List.not_mem_nil, or_false] at hb
    rcases hb with rfl | rfl | rfl | rfl
    · exact fresh 4
    · exact fresh 3
    · simpa using fresh 0
    · exact fresh 1
  · intro b hb
    simp only [List.mem_cons, List.not_mem_nil, or_false] at hb ⊢
    rcases hb with rfl | rfl | rfl | rfl | rfl | rfl | rfl
    · exact Or.inl (fresh₀ 4)
    · exact Or.inl (fresh₀ 2)
    · exact Or.inl (fresh₀ 3)
    · exact Or.inl (by simpa using fresh₀ 0)
    · exact Or.inl (fresh₀ 1)
    · exact Or.inr (Or.inl rfl)
    · exact Or.inr (Or.inr (Or.inl rfl))
end
end Mine
end
section
open PySem PySem.W PyProof.Rows PySem.Calls
namespace Mine

theorem paired_get {α : Type} {G : α → Value → Prop} {as : List α} {vs : List Value} (h : Paired G as vs) : ∀ {i : Nat} {v : Value}, vs[i]? = some v → ∃ a, as[i]? = some a ∧ G a v := by
  induction h with
  | nil => intro i v h; simp at h
  | cons h1 _ ih =>
    intro i v hv
    cases i with
    | zero => simp at hv; subst hv; exact ⟨_, rfl, h1⟩
    | succ i => simpa using ih (by simpa using hv)
theorem paired_of {α : Type} {F : α → Value → Prop} : ∀ {as : List α} {ys : List Value}, ys.length = as.length → (∀ (j : Nat) y a, ys[j]? = some y → as[j]? = some a → F a y) → Paired F as ys
  | [], [], _, _ => .nil
  | [], _ :: _, h, _ => by simp at h
  | _ :: _, [], h, _ => by simp at h
  | a :: as, y :: ys, h, hf => .cons (hf 0 y a rfl rfl) (paired_of (by simpa using h) fun j y' a' h1 h2 => hf (j + 1) y' a' (by simpa using h1) (by simpa using h2))
theorem paired_mono {α : Type} {F G : α → Value → Prop} {as : List α} {vs : List Value} (h : Paired F as vs) (hf : ∀ a v, F a v → G a v) : Paired G as vs := by
  induction h with
  | nil => exact .nil
  | cons h1 _ ih => exact .cons (hf _ _ h1) ih
theorem paired_map {α β : Type} {F : β → Value → Prop} {f : α → β} {as : List α} {vs : List Value} (h : Paired (fun a v => F (f a) v) as vs) : Paired F (as.map f) vs := by
  induction h with
  | nil => exact .nil
  | cons h1 _ ih => exact .cons h1 ih
theorem paired_ints {vs : List Value} {ns : List Int} (h : Paired IsI ns vs) : IntsAre vs ns := by
  induction h with
  | nil => exact .nil
  | cons h1 _ ih => obtain ⟨t, rfl⟩ := h1; exact .cons _ _ ih
theorem paired_strs {vs : List Value} {xs : List Str} (h : Paired IsS xs vs) : StrsAre vs xs := by
  induction h with
  | nil => exact .nil
  | cons h1 _ ih => obtain ⟨t, rfl⟩ := h1; exact .cons _ _ ih
theorem ints_paired {vs : List Value} {ns : List Int} (h : IntsAre vs ns) : Paired IsI ns vs := by
  induction h with
  | nil => exact .nil
  | cons n t _ ih => exact .cons ⟨t, rfl⟩ ih

/-- texts one behind the other -/
def cat (xs : List Str) : Str := ⟨(xs.flatMap (·.cps.toList)).toArray⟩
theorem join_cat (xs : List Str) : Txt.join (Str.ofString "") xs = cat xs := by
  unfold Txt.join
  rw [StrLaws.glued_eq_join]
  induction xs with
  | nil => rfl
  | cons x r ih =>
    cases r with
    | nil => simp [Str.join, cat]
    | cons y r =>
      show x ++ Str.ofString "" ++ Str.join (Str.ofString "") (y :: r) = _
      rw [ih]
      apply Str.ext'
      show ((x.cps ++ (Str.ofString "").cps) ++ (cat (y :: r)).cps) = (cat (x :: y :: r)).cps
      have : (Str.ofString "").cps = #[] := by decide
      rw [this]
      simp [cat]
theorem cat_len (xs : List Str) : (cat xs).length = (xs.map (·.length)).sum := by
  show ((xs.flatMap (·.cps.toList)).toArray).size = _
  induction xs with
  | nil => rfl
  | cons x r ih => simp [Str.length] at ih ⊢; try exact ih

section
variable {prog : Program} {w : World} {A : Around} {s₀ : Shared} {env : Env}

theorem ev_compP {α : Type} {x : Str} {px : Pos} {elt iter : Expr} {scope : Scope} {cl : List (Str × Addr)} {pos : Pos} {as : List α} {vs : List Value} {F0 : List Addr} (G F : α → Value → Prop) (hh : A.handled = none) (hG : Paired G as vs)
    (hsrc : Ev prog w A s₀ (eval iter env) (fun v c => ∃ l, v = .ref l ∧ c.heap.IsList l vs.toArray ∧ (s₀.heap.get? l = none ∨ l ∈ F0))) (hsz : as.length ≤ sizeLine)
    (helt : ∀ C a v s₁ m₁, a ∈ as → G a v → (∀ b o, s₀.heap.get? b = some o → s₁.heap.get? b = some o) → s₁.heap.Ns C m₁ → m₁ x = some v → Ev prog w A s₁ (eval elt (compEnvC scope cl C env)) (fun y _ => F a y))
    (hclos : closureFor scope env = pure cl) (hcell : (scope.names.all fun y => y.2 != .cell) = true := by decide) (hkind : scope.kind = .function := by rfl)
    (hnames : (scope.names.all fun y => y.2 != .local || scope.names.lookup y.1 == some .local) = true := by decide)
    (hs : ∀ x, foldedSetIterable iter env x = pure x := by intro _; rfl) (hl : ∀ C, (compEnvC scope cl C env).kindOf x = some .local := by intro _; rfl)
    (hp : ∀ C, ((compEnvC scope cl C env).scope.kind == .class || ((compEnvC scope cl C env).scope.kind == .module && (compEnvC scope cl C env).locals != (compEnvC scope cl C env).globals)) = false := by intro _; rfl) :
    Ev prog w A s₀ (eval (.ListComp elt [⟨.Name x px, iter, [], 0⟩] scope pos) env) (fun r c => ∃ D ys, r = .ref D ∧ c.heap.PlainList D ys.toArray ∧ Paired F as ys ∧ s₀.heap.get? D = none) :=
  (ev_compL (fun j y => ∀ a, as[j]? = some a → F a y) hh hsrc (by rw [← hG.length]; exact hsz) (fun C i v s₁ m₁ hk hn hm hv => by
    obtain ⟨a, ha, hGa⟩ := paired_get hG hv
    exact (helt C a v s₁ m₁ (List.mem_of_getElem? ha) hGa hk hn hm).mono fun y s _ hy a' ha' => by
      rw [ha] at ha'; cases ha'; exact hy) hclos hcell hkind hnames hs hl hp).mono fun r c _ ⟨D, ys, h1, h2, h3, h4, h5⟩ => ⟨D, ys, h1, h2, paired_of (by rw [h3, hG.length]) fun j y a hy ha => h4 j y hy a ha, h5⟩

theorem st_compP {α : Type} {s c : Shared} {L : Addr} {m : Str → Option Value} {y : Str} {py spos : Pos} {rest : List Stmt} {Q : Flow → Shared → Prop} {E : Value → Shared → Prop} {x : Str} {px : Pos} {elt iter : Expr} {scope : Scope} {cl : List (Str × Addr)} {pos : Pos} {as : List α} {vs : List Value} {F0 : List Addr} (G F : α → Value → Prop)
    (i : InCall s L m c) (hL : env.locals = L) (hh : A.handled = none) (hG : Paired G as vs)
    (hsrc : Ev prog w A c (eval iter env) (fun v c' => ∃ l, v = .ref l ∧ c'.heap.IsList l vs.toArray ∧ (c.heap.get? l = none ∨ l ∈ F0))) (hsz : as.length ≤ sizeLine)
    (helt : ∀ C a v s₁ m₁, a ∈ as → G a v → (∀ b o, c.heap.get? b = some o → s₁.heap.get? b = some o) → s₁.heap.Ns C m₁ → m₁ x = some v → Ev prog w A s₁ (eval elt (compEnvC scope cl C env)) (fun y _ => F a y))
    (h : ∀ D ys c₂, c₂.heap.PlainList D ys.toArray → Paired F as ys → c.heap.get? D = none → InCall s L (fun z => if z = y then some (.ref D) else m z) c₂ → KeepsBut L c c₂ → wpAny (model prog w) A (execs rest env) Q E c₂)
    (hclos : closureFor scope env = pure cl) (hcell : (scope.names.all fun y => y.2 != .cell) = true := by decide) (hkind : scope.kind = .function := by rfl)
    (hnames : (scope.names.all fun y => y.2 != .local || scope.names.lookup y.1 == some .local) = true := by decide)
    (hs : ∀ x, foldedSetIterable iter env x = pure x := by intro _; rfl) (hl : ∀ C, (compEnvC scope cl C env).kindOf x = some .local := by intro _; rfl)
    (hp : ∀ C, ((compEnvC scope cl C env).scope.kind == .class || ((compEnvC scope cl C env).scope.kind == .module && (compEnvC scope cl C env).locals != (compEnvC scope cl C env).globals)) = false := by intro _; rfl)
    (hsw : swapsWith (.ListComp elt [⟨.Name x px, iter, [], 0⟩] scope pos) (some (.Name y py)) spos.line env = pure true := by rfl)
    (hy : env.kindOf y = some .local := by rfl) (hp' : (env.scope.kind == .class || (env.scope.kind == .module && env.locals != env.globals)) = false := by rfl) :
    wpAny (model prog w) A (execs (.Assign [.Name y py] (.ListComp elt [⟨.Name x px, iter, [], 0⟩] scope pos) spos :: rest) env) Q E c :=
  st_assign_comp (fun i m => ∃ v, m x = some v ∧ vs[i]? = some v) (fun _ i ys _ => ys.length = i ∧ AllAt (fun j y => ∀ a, as[j]? = some a → F a y) ys) i hL (src_list hh hsrc) (by rw [← hG.length]; exact hsz) (binds_name (fun _ => rfl) hl hp)
    (fun _ _ => ⟨rfl, fun j y h => by simp at h⟩) (fun _ _ _ _ _ h _ => h) (fun _ _ _ _ _ h _ => h)
    (fun C X i s₁ m₁ ys hi hk hn hT hR hX => by
      obtain ⟨v, hv, hvs⟩ := hT
      obtain ⟨rfl, hA⟩ := hR
      obtain ⟨a, ha, hGa⟩ := paired_get hG hvs
      refine ⟨true, fun s E _ => wpAny_pure ⟨rfl, kp_refl _⟩, fun h => (by cases h), fun _ => ?_⟩
      exact (helt C a v s₁ m₁ (List.mem_of_getElem? ha) hGa hk hn hv).mono fun y s _ hy => ⟨by simp, hA.snoc fun a' ha' => by rw [ha] at ha'; cases ha'; exact hy⟩)
    (fun D ys X c₂ hD hR hDn i₂ kb => h D ys c₂ hD (paired_of (by rw [hR.1, hG.length]) fun j y a hy ha => hR.2 j y hy a ha) hDn i₂ kb) hclos hcell hkind hnames hs hsw hy hp'

theorem ev_join {l : Addr} {vs : List Value} {xs : List Str} {v : Value} (hv : IsS (Str.ofString "") v) (hl : s₀.heap.IsList l vs.toArray) (hx : Paired IsS xs vs) (hsz : (xs.map (·.length)).sum ≤ 16777216) :
    Ev prog w A s₀ (call (.builtin "str.join") [v, .ref l]) (fun u _ => IsS (cat xs) u) := by
  obtain ⟨t, rfl⟩ := hv
  intro s E k
  refine join_list (hl.at fun o e => kp_get k e) (by simpa using paired_strs hx) ?_ fun t' tk => ⟨⟨t', by rw [join_cat]⟩, kp_tok _ _⟩
  have : (Str.ofString "").length = 0 := by decide
  rw [this]; omega
theorem ev_listS {x : Str} {v : Value} (hh : A.handled = none) (hv : IsS x v) (hsz : x.length ≤ sizeLine) :
    Ev prog w A s₀ (call (.type "list") [v]) (fun u c => ∃ D ys, u = .ref D ∧ c.heap.PlainList D ys.toArray ∧ Paired (fun c y => IsS ⟨#[c]⟩ y) x.cps.toList ys ∧ s₀.heap.get? D = none) := by
  obtain ⟨t, rfl⟩ := hv
  intro s E k
  refine call_list_str hh x t (hn := hsz) fun h' tk acc' c' hk hS' hacc => ⟨⟨_, acc'.toList, rfl, ⟨c', by simpa using hS'⟩, paired_of (by simpa using hacc.1) fun j y a hy ha => ?_, kp_new k⟩, ⟨h', tk, rfl, hk⟩⟩
  obtain ⟨c, u, h1, rfl⟩ := hacc.2 j y (by simpa using hy)
  rw [Array.getElem?_toList, h1] at ha
  cases ha
  exact ⟨u, rfl⟩
theorem ev_max {l : Addr} {vs : List Value} {ns : List Int} (hh : A.handled = none) (hl : s₀.heap.IsList l vs.toArray) (hi : Paired IsI ns vs) (hne : 0 < ns.length) :
    Ev prog w A s₀ (call (.builtin "max") [.ref l]) (fun v _ => ∃ M, IsI M v ∧ M ∈ ns ∧ ∀ a ∈ ns, a ≤ M) := by
  intro s E k
  have hi := paired_ints hi
  obtain ⟨xs, e⟩ := hi.allInts.items
  have hns : ns = xs.toList.map (·.1) := by
    rw [← hi.numsOf, ← nums_intItems, ← e]
  have hsz : 0 < xs.size := by
    have h3 := hne; rw [hns, List.length_map, Array.length_toList] at h3; exact h3
  rw [e] at hl
  refine max_intList hh (hl.at fun o e => kp_get k e) hsz fun v h' tk hv hk => ⟨?_, ⟨h', tk, rfl, hk⟩⟩
  obtain ⟨t, rfl⟩ := intItems_at hv
  obtain ⟨h1, h2⟩ := argBest_gt (numAt xs) (xs.size - 1)
  refine ⟨_, ⟨t, rfl⟩, ?_, fun a ha => ?_⟩
  · rw [hns, numAt_eq]; exact getD_mem (by rw [List.length_map, Array.length_toList]; omega)
  · rw [hns] at ha
    obtain ⟨j, hj, rfl⟩ := mem_getD ha
    rw [List.length_map, Array.length_toList] at hj
    rw [← numAt_eq]; exact h2 j (by omega)
end
end Mine
end
section
open PySem PySem.W PyProof.Rows PySem.Calls PySem.SeqAt
namespace Mine
section
variable {prog : Program} {w : World} {A : Around} {s₀ : Shared} {env : Env}

theorem ev_sum {l : Addr} {vs : List Value} {ns : List Int} (hh : A.handled = none) (hl : s₀.heap.IsList l vs.toArray) (hi : Paired IsI ns vs) (hfit : PySem.SumFits ns) :
    Ev prog w A s₀ (call (.builtin "sum") [.ref l]) (fun v _ => IsI ns.sum v) := by
  intro s E k
  have hi := paired_ints hi
  obtain ⟨xs, e⟩ := hi.allInts.items
  have hns : ns = xs.toList.map (·.1) := by
    rw [← hi.numsOf, ← nums_intItems, ← e]
  rw [e] at hl
  refine sum_intList hh (hl.at fun o e => kp_get k e) (fun j hj => ?_) fun h' tk t' hk => ⟨⟨t', ?_⟩, ⟨h', tk, rfl, hk⟩⟩
  · rw [numAt_eq, preSum_eq, ← hns]
    exact hfit j (by rw [hns]; simpa using hj)
  · rw [preSum_eq, List.take_of_length_le (by simp), hns]

theorem notIn_bools {l : Addr} {vs : List Value} {bs : List Bool} (hl : s₀.heap.IsList l vs.toArray) (hb : Paired IsB bs vs) :
    Ev prog w A s₀ (compareOp .NotIn (.bool false) (.ref l)) (fun v _ => IsB (bs.all id) v) := by
  intro s E k
  refine notIn_listAt (fun v => v == .bool false) (hl.at fun o e => kp_get k e) (fun y hy => ?_) ⟨?_, kp_refl _⟩
  · have hy' : y ∈ vs := by simpa using hy
    obtain ⟨i, hi⟩ := List.getElem?_of_mem hy'
    obtain ⟨b, _, hb'⟩ := paired_get hb hi
    cases hb'
    have := EqAt.bool_bool (A := A.in1) (s := s) b false
    have e : (Value.bool b == Value.bool false) = (b == false) := by cases b <;> decide
    show EqAt _ _ _ _ (Value.bool b == Value.bool false)
    rw [e]; exact this
  · show Value.bool _ = Value.bool _
    have : vs.toArray.any (fun v => v == .bool false) = !bs.all id := by
      rw [List.any_toArray]
      clear hl
      induction hb with
      | nil => rfl
      | cons h1 _ ih =>
        cases h1
        rw [List.any_cons, List.all_cons, ih]
        rename_i b _ _ _
        cases b <;> simp
    rw [this, Bool.not_not]
theorem in_ints {l : Addr} {vs : List Value} {ns : List Int} {n : Int} {u : Value} (hu : IsI n u) (hl : s₀.heap.IsList l vs.toArray) (hb : Paired IsI ns vs) :
    Ev prog w A s₀ (compareOp .In u (.ref l)) (fun v _ => IsB (ns.contains n) v) := by
  obtain ⟨t, rfl⟩ := hu
  intro s E k
  refine in_listAt (fun v => match v with | .int m _ => m == n | _ => false) (hl.at fun o e => kp_get k e) (fun y hy => ?_) ⟨?_, kp_refl _⟩
  · have hy' : y ∈ vs := by simpa using hy
    obtain ⟨i, hi⟩ := List.getElem?_of_mem hy'
    obtain ⟨b, _, t', rfl⟩ := paired_get hb hi
    exact EqAt.int_int b t' n t
  · show Value.bool _ = Value.bool _
    congr 1
    rw [List.any_toArray]
    clear hl
    induction hb with
    | nil => rfl
    | cons h1 _ ih =>
      obtain ⟨t', rfl⟩ := h1
      rw [List.any_cons, List.contains_cons, ih]
      congr 1
      exact BEq.comm
theorem in_strs {l : Addr} {vs : List Value} {ns : List Str} {n : Str} {u : Value} (hu : IsS n u) (hl : s₀.heap.IsList l vs.toArray) (hb : Paired IsS ns vs) :
    Ev prog w A s₀ (compareOp .In u (.ref l)) (fun v _ => IsB (ns.contains n) v) := by
  obtain ⟨t, rfl⟩ := hu
  intro s E k
  refine in_listAt (fun v => match v with | .str m _ => m == n | _ => false) (hl.at fun o e => kp_get k e) (fun y hy => ?_) ⟨?_, kp_refl _⟩
  · have hy' : y ∈ vs := by simpa using hy
    obtain ⟨i, hi⟩ := List.getElem?_of_mem hy'
    obtain ⟨b, _, t', rfl⟩ := paired_get hb hi
    exact (eqGives_str b n t' t).at _ _
  · show Value.bool _ = Value.bool _
    congr 1
    rw [List.any_toArray]
    clear hl
    induction hb with
    | nil => rfl
    | cons h1 _ ih =>
      obtain ⟨t', rfl⟩ := h1
      rw [List.any_cons, List.contains_cons, ih]
      congr 1
      exact BEq.comm

/-- a display of constants -/
theorem ev_spliceI {pos : Pos} : ∀ {es : List Expr} {ns : List Int}, es.length = ns.length → (∀ (i : Nat) (e : Expr) (n : Int), es[i]? = some e → ns[i]? = some n → ∃ k p, e = .Constant (.int n) k p) →
    Ev prog w A s₀ (spliced (backTo pos (starEach es env))) (fun vs _ => Paired IsI ns vs)
  | [], [], _, _ => Ev.of fun s Q E k hQ => spliced_none (hQ _ _ (kp_refl _) .nil)
  | [], _ :: _, h, _ => by simp at h
  | _ :: _, [], h, _ => by simp at h
  | e :: es, n :: ns, h, hf => by
    obtain ⟨k, p, rfl⟩ := hf 0 e n rfl rfl
    exact Ev.of fun s Q E kk hQ => spliced_more (ev_int.at kk fun v s₁ k₁ hv => (ev_spliceI (ns := ns) (by simpa using h) fun i e' n' h1 h2 => hf (i + 1) e' n' (by simpa using h1) (by simpa using h2)).at (kp_trans kk k₁)
      fun vs s₂ k₂ hvs => hQ _ s₂ (kp_trans k₁ k₂) (.cons hv hvs))
theorem ev_spliceS {pos : Pos} : ∀ {es : List Expr} {ns : List Str}, es.length = ns.length → (∀ (i : Nat) (e : Expr) (n : Str), es[i]? = some e → ns[i]? = some n → ∃ k p, e = .Constant (.str n) k p) →
    Ev prog w A s₀ (spliced (backTo pos (starEach es env))) (fun vs _ => Paired IsS ns vs)
  | [], [], _, _ => Ev.of fun s Q E k hQ => spliced_none (hQ _ _ (kp_refl _) .nil)
  | [], _ :: _, h, _ => by simp at h
  | _ :: _, [], h, _ => by simp at h
  | e :: es, n :: ns, h, hf => by
    obtain ⟨k, p, rfl⟩ := hf 0 e n rfl rfl
    exact Ev.of fun s Q E kk hQ => spliced_more (ev_str.at kk fun v s₁ k₁ hv => (ev_spliceS (ns := ns) (by simpa using h) fun i e' n' h1 h2 => hf (i + 1) e' n' (by simpa using h1) (by simpa using h2)).at (kp_trans kk k₁)
      fun vs s₂ k₂ hvs => hQ _ s₂ (kp_trans k₁ k₂) (.cons hv hvs))
theorem ev_List {es : List Expr} {pos : Pos} {P : List Value → Shared → Prop} (h : Ev prog w A s₀ (spliced (backTo pos (starEach es env))) P) (hsz : ∀ vs s, P vs s → vs.length ≤ sizeLine) (hm : ∀ vs s s', Keeps s s' → P vs s → P vs s') :
    Ev prog w A s₀ (eval (.List es pos) env) (fun v c => ∃ l vs, v = .ref l ∧ c.heap.PlainList l vs.toArray ∧ P vs c ∧ s₀.heap.get? l = none) :=
  Ev.of fun s Q E k hQ => wpAny_List (h.at k fun vs s₁ k₁ hv => ⟨hsz vs s₁ hv, hQ _ _ (kp_trans k₁ (kp_push _ _)) ⟨_, vs, rfl, ⟨0, push_live⟩, hm _ _ _ (kp_push _ _) hv, kp_new (kp_trans k k₁)⟩⟩)
theorem ev_Tuple2 {e₁ e₂ : Expr} {pos : Pos} {k : Nat} {P1 P2 : Value → Shared → Prop} (h1 : Ev prog w A s₀ (eval e₁ env) P1) (h2 : ∀ s₁, Keeps s₀ s₁ → Ev prog w A s₁ (eval e₂ env) P2) (hm : ∀ v s s', Keeps s s' → P1 v s → P1 v s') (hm2 : ∀ v s s', Keeps s s' → P2 v s → P2 v s')
    (he : starEach [e₁, e₂] env = (false, eval e₁ env) :: starEach [e₂] env := by rfl) (he' : starEach [e₂] env = (false, eval e₂ env) :: starEach [] env := by rfl) :
    Ev prog w A s₀ (eval (.Tuple [e₁, e₂] k pos) env) (fun v c => ∃ t a b, v = .ref t ∧ c.heap.IsTuple t #[a, b] ∧ P1 a c ∧ P2 b c ∧ s₀.heap.get? t = none) :=
  Ev.of fun s Q E kk hQ => wpAny_Tuple (spliced_more (h1.at kk fun a s₁ k₁ ha => spliced_more ((h2 s₁ (kp_trans kk k₁)).use fun b s₂ k₂ hb => spliced_none ⟨show 2 ≤ 2 ^ 24 from by decide,
    hQ _ _ (kp_trans (kp_trans k₁ k₂) (kp_push _ _)) ⟨_, a, b, rfl, ⟨_, push_live, rfl, 0, rfl⟩, hm _ _ _ (kp_trans k₂ (kp_push _ _)) ha, hm2 _ _ _ (kp_push _ _) hb, kp_new (kp_trans (kp_trans kk k₁) k₂)⟩⟩) he') he)

/-- a method of a text -/
theorem ev_methS1 {o e : Expr} {name : Str} {id : String} {apos pos : Pos} {x : Str} {P1 P : Value → Shared → Prop} (slot : Slot "str" name id) (hty : typeOf (.builtin id) = pure (.type "method_descriptor"))
    (ho : Ev prog w A s₀ (eval o env) (fun v _ => IsS x v)) (he : Ev prog w A s₀ (eval e env) P1) (hc : ∀ ov v s₂, IsS x ov → Keeps s₀ s₂ → P1 v s₂ → Ev prog w A s₂ (call (.builtin id) [ov, v]) P)
    (hbase : attributeBase o name env (eval o env) = eval o env := by rfl) (hline : (apos.endLine == pos.line) = true := by decide) (htrees : backTo pos (starEach [e] env) = [(false, eval e env)] := by rfl) :
    Ev prog w A s₀ (eval (.Call (.Attribute o name apos) [e] [] pos) env) P :=
  Ev.of fun s Q E k hQ => wpAny_Call_method1_late hbase hline htrees (ho.at k fun ov s₁ k₁ hov => by
    obtain ⟨t, rfl⟩ := hov
    refine ⟨"str", id, F.plainAttrs_str, slot, hty, typeIs_str _ _ _, fun a e => (by cases e), ?_⟩
    refine callWith_builtin rfl (evalArgs_plain (spliced_cons (he.at (kp_trans k k₁) fun v s₂ k₂ hv => spliced_nil ?_)))
    exact (hc _ v s₂ ⟨t, rfl⟩ (kp_trans (kp_trans k k₁) k₂) hv).use fun r s₃ k₃ hr => hQ r s₃ (kp_trans (kp_trans k₁ k₂) k₃) hr)

/-- l.append(e), l a plain list of the frame's -/
theorem st_append {s c : Shared} {L : Addr} {m : Str → Option Value} {o e : Expr} {apos pos epos : Pos} {rest : List Stmt} {D : Addr} {ys : List Value} {P : Value → Shared → Prop} {Q : Flow → Shared → Prop} {E : Value → Shared → Prop}
    (i : InCall s L m c) (hDL : D ≠ L) (hDs : s.heap.get? D = none) (ho : Ev prog w A c (eval o env) (fun v _ => v = .ref D)) (hD : c.heap.PlainList D ys.toArray) (hsz : ys.length ≤ sizeLine) (he : Ev prog w A c (eval e env) P)
    (h : ∀ v c₁ c₂, Keeps c c₁ → P v c₁ → InCall s L m c₂ → c₂.heap.PlainList D (ys ++ [v]).toArray → KeepsBut D c₁ c₂ → wpAny (model prog w) A (execs rest env) Q E c₂)
    (hbase : attributeBase o (Str.ofString "append") env (eval o env) = eval o env := by rfl) (hline : (apos.endLine == pos.line) = true := by decide) (htrees : backTo pos (starEach [e] env) = [(false, eval e env)] := by rfl)
    (hi : interactive env = false := by rfl) (hsw : swapsWith (.Call (.Attribute o (Str.ofString "append") apos) [e] [] pos) none epos.line env = pure false := by rfl) :
    wpAny (model prog w) A (execs (.Expr (.Call (.Attribute o (Str.ofString "append") apos) [e] [] pos) epos :: rest) env) Q E c := by
  refine wpAny_execs_cons (wpAny_Expr_any (wpAny_Call_method1_late hbase hline htrees (ho.use fun ov c₁ k₁ hov => ?_)) hi hsw)
  subst hov
  have hD₁ : c₁.heap.PlainList D ys.toArray := hD.at fun o e => kp_get k₁ e
  obtain ⟨n, hget⟩ := id hD₁
  refine ⟨"list", "list.append", F.plainAttrs_list, slot_list_append, F.type_list_append, ⟨_, hget, rfl⟩, fun a e => by cases e; exact ⟨_, hget, rfl⟩, ?_⟩
  refine callWith_builtin rfl (evalArgs_plain (spliced_cons (he.at k₁ fun v c₂ k₂ hv => spliced_nil ?_)))
  refine wpAny_list_append_plain (hsz := by simpa using hsz) (hD₁.at fun o e => kp_get k₂ e) fun h' hl' hs' => ?_
  have i₂ := InCall.kp i (kp_trans k₁ k₂)
  refine h v c₂ _ (kp_trans k₁ k₂) hv ⟨?_, i₂.ns.sameBut hs' (Ne.symm hDL), fun b o e => ?_, i₂.fresh⟩ (by simpa using hl') fun b o hb e => hs'.extBut b o hb e
  · obtain ⟨h₁, tk, e⟩ := i₂.same
    exact ⟨h', c₂.toks, by rw [e]⟩
  · exact hs'.extBut b o (fun e' => by subst e'; rw [hDs] at e; cases e) (i₂.keep b o e)
end
end Mine
end
section
open PySem PySem.W PyProof.Rows PySem.Calls
set_option maxRecDepth 100000
namespace Mine

/-- the text's defs, by their places -/
def fName : Stmt → Str
  | .FunctionDef n _ _ _ _ _ _ _ _ _ => n
  | _ => Str.empty
def fArgs : Stmt → Arguments
  | .FunctionDef _ a _ _ _ _ _ _ _ _ => a
  | _ => ⟨[], [], none, [], [], none, []⟩
def fBody : Stmt → List Stmt
  | .FunctionDef _ _ b _ _ _ _ _ _ _ => b
  | _ => []
def fScope : Stmt → Scope
  | .FunctionDef _ _ _ _ _ _ s _ _ _ => s
  | _ => default
def stAt (n : Nat) : Stmt := (PySem.Challenge.pw_mg0004_01.main.body).getD n (.Pass ⟨0, 0, 0, 0⟩)

def FnAt (mg : Str → Option Value) (h : Heap) (st : Stmt) (a : Addr) : Prop :=
  ∃ o pm code doc, mg (fName st) = some (.ref a) ∧ h.get? a = some o ∧ o.data = .func (docDef (fName st) (fArgs st) (fBody st) (fScope st) pm code doc) ∧ h.CodeRec code (fName st)

/-- what the calls need of the top -/
structure Base (mg mb : Str → Option Value) (h : Heap) : Prop where
  g : h.Ns mainGlobals mg
  b : h.Ns builtinsNs mb
  lim : h.NoLimit
  fn : ∀ n ∈ [1, 2, 3, 5, 6, 7, 8], ∃ a, FnAt mg h (stAt n) a
  free : ∀ x ∈ (["isinstance", "str", "ord", "chr", "divmod", "range", "list", "int", "sum", "zip", "max"] : List Str), mg x = none
  bb : ∀ x : Str, x ≠ "__name__" → mb x = bootBuiltins x

theorem FnAt.keeps {mg : Str → Option Value} {h h' : Heap} {st : Stmt} {a : Addr} (f : FnAt mg h st a) (hk : ∀ b o, h.get? b = some o → h'.get? b = some o) : FnAt mg h' st a :=
  let ⟨o, pm, code, doc, h1, h2, h3, h4⟩ := f; ⟨o, pm, code, doc, h1, hk _ _ h2, h3, h4.keeps hk⟩
theorem Base.keeps {mg mb : Str → Option Value} {h h' : Heap} (B : Base mg mb h) (hk : ∀ b o, h.get? b = some o → h'.get? b = some o) : Base mg mb h' :=
  ⟨B.g.keeps hk, B.b.keeps hk, B.lim.keeps hk, fun n hn => let ⟨a, f⟩ := B.fn n hn; ⟨a, f.keeps hk⟩, B.free, B.bb⟩

theorem bt_isinstance : bootBuiltins (Str.ofString "isinstance") = some (.builtin "isinstance") := by decide +kernel
theorem bt_str : bootBuiltins (Str.ofString "str") = some (.type "str") := by decide +kernel
theorem bt_ord : bootBuiltins (Str.ofString "ord") = some (.builtin "ord") := by decide +kernel
theorem bt_chr : bootBuiltins (Str.ofString "chr") = some (.builtin "chr") := by decide +kernel
theorem bt_divmod : bootBuiltins (Str.ofString "divmod") = some (.builtin "divmod") := by decide +kernel
theorem bt_range : bootBuiltins (Str.ofString "range") = some (.type "range") := by decide +kernel
theorem bt_list : bootBuiltins (Str.ofString "list") = some (.type "list") := by decide +kernel
theorem bt_int : bootBuiltins (Str.ofString "int") = some (.type "int") := by decide +kernel
theorem bt_sum : bootBuiltins (Str.ofString "sum") = some (.builtin "sum") := by decide +kernel
theorem bt_zip : bootBuiltins (Str.ofString "zip") = some (.type "zip") := by decide +kernel
theorem bt_max : bootBuiltins (Str.ofString "max") = some (.builtin "max") := by decide +kernel

/-- room: frames and C units -/
structure Room (A : Around) (n : Nat) : Prop where
  handled : A.handled = none
  depth : A.depth + n < recursionLimit
  units : A.units + 8 * n < cLine
theorem Room.deeper {A : Around} {n : Nat} (r : Room A (n + 1)) (env : Env) : Room (A.deeper env) n :=
  ⟨r.handled, by have := r.depth; show A.depth + 1 + n < _; omega, by have := r.units; show A.units + 3 + 8 * n < _; omega⟩
theorem Room.less {A : Around} {n m : Nat} (r : Room A n) (h : m ≤ n) : Room A m := ⟨r.handled, by have := r.depth; omega, by have := r.units; omega⟩

section
variable {prog : Program} {w : World} {A : Around} {s₀ : Shared} {env : Env} {mg mb : Str → Option Value}

theorem ev_bname {x : Str} {pos : Pos} {v : Value} (B : Base mg mb s₀.heap) (hx : x ∈ (["isinstance", "str", "ord", "chr", "divmod", "range", "list", "int", "sum", "zip", "max"] : List Str)) (hv : bootBuiltins x = some v)
    (hg : env.globals = mainGlobals := by rfl) (hbn : env.builtins = builtinsNs := by rfl) (hk : env.scope.kind = .function := by rfl) (hl : env.kindOf x = some .globalImplicit := by rfl)
    (hd : (x == ("__debug__" : Str)) = false := by decide) (hn : x ≠ "__name__" := by decide) : Ev prog w A s₀ (eval (.Name x pos) env) (fun u _ => u = v) :=
  ev_blt (hg ▸ B.g) (B.free x hx) (hbn ▸ B.b) ((B.bb x hn).trans hv) hk hl hd

/-- what a code is -/
def CodeIs (c : Int) (v : Value) : Prop := IsI c v ∨ (0 ≤ c ∧ IsS ⟨#[c.toNat]⟩ v)

/-- the frame of a call of st -/
def fenv (st : Stmt) (pm code doc : Value) (L a : Addr) : Env := callEnv (docDef (fName st) (fArgs st) (fBody st) (fScope st) pm code doc) L a

theorem enter {st : Stmt} {a : Addr} {vals : List Value} {binds : List (Str × Value)} {P : Value → Shared → Prop} (lim : s₀.heap.NoLimit) (R : A.depth < recursionLimit) (f : FnAt mg s₀.heap st a)
    (hbind : ∀ pm code doc, bindArgs (docDef (fName st) (fArgs st) (fBody st) (fScope st) pm code doc) ⟨vals, []⟩ = pure binds)
    (h : ∀ pm code doc s L s₁, Keeps s₀ s → InCall s L (fun x => binds.reverse.lookup x) s₁ →
      wpAny (model prog w) (A.deeper (fenv st pm code doc L a)) (execs (fBody st) (fenv st pm code doc L a)) (fun f s' => P (match f with | .ret v => v | _ => .none) s' ∧ Keeps s s') (fun _ _ => False) s₁)
    (hcell : ((fScope st).names.all fun x => x.2 != .cell) = true := by decide) (hloc : (binds.all fun x => decide ((fScope st).names.lookup x.1 = some .local)) = true := by rfl)
    (hco : (fScope st).isCoroutine = false := by rfl) (hgen : (fScope st).isGenerator = false := by rfl) (hk : (fScope st).kind = .function := by rfl) :
    Ev prog w A s₀ (call (.ref a) vals) P := by
  obtain ⟨o, pm, code, doc, h1, h2, h3, h4⟩ := f
  exact ev_enter R h2 h3 lim h4 rfl (hbind pm code doc) (fun x hx => by simpa using List.all_eq_true.mp hcell x hx) (locs hloc) (fun s L s₁ k i => h pm code doc s L s₁ k i) hco hgen hk

theorem ctoi_call {c : Int} {v : Value} {a : Addr} (B : Base mg mb s₀.heap) (R : Room A 1) (f : FnAt mg s₀.heap (stAt 1) a) (hv : CodeIs c v) :
    Ev prog w A s₀ (call (.ref a) [v]) (fun u _ => IsI c u) := by
  refine enter B.lim (by have := R.depth; omega) f (binds := [(Str.ofString "c", v)]) (fun _ _ _ => rfl) fun pm code doc s L s₁ k i => ?_
  have B₁ := B.keeps (kp_keep (kp_trans k (InCall.keeps i)))
  have hc : ∀ pos, Ev prog w (A.deeper (fenv (stAt 1) pm code doc L a)) s₁ (eval (.Name (Str.ofString "c") pos) (fenv (stAt 1) pm code doc L a)) (fun u _ => u = v) := fun pos => ev_loc i.ns rfl
  rcases hv with hv | ⟨h0, hv⟩
  · refine st_if (b := false) (ev_tval (ev_call2 (ev_bname B₁ (by decide) bt_isinstance) (hc _) (ev_bname B₁ (by decide) bt_str) (fun u t hu ht => by subst hu ht; exact ev_isiI hv)) ev_truB) (fun e => by cases e) fun _ c' k' => ?_
    exact st_ret ((hc _).later k') fun u c'' k'' hu => ⟨by subst hu; exact hv, kp_trans (InCall.keeps i) (kp_trans k' k'')⟩
  · refine st_if (b := true) (ev_tval (ev_call2 (ev_bname B₁ (by decide) bt_isinstance) (hc _) (ev_bname B₁ (by decide) bt_str) (fun u t hu ht => by subst hu ht; exact ev_isiS hv)) ev_truB) (fun _ c' k' => ?_) (fun e => by cases e)
    refine st_ret (ev_call1 (ev_bname (B₁.keeps (kp_keep k')) (by decide) bt_ord) ((hc _).later k') fun u s₂ k₂ hu => by subst hu; exact ev_ord hv) fun u c'' k'' hu => ⟨?_, kp_trans (InCall.keeps i) (kp_trans k' k'')⟩
    rwa [Int.toNat_of_nonneg h0] at hu
end
end Mine
end
section
open PySem PySem.W PyProof.Rows PySem.Calls
set_option maxRecDepth 100000
namespace Mine

theorem and128 (x : Int) : (Builtin.bitAnd x 128 != 0) = decide (x % 256 > 127) := by
  have key : ∀ n : Nat, n &&& 128 = if n % 256 > 127 then 128 else 0 := by
    intro n
    have h : n &&& 128 = (n % 256) &&& 128 := by
      have e := Nat.and_two_pow_sub_one_eq_mod n 8
      rw [show (256 : Nat) = 2 ^ 8 from rfl, ← e, Nat.and_assoc]; rfl
    have hd : ∀ k : Fin 256, k.val &&& 128 = if k.val % 256 > 127 then 128 else 0 := by decide +kernel
    have := hd ⟨n % 256, Nat.mod_lt _ (by decide)⟩
    rw [h, this, Nat.mod_mod]
  by_cases hx : 0 ≤ x
  · rw [bitAnd_pp hx (by decide)]
    rw [show Int.toNat 128 = 128 from rfl, key]
    have e : (x.toNat : Int) = x := Int.toNat_of_nonneg hx
    by_cases hc : x.toNat % 256 > 127
    · rw [if_pos hc]; simp; omega
    · rw [if_neg hc]; simp; omega
  · rw [bitAnd_np hx (by decide)]
    rw [show Int.toNat 128 = 128 from rfl, Nat.and_comm, key]
    have e : ((Builtin.bitNot x).toNat : Int) = -x - 1 := by unfold Builtin.bitNot; omega
    by_cases hc : (Builtin.bitNot x).toNat % 256 > 127
    · rw [if_pos hc]; simp; omega
    · rw [if_neg hc]; simp; omega
theorem or32 {x : Int} (h0 : 0 ≤ x) (h1 : x < 128) (h : ¬ (32 ≤ x ∧ x ≤ 126)) : Builtin.bitOr x 32 + 32 = if x = 127 then 159 else x + 64 := by
  have key : ∀ n : Fin 128, ¬ (32 ≤ ((n.val : Nat) : Int) ∧ ((n.val : Nat) : Int) ≤ 126) → Builtin.bitOr ((n.val : Nat) : Int) 32 + 32 = if ((n.val : Nat) : Int) = 127 then 159 else ((n.val : Nat) : Int) + 64 := by decide +kernel
  have := key ⟨x.toNat, by omega⟩
  simp only [Int.toNat_of_nonneg h0] at this
  exact this h

def uRep (c : Int) : Str := if c = 127 then Str.ofString "^?" else if 32 ≤ c % 128 ∧ c % 128 ≤ 126 then ⟨#[(c % 128).toNat]⟩ else Str.ofString "^" ++ ⟨#[(if c % 128 = 127 then 159 else c % 128 + 64 : Int).toNat]⟩
def unc (c : Int) : Str := if c % 256 > 127 then Str.ofString "!" ++ uRep c else uRep c
theorem uRep_len (c : Int) : (uRep c).length ≤ 2 := by
  unfold uRep; split
  · decide
  · split
    · show 1 ≤ 2; omega
    · rw [Str.length_append]; exact Nat.le_refl 2

section
variable {prog : Program} {w : World} {A : Around} {s₀ : Shared} {env : Env} {mg mb : Str → Option Value}

theorem isprint_call {c : Int} {v : Value} {a : Addr} (B : Base mg mb s₀.heap) (R : Room A 2) (f : FnAt mg s₀.heap (stAt 2) a) (hv : CodeIs c v) :
    Ev prog w A s₀ (call (.ref a) [v]) (fun u _ => IsB (decide (32 ≤ c ∧ c ≤ 126)) u) := by
  refine enter B.lim (by have := R.depth; omega) f (binds := [(Str.ofString "c", v)]) (fun _ _ _ => rfl) fun pm code doc s L s₁ k i => ?_
  have B₁ := B.keeps (kp_keep (kp_trans k (InCall.keeps i)))
  obtain ⟨a1, f1⟩ := B₁.fn 1 (by decide)
  obtain ⟨o1, _, _, _, g1, g2, g3, _⟩ := id f1
  refine st_ret (ev_chainLL ev_int (ev_callF (ev_glob B₁.g g1) g2 g3 (ev_loc i.ns rfl) fun u s₂ k₂ hu => ?_) ev_int) fun u c'' k'' hu => ⟨hu, kp_trans (InCall.keeps i) k''⟩
  subst hu
  exact ctoi_call (B₁.keeps (kp_keep k₂)) (R.deeper _) (f1.keeps (kp_keep k₂)) hv

theorem unctrl_call {c : Int} {v : Value} {a : Addr} (B : Base mg mb s₀.heap) (R : Room A 3) (f : FnAt mg s₀.heap (stAt 3) a) (hv : CodeIs c v) :
    Ev prog w A s₀ (call (.ref a) [v]) (fun u _ => IsS (unc c) u) := by
  refine enter B.lim (by have := R.depth; omega) f (binds := [(Str.ofString "c", v)]) (fun _ _ _ => rfl) fun pm code doc s L s₁ k i => ?_
  have B₁ := B.keeps (kp_keep (kp_trans k (InCall.keeps i)))
  obtain ⟨a1, f1⟩ := B₁.fn 1 (by decide)
  obtain ⟨o1, _, _, _, g1, g2, g3, _⟩ := id f1
  refine st_assign i rfl (P := fun u _ => IsI c u) (ev_callF (ev_glob B₁.g g1) g2 g3 (ev_loc i.ns rfl) fun u s₂ k₂ hu => by
    subst hu; exact ctoi_call (B₁.keeps (kp_keep k₂)) ((R.deeper _).less (by omega)) (f1.keeps (kp_keep k₂)) hv) fun bits c₁ c₂ k₁ hb i₂ kb => ?_
  have B₂ := B.keeps (kp_keep (kp_trans k (InCall.keeps i₂)))
  have hbits : ∀ (c' : Shared) pos, Keeps c₂ c' → Ev prog w (A.deeper (fenv (stAt 3) pm code doc L a)) c' (eval (.Name (Str.ofString "bits") pos) (fenv (stAt 3) pm code doc L a)) (fun u _ => IsI c u) :=
    fun c' pos k' => (ev_loc (kp_ns k' i₂.ns) rfl).mono fun _ _ _ e => e ▸ hb
  -- the two rows behind
  have fin : ∀ c₃ (rep : Value) (m : Str → Option Value), InCall s L m c₃ → m (Str.ofString "bits") = some bits → m (Str.ofString "rep") = some rep → IsS (uRep c) rep →
      wpAny (model prog w) (A.deeper (fenv (stAt 3) pm code doc L a)) (execs ((fBody (stAt 3)).drop 2) (fenv (stAt 3) pm code doc L a)) (fun f s' => IsS (unc c) (match f with | .ret v => v | _ => .none) ∧ Keeps s s') (fun _ _ => False) c₃ := by
    intro c₃ rep m i₃ hm1 hm2 hrep
    refine st_if (b := (Builtin.bitAnd c 128 != 0)) (ev_tval (ev_and ((ev_loc i₃.ns hm1).mono fun _ _ _ e => e ▸ hb) ev_int) ev_truI) (fun e c₄ k₄ => ?_) (fun e c₄ k₄ => ?_)
    · refine st_ret (ev_addS ev_str ((ev_loc (kp_ns k₄ i₃.ns) hm2).mono fun _ _ _ e => e ▸ hrep) ?_) fun u c₅ k₅ hu => ⟨?_, kp_trans (InCall.keeps i₃) (kp_trans k₄ k₅)⟩
      · have := uRep_len c
        show 1 + (uRep c).length ≤ 2 ^ 24
        omega
      · rw [and128] at e
        unfold unc; rw [if_pos (of_decide_eq_true e)]; exact hu
    · refine wpAny_execs_nil ?_
      refine st_ret ((ev_loc (kp_ns k₄ i₃.ns) hm2).mono fun _ _ _ e => e ▸ hrep) fun u c₅ k₅ hu => ⟨?_, kp_trans (InCall.keeps i₃) (kp_trans k₄ k₅)⟩
      rw [and128] at e
      unfold unc; rw [if_neg (of_decide_eq_false e)]; exact hu
  refine st_if (b := (c == 127)) (ev_tEq (hbits _ _ (kp_refl _)) ev_int) (fun e c₄ k₄ => ?_) (fun e c₄ k₄ => ?_)
  · refine st_assign (InCall.kp i₂ k₄) rfl ev_str fun rep c₅ c₆ k₅ hr i₆ kb₆ => wpAny_execs_nil ?_
    refine fin c₆ rep _ i₆ rfl rfl ?_
    unfold uRep; rw [if_pos (by simpa using e)]; exact hr
  · have hne : c ≠ 127 := by simpa using e
    obtain ⟨a2, f2⟩ := (B₂.keeps (kp_keep k₄)).fn 2 (by decide)
    obtain ⟨o2, _, _, _, p1, p2, p3, _⟩ := id f2
    have B₄ := B₂.keeps (kp_keep k₄)
    refine st_if (b := decide (32 ≤ c % 128 ∧ c % 128 ≤ 126)) (ev_tval (p := IsB (decide (32 ≤ c % 128 ∧ c % 128 ≤ 126))) (ev_callF (ev_glob B₄.g p1) p2 p3 (ev_and (hbits _ _ k₄) ev_int) fun u s₂ k₂ hu => ?_) ev_truB) (fun e' c₅ k₅ => ?_) (fun e' c₅ k₅ => ?_)
    · rw [bitAnd_m7] at hu
      exact isprint_call (B₄.keeps (kp_keep k₂)) (R.deeper _) (f2.keeps (kp_keep k₂)) (Or.inl hu)
    · have hl := of_decide_eq_true e'
      refine st_assign (InCall.kp (InCall.kp i₂ k₄) k₅) rfl (P := fun u _ => IsS ⟨#[(c % 128).toNat]⟩ u) (ev_call1 (ev_bname (B₄.keeps (kp_keep k₅)) (by decide) bt_chr) (ev_and (hbits _ _ (kp_trans k₄ k₅)) ev_int) fun u s₂ k₂ hu => ?_) fun rep c₆ c₇ k₆ hr i₇ kb₇ => wpAny_execs_nil (wpAny_execs_nil ?_)
      · rw [bitAnd_m7] at hu
        exact ev_chr hu (by omega) (by omega)
      · refine fin c₇ rep _ i₇ rfl rfl ?_
        unfold uRep; rw [if_neg hne, if_pos hl]; exact hr
    · have hl := of_decide_eq_false e'
      refine st_assign (InCall.kp (InCall.kp i₂ k₄) k₅) rfl (P := fun u _ => IsS (Str.ofString "^" ++ ⟨#[(if c % 128 = 127 then 159 else c % 128 + 64 : Int).toNat]⟩) u)
        (ev_addS ev_str (ev_call1 (ev_bname (B₄.keeps (kp_keep k₅)) (by decide) bt_chr) (ev_add (ev_or (ev_and (hbits _ _ (kp_trans k₄ k₅)) ev_int) ev_int) ev_int) fun u s₂ k₂ hu => ?_) ?_) fun rep c₆ c₇ k₆ hr i₇ kb₇ => wpAny_execs_nil (wpAny_execs_nil ?_)
      · rw [bitAnd_m7, or32 (by omega) (by omega) hl] at hu
        exact ev_chr hu (by split <;> omega) (by split <;> omega)
      · show 1 + 1 ≤ 2 ^ 24
        decide
      · refine fin c₇ rep _ i₇ rfl rfl ?_
        unfold uRep; rw [if_neg hne, if_neg hl]; exact hr
end
end Mine
end
section
open PySem PySem.W PyProof.Rows PySem.Calls
set_option maxRecDepth 100000
namespace Mine

def lcode (n : Int) : Int :=
  if n % 12 < 5 then 32 + n / 12 % 95 else if n % 12 = 5 then n / 12 % 32 else if n % 12 = 6 then 127 + n / 12 % 420 * 128 else if n % 12 = 7 then n / 12 % 55296
  else if n % 12 = 8 then n / 12 else if n % 12 = 9 then -1 - n / 12 else if n % 12 = 10 then 127 + (n / 12 % 840 - 420) * 128 else n / 12 % 160
def lrounds (c : Int) : Int := if 32 ≤ c ∧ c < 127 then 0 else if c % 128 = 127 ∧ c ≠ 127 then 2 else 1
def lmark (c : Int) : Str := if c % 256 > 127 then Str.ofString "!" else Str.ofString ""
def lword (c : Int) : Str := if c = 127 then Str.ofString "^?" else if c % 128 = 127 then lmark c ++ Str.ofString "^!^_"
  else lmark c ++ (if c % 128 < 32 then Str.ofString "^" ++ ⟨#[(c % 128 + 64).toNat]⟩ else ⟨#[(c % 128).toNat]⟩)

theorem fd {a b : Int} (hb : 0 ≤ b) : a.fdiv b = a / b := Int.fdiv_eq_ediv_of_nonneg a hb
theorem fm {a b : Int} (hb : 0 ≤ b) : a.fmod b = a % b := Int.fmod_eq_emod_of_nonneg a hb

section
variable {prog : Program} {w : World} {A : Around} {s₀ : Shared} {env : Env} {mg mb : Str → Option Value}

theorem ev_neg {a : Int} {e : Expr} {pos : Pos} (h : Ev prog w A s₀ (eval e env) (fun v _ => IsI a v)) : Ev prog w A s₀ (eval (.UnaryOp .USub e pos) env) (fun v _ => IsI (-a) v) :=
  Ev.of fun s Q E k hQ => UnaryOp_ (h.at k fun v s₁ k₁ pv => by
    obtain ⟨t, rfl⟩ := pv
    exact neg_int (hQ _ _ (kp_trans k₁ (kp_tok _ _)) ⟨_, rfl⟩))
theorem ev_modc {a b : Int} {l r : Expr} {pos : Pos} (h1 : Ev prog w A s₀ (eval l env) (fun v _ => IsI a v)) (h2 : Ev prog w A s₀ (eval r env) (fun v _ => IsI b v)) (hb : 0 < b) :
    Ev prog w A s₀ (eval (.BinOp l .Mod r pos) env) (fun v _ => IsI (a % b) v) := by
  have := ev_mod (pos := pos) h1 h2 (by omega)
  rwa [fm (by omega)] at this
theorem ev_divc {a b : Int} {l r : Expr} {pos : Pos} (h1 : Ev prog w A s₀ (eval l env) (fun v _ => IsI a v)) (h2 : Ev prog w A s₀ (eval r env) (fun v _ => IsI b v)) (hb : 0 < b) (hs : b.natAbs < 1073741824) :
    Ev prog w A s₀ (eval (.BinOp l .FloorDiv r pos) env) (fun v _ => IsI (a / b) v) := by
  have := ev_div (pos := pos) h1 h2 (by omega) hs
  rwa [fd (by omega)] at this

theorem code_call {n : Int} {v : Value} {a : Addr} (B : Base mg mb s₀.heap) (R : Room A 1) (f : FnAt mg s₀.heap (stAt 5) a) (hv : IsI n v) :
    Ev prog w A s₀ (call (.ref a) [v]) (fun u _ => IsI (lcode n) u) := by
  refine enter B.lim (by have := R.depth; omega) f (binds := [(Str.ofString "number", v)]) (fun _ _ _ => rfl) fun pm code doc s L s₁ k i => ?_
  have B₁ := B.keeps (kp_keep (kp_trans k (InCall.keeps i)))
  refine st_unpack2 R.handled i rfl (p := fun x y => IsI (n / 12) x ∧ IsI (n % 12) y) (ev_call2 (ev_bname B₁ (by decide) bt_divmod) (ev_loc i.ns rfl) ev_int fun x y hx hy => by
    subst hx
    have := ev_divmod (prog := prog) (w := w) (A := A.deeper (fenv (stAt 5) pm code doc L a)) (s₀ := s₁) hv hy (by decide) (by decide)
    rwa [fd (by decide), fm (by decide)] at this) fun r kd c₂ hab i₂ kb => ?_
  obtain ⟨hr, hkd⟩ := hab
  have er : ∀ (c' : Shared) pos, Keeps c₂ c' → Ev prog w (A.deeper (fenv (stAt 5) pm code doc L a)) c' (eval (.Name (Str.ofString "rest") pos) (fenv (stAt 5) pm code doc L a)) (fun u _ => IsI (n / 12) u) :=
    fun c' pos k' => (ev_loc (kp_ns k' i₂.ns) rfl).mono fun _ _ _ e => e ▸ hr
  have ek : ∀ (c' : Shared) pos, Keeps c₂ c' → Ev prog w (A.deeper (fenv (stAt 5) pm code doc L a)) c' (eval (.Name (Str.ofString "kind") pos) (fenv (stAt 5) pm code doc L a)) (fun u _ => IsI (n % 12) u) :=
    fun c' pos k' => (ev_loc (kp_ns k' i₂.ns) rfl).mono fun _ _ _ e => e ▸ hkd
  have ks := InCall.keeps i₂
  refine st_if (ev_tLt (ek _ _ (kp_refl _)) ev_int) (fun e c₃ k₃ => st_ret (ev_add ev_int (ev_modc (er _ _ k₃) ev_int (by decide))) fun u c₄ k₄ hu => ⟨?_, kp_trans ks (kp_trans k₃ k₄)⟩) fun e1 c₃ k₃ => wpAny_execs_nil ?_
  · unfold lcode; rw [if_pos (of_decide_eq_true e)]; exact hu
  have e1 := of_decide_eq_false e1
  refine st_if (ev_tEq (ek _ _ k₃) ev_int) (fun e c₄ k₄ => st_ret (ev_modc (er _ _ (kp_trans k₃ k₄)) ev_int (by decide)) fun u c₅ k₅ hu => ⟨?_, kp_trans ks (kp_trans k₃ (kp_trans k₄ k₅))⟩) fun e2 c₄ k₄ => wpAny_execs_nil ?_
  · unfold lcode; rw [if_neg e1, if_pos (by simpa using e)]; exact hu
  have e2 : ¬ n % 12 = 5 := by simpa using e2
  have k₄ := kp_trans k₃ k₄
  refine st_if (ev_tEq (ek _ _ k₄) ev_int) (fun e c₅ k₅ => st_ret (ev_add ev_int (ev_mul (ev_modc (er _ _ (kp_trans k₄ k₅)) ev_int (by decide)) ev_int (IntMulOk.of_right (by decide)))) fun u c₆ k₆ hu => ⟨?_, kp_trans ks (kp_trans k₄ (kp_trans k₅ k₆))⟩) fun e3 c₅ k₅ => wpAny_execs_nil ?_
  · unfold lcode; rw [if_neg e1, if_neg e2, if_pos (by simpa using e)]; exact hu
  have e3 : ¬ n % 12 = 6 := by simpa using e3
  have k₅ := kp_trans k₄ k₅
  refine st_if (ev_tEq (ek _ _ k₅) ev_int) (fun e c₆ k₆ => st_ret (ev_modc (er _ _ (kp_trans k₅ k₆)) ev_int (by decide)) fun u c₇ k₇ hu => ⟨?_, kp_trans ks (kp_trans k₅ (kp_trans k₆ k₇))⟩) fun e4 c₆ k₆ => wpAny_execs_nil ?_
  · unfold lcode; rw [if_neg e1, if_neg e2, if_neg e3, if_pos (by simpa using e)]; exact hu
  have e4 : ¬ n % 12 = 7 := by simpa using e4
  have k₆ := kp_trans k₅ k₆
  refine st_if (ev_tEq (ek _ _ k₆) ev_int) (fun e c₇ k₇ => st_ret (er _ _ (kp_trans k₆ k₇)) fun u c₈ k₈ hu => ⟨?_, kp_trans ks (kp_trans k₆ (kp_trans k₇ k₈))⟩) fun e5 c₇ k₇ => wpAny_execs_nil ?_
  · unfold lcode; rw [if_neg e1, if_neg e2, if_neg e3, if_neg e4, if_pos (by simpa using e)]; exact hu
  have e5 : ¬ n % 12 = 8 := by simpa using e5
  have k₇ := kp_trans k₆ k₇
  refine st_if (ev_tEq (ek _ _ k₇) ev_int) (fun e c₈ k₈ => st_ret (ev_sub (ev_neg ev_int) (er _ _ (kp_trans k₇ k₈))) fun u c₉ k₉ hu => ⟨?_, kp_trans ks (kp_trans k₇ (kp_trans k₈ k₉))⟩) fun e6 c₈ k₈ => wpAny_execs_nil ?_
  · unfold lcode; rw [if_neg e1, if_neg e2, if_neg e3, if_neg e4, if_neg e5, if_pos (by simpa using e)]; exact hu
  have e6 : ¬ n % 12 = 9 := by simpa using e6
  have k₈ := kp_trans k₇ k₈
  refine st_if (ev_tEq (ek _ _ k₈) ev_int) (fun e c₉ k₉ => st_ret (ev_add ev_int (ev_mul (ev_sub (ev_modc (er _ _ (kp_trans k₈ k₉)) ev_int (by decide)) ev_int) ev_int (IntMulOk.of_right (by decide)))) fun u d k' hu => ⟨?_, kp_trans ks (kp_trans k₈ (kp_trans k₉ k'))⟩) fun e7 c₉ k₉ => wpAny_execs_nil ?_
  · unfold lcode; rw [if_neg e1, if_neg e2, if_neg e3, if_neg e4, if_neg e5, if_neg e6, if_pos (by simpa using e)]; exact hu
  have e7 : ¬ n % 12 = 10 := by simpa using e7
  have k₉ := kp_trans k₈ k₉
  refine st_ret (ev_modc (er _ _ k₉) ev_int (by decide)) fun u d k' hu => ⟨?_, kp_trans ks (kp_trans k₉ k')⟩
  unfold lcode; rw [if_neg e1, if_neg e2, if_neg e3, if_neg e4, if_neg e5, if_neg e6, if_neg e7]; exact hu

theorem rounds_call {n : Int} {v : Value} {a : Addr} (B : Base mg mb s₀.heap) (R : Room A 1) (f : FnAt mg s₀.heap (stAt 6) a) (hv : IsI n v) :
    Ev prog w A s₀ (call (.ref a) [v]) (fun u _ => IsI (lrounds n) u) := by
  refine enter B.lim (by have := R.depth; omega) f (binds := [(Str.ofString "code", v)]) (fun _ _ _ => rfl) fun pm code doc s L s₁ k i => ?_
  have er : ∀ (c' : Shared) pos, Keeps s₁ c' → Ev prog w (A.deeper (fenv (stAt 6) pm code doc L a)) c' (eval (.Name (Str.ofString "code") pos) (fenv (stAt 6) pm code doc L a)) (fun u _ => IsI n u) :=
    fun c' pos k' => (ev_loc (kp_ns k' i.ns) rfl).mono fun _ _ _ e => e ▸ hv
  have ks := InCall.keeps i
  refine st_if (ev_tchainLl ev_int (er _ _ (kp_refl _)) ev_int) (fun e c₃ k₃ => st_ret ev_int fun u c₄ k₄ hu => ⟨?_, kp_trans ks (kp_trans k₃ k₄)⟩) fun e1 c₃ k₃ => wpAny_execs_nil ?_
  · unfold lrounds; rw [if_pos (of_decide_eq_true e)]; exact hu
  have e1 := of_decide_eq_false e1
  refine st_ret (P := fun u _ => IsI (lrounds n) u) (ev_ifexp (ev_tand (ev_tEq (ev_modc (er _ _ k₃) ev_int (by decide)) ev_int) fun _ => ev_tNe (er _ _ k₃) ev_int) (fun e => ev_int.mono fun _ _ _ h => ?_) (fun e => ev_int.mono fun _ _ _ h => ?_)) fun u c₄ k₄ hu => ⟨hu, kp_trans ks (kp_trans k₃ k₄)⟩
  · unfold lrounds; rw [if_neg e1, if_pos (by simpa using e)]; exact h
  · unfold lrounds; rw [if_neg e1, if_neg (by simpa using e)]; exact h

theorem word_call {n : Int} {v : Value} {a : Addr} (B : Base mg mb s₀.heap) (R : Room A 1) (f : FnAt mg s₀.heap (stAt 7) a) (hv : IsI n v) :
    Ev prog w A s₀ (call (.ref a) [v]) (fun u _ => IsS (lword n) u) := by
  refine enter B.lim (by have := R.depth; omega) f (binds := [(Str.ofString "code", v)]) (fun _ _ _ => rfl) fun pm code doc s L s₁ k i => ?_
  have er : ∀ (c' : Shared) pos, Keeps s₁ c' → Ev prog w (A.deeper (fenv (stAt 7) pm code doc L a)) c' (eval (.Name (Str.ofString "code") pos) (fenv (stAt 7) pm code doc L a)) (fun u _ => IsI n u) :=
    fun c' pos k' => (ev_loc (kp_ns k' i.ns) rfl).mono fun _ _ _ e => e ▸ hv
  refine st_if (ev_tEq (er _ _ (kp_refl _)) ev_int) (fun e c₃ k₃ => st_ret ev_str fun u c₄ k₄ hu => ⟨?_, kp_trans (InCall.keeps i) (kp_trans k₃ k₄)⟩) fun e1 c₃ k₃ => wpAny_execs_nil ?_
  · unfold lword; rw [if_pos (by simpa using e)]; exact hu
  have e1 : ¬ n = 127 := by simpa using e1
  refine st_assign (InCall.kp i k₃) rfl (ev_modc (er _ _ k₃) ev_int (by decide)) fun low c₄ c₅ k₄ hlow i₅ kb₅ => ?_
  refine st_assign i₅ rfl (P := fun u _ => IsS (lmark n) u) (ev_ifexp (ev_tGt (ev_modc ((ev_loc i₅.ns rfl).mono fun _ _ _ e => e ▸ hv) ev_int (by decide)) ev_int) (fun e => ev_str.mono fun _ _ _ h => ?_) (fun e => ev_str.mono fun _ _ _ h => ?_)) fun mark c₆ c₇ k₆ hmark i₇ kb₇ => ?_
  · unfold lmark; rw [if_pos (of_decide_eq_true e)]; exact h
  · unfold lmark; rw [if_neg (of_decide_eq_false e)]; exact h
  have ml : (lmark n).length ≤ 1 := by unfold lmark; split <;> decide
  have el : ∀ (c' : Shared) pos, Keeps c₇ c' → Ev prog w (A.deeper (fenv (stAt 7) pm code doc L a)) c' (eval (.Name (Str.ofString "low") pos) (fenv (stAt 7) pm code doc L a)) (fun u _ => IsI (n % 128) u) :=
    fun c' pos k' => (ev_loc (kp_ns k' i₇.ns) rfl).mono fun _ _ _ e => e ▸ hlow
  have em : ∀ (c' : Shared) pos, Keeps c₇ c' → Ev prog w (A.deeper (fenv (stAt 7) pm code doc L a)) c' (eval (.Name (Str.ofString "mark") pos) (fenv (stAt 7) pm code doc L a)) (fun u _ => IsS (lmark n) u) :=
    fun c' pos k' => (ev_loc (kp_ns k' i₇.ns) rfl).mono fun _ _ _ e => e ▸ hmark
  have ks := InCall.keeps i₇
  have B₇ := B.keeps (kp_keep (kp_trans k ks))
  refine st_if (ev_tEq (el _ _ (kp_refl _)) ev_int) (fun e c₈ k₈ => st_ret (ev_addS (em _ _ k₈) ev_str ?_) fun u c₉ k₉ hu => ⟨?_, kp_trans ks (kp_trans k₈ k₉)⟩) fun e2 c₈ k₈ => wpAny_execs_nil ?_
  · show _ + 4 ≤ 2 ^ 24
    omega
  · unfold lword; rw [if_neg e1, if_pos (by simpa using e)]; exact hu
  have e2 : ¬ n % 128 = 127 := by simpa using e2
  refine st_ret (ev_addS (y := if n % 128 < 32 then Str.ofString "^" ++ ⟨#[(n % 128 + 64).toNat]⟩ else ⟨#[(n % 128).toNat]⟩) (em _ _ k₈) (ev_ifexp (ev_tLt (el _ _ k₈) ev_int)
    (fun e => (ev_addS ev_str (ev_call1 (ev_bname (B₇.keeps (kp_keep k₈)) (by decide) bt_chr) (ev_add (el _ _ k₈) ev_int) fun u s₂ k₂ hu => ev_chr hu (by omega) (by omega)) ?_).mono fun _ _ _ h => ?_)
    (fun e => (ev_call1 (P := fun u _ => IsS ⟨#[(n % 128).toNat]⟩ u) (ev_bname (B₇.keeps (kp_keep k₈)) (by decide) bt_chr) (el _ _ k₈) fun u s₂ k₂ hu => ev_chr hu (by omega) (by omega)).mono fun _ _ _ h => ?_)) ?_) fun u c₉ k₉ hu => ⟨?_, kp_trans ks (kp_trans k₈ k₉)⟩
  · show 1 + 1 ≤ 2 ^ 24
    decide
  · rw [if_pos (of_decide_eq_true e)]; exact h
  · rw [if_neg (of_decide_eq_false e)]; exact h
  · split
    · show _ + 2 ≤ 2 ^ 24
      omega
    · show _ + 1 ≤ 2 ^ 24
      omega
  · unfold lword; rw [if_neg e1, if_neg e2]; exact hu
end
end Mine
end
section
open PySem PySem.W PyProof.Rows PySem.Calls
set_option maxRecDepth 100000
namespace Mine

/-- the signs of a code's text, and of the law's word -/
def us (c : Int) : List Nat := (unc c).cps.toList
def ws (c : Int) : List Nat := (lword c).cps.toList
def prints (c : Int) : Bool := decide (32 ≤ c ∧ c ≤ 126)
/-- one round -/
def step (cs : List Int) : List Int := (cat (cs.map unc)).cps.toList.map Int.ofNat

theorem step_eq (cs : List Int) : step cs = (cs.flatMap us).map Int.ofNat := by
  unfold step cat
  simp only [List.flatMap_map]
  rfl
theorem cat_unc (cs : List Int) : cat (cs.map unc) = ⟨(cs.flatMap us).toArray⟩ := by
  unfold cat
  simp only [List.flatMap_map]
  rfl
theorem cat_word (cs : List Int) : cat (cs.map lword) = ⟨(cs.flatMap ws).toArray⟩ := by
  unfold cat
  simp only [List.flatMap_map]
  rfl

theorem sBang : (Str.ofString "!").cps = #[33] := by decide
theorem sCaret : (Str.ofString "^").cps = #[94] := by decide
theorem sCQ : (Str.ofString "^?").cps = #[94, 63] := by decide
theorem sTail : (Str.ofString "^!^_").cps = #[94, 33, 94, 95] := by decide
theorem sNone : (Str.ofString "").cps = #[] := by decide
theorem cps_app (a b : Str) : (a ++ b).cps = a.cps ++ b.cps := rfl

def um (c : Int) : List Nat := if c % 256 > 127 then [33] else []
theorem us_eq (c : Int) : us c = um c ++ (if c = 127 then [94, 63] else if 32 ≤ c % 128 ∧ c % 128 ≤ 126 then [(c % 128).toNat] else [94, (if c % 128 = 127 then 159 else c % 128 + 64 : Int).toNat]) := by
  have h : (uRep c).cps.toList = (if c = 127 then [94, 63] else if 32 ≤ c % 128 ∧ c % 128 ≤ 126 then [(c % 128).toNat] else [94, (if c % 128 = 127 then 159 else c % 128 + 64 : Int).toNat]) := by
    unfold uRep
    split
    · rw [sCQ]
    · split
      · rfl
      · rw [cps_app, sCaret]; rfl
  rw [← h]
  unfold us unc um
  split
  · rw [cps_app, sBang]; simp
  · simp
theorem ws_eq (c : Int) : ws c = if c = 127 then [94, 63] else if c % 128 = 127 then um c ++ [94, 33, 94, 95] else um c ++ (if c % 128 < 32 then [94, (c % 128 + 64).toNat] else [(c % 128).toNat]) := by
  have hm : (lmark c).cps.toList = um c := by
    unfold lmark um
    split
    · rw [sBang]
    · rw [sNone]
  unfold ws lword
  split
  · rw [sCQ]
  · split
    · rw [cps_app, sTail]; simp [hm]
    · rw [cps_app]
      split
      · rw [cps_app, sCaret]; simp [hm]
      · simp [hm]

theorem us_print {c : Int} (h : 32 ≤ c ∧ c ≤ 126) : us c = [c.toNat] := by
  rw [us_eq]
  unfold um
  rw [if_neg (by omega), if_neg (by omega), if_pos (by omega)]
  have : c % 128 = c := by omega
  rw [this]; rfl
theorem us_ws {c : Int} (h : ¬ (c % 128 = 127 ∧ c ≠ 127)) : us c = ws c := by
  rw [us_eq, ws_eq]
  by_cases h1 : c = 127
  · subst h1; decide
  · have h3 : ¬ c % 128 = 127 := by omega
    simp only [if_neg h1, if_neg h3]
    by_cases h2 : c % 128 < 32
    · rw [if_neg (show ¬ (32 ≤ c % 128 ∧ c % 128 ≤ 126) by omega), if_pos h2]
    · rw [if_pos (show (32 ≤ c % 128 ∧ c % 128 ≤ 126) by omega), if_neg h2]
theorem us_two {c : Int} (h : c % 128 = 127 ∧ c ≠ 127) : us c = um c ++ [94, 159] := by
  rw [us_eq, if_neg h.2, if_neg (show ¬ (32 ≤ c % 128 ∧ c % 128 ≤ 126) by omega), if_pos h.1]
  rfl
theorem ws_two {c : Int} (h : c % 128 = 127 ∧ c ≠ 127) : ws c = um c ++ [94, 33, 94, 95] := by
  rw [ws_eq, if_neg h.2, if_pos h.1]
theorem um_prints (c : Int) : ∀ x ∈ um c, prints (Int.ofNat x) = true := by
  intro x hx
  unfold um at hx
  split at hx
  · simp at hx; subst hx; decide
  · simp at hx
theorem ws_prints (c : Int) : ∀ x ∈ ws c, prints (Int.ofNat x) = true := by
  intro x hx
  rw [ws_eq] at hx
  split at hx
  · simp at hx; rcases hx with rfl | rfl <;> decide
  · split at hx
    · rcases List.mem_append.mp hx with hx | hx
      · exact um_prints c x hx
      · simp at hx; rcases hx with rfl | rfl | rfl | rfl <;> decide
    · rcases List.mem_append.mp hx with hx | hx
      · exact um_prints c x hx
      · split at hx
        · simp at hx
          rcases hx with rfl | rfl
          · decide
          · unfold prints; apply decide_eq_true; simp only [Int.ofNat_eq_natCast]; omega
        · simp at hx; subst hx
          unfold prints; apply decide_eq_true; simp only [Int.ofNat_eq_natCast]; omega
theorem flat_id {l : List Nat} (h : ∀ x ∈ l, prints (Int.ofNat x) = true) : (l.flatMap fun x => us (Int.ofNat x)) = l := by
  induction l with
  | nil => rfl
  | cons x r ih =>
    rw [List.flatMap_cons, ih fun y hy => h y (List.mem_cons_of_mem _ hy), us_print (of_decide_eq_true (h x List.mem_cons_self))]
    simp
theorem us_us (c : Int) : ((us c).flatMap fun x => us (Int.ofNat x)) = ws c := by
  by_cases h : c % 128 = 127 ∧ c ≠ 127
  · rw [us_two h, ws_two h, List.flatMap_append, flat_id (um_prints c)]
    congr 1
  · rw [us_ws h]; exact flat_id (ws_prints c)

theorem flat_step (cs : List Int) : (step cs).flatMap us = cs.flatMap ws := by
  rw [step_eq, List.flatMap_map, List.flatMap_assoc]
  congr 1
  funext c
  exact us_us c
theorem step_step (cs : List Int) : step (step cs) = (cs.flatMap ws).map Int.ofNat := by
  rw [step_eq, flat_step]
theorem lrounds_cases (c : Int) : (lrounds c = 0 ∧ prints c = true) ∨ (lrounds c = 1 ∧ prints c = false ∧ ¬ (c % 128 = 127 ∧ c ≠ 127)) ∨ (lrounds c = 2 ∧ prints c = false ∧ (c % 128 = 127 ∧ c ≠ 127)) := by
  unfold lrounds prints
  by_cases h1 : 32 ≤ c ∧ c < 127
  · left; rw [if_pos h1]; exact ⟨rfl, decide_eq_true (by omega)⟩
  · rw [if_neg h1]
    by_cases h2 : c % 128 = 127 ∧ c ≠ 127
    · right; right; rw [if_pos h2]; exact ⟨rfl, decide_eq_false (by omega), h2⟩
    · right; left; rw [if_neg h2]; exact ⟨rfl, decide_eq_false (by omega), h2⟩

theorem flat_congr {f g : Int → List Nat} {cs : List Int} (h : ∀ a ∈ cs, f a = g a) : cs.flatMap f = cs.flatMap g := by
  induction cs with
  | nil => rfl
  | cons a r ih => rw [List.flatMap_cons, List.flatMap_cons, h a List.mem_cons_self, ih fun b hb => h b (List.mem_cons_of_mem _ hb)]

/-- what the law says, over the codes alone -/
theorem law1_plain (cs : List Int) (M : Int) (h1 : M ∈ cs.map lrounds) (h2 : ∀ a ∈ cs.map lrounds, a ≤ M) :
    (M = 0 ∧ cs.all prints = true ∧ cat (cs.map unc) = cat (cs.map lword)) ∨
    (M = 1 ∧ cs.all prints = false ∧ (step cs).all prints = true ∧ cat ((step cs).map unc) = cat (cs.map lword)) ∨
    (M = 2 ∧ cs.all prints = false ∧ (step cs).all prints = false ∧ (step (step cs)).all prints = true ∧ cat ((step (step cs)).map unc) = cat (cs.map lword)) := by
  obtain ⟨c, hc, hM⟩ := List.mem_map.mp h1
  have hle : ∀ a ∈ cs, lrounds a ≤ M := fun a ha => h2 _ (List.mem_map_of_mem ha)
  have ws_all : ((cs.flatMap ws).map Int.ofNat).all prints = true := by
    rw [List.all_eq_true]
    intro x hx
    obtain ⟨y, hy, rfl⟩ := List.mem_map.mp hx
    obtain ⟨a, _, ha⟩ := List.mem_flatMap.mp hy
    exact ws_prints a y ha
  have notall : prints c = false → cs.all prints = false := fun h => by
    rw [List.all_eq_false]
    exact ⟨c, hc, by rw [h]; decide⟩
  rcases lrounds_cases c with ⟨hr, hp⟩ | ⟨hr, hp, hn⟩ | ⟨hr, hp, ht⟩
  · left
    have h0 : ∀ a ∈ cs, prints a = true ∧ us a = ws a := fun a ha => by
      have := hle a ha
      rcases lrounds_cases a with ⟨ar, ap⟩ | ⟨ar, _⟩ | ⟨ar, _⟩
      · exact ⟨ap, us_ws (by have := of_decide_eq_true ap; omega)⟩
      · omega
      · omega
    refine ⟨by omega, List.all_eq_true.mpr fun a ha => (h0 a ha).1, ?_⟩
    rw [cat_unc, cat_word]
    congr 2
    exact flat_congr fun a ha => (h0 a ha).2
  · right; left
    have h0 : ∀ a ∈ cs, us a = ws a := fun a ha => by
      have := hle a ha
      rcases lrounds_cases a with ⟨ar, ap⟩ | ⟨ar, _, an⟩ | ⟨ar, _⟩
      · exact us_ws (by have := of_decide_eq_true ap; omega)
      · exact us_ws an
      · omega
    refine ⟨by omega, notall hp, ?_, ?_⟩
    · rw [step_eq, flat_congr h0]; exact ws_all
    · rw [cat_unc, cat_word, flat_step]
  · right; right
    refine ⟨by omega, notall hp, ?_, ?_, ?_⟩
    · rw [List.all_eq_false]
      refine ⟨159, ?_, by decide⟩
      rw [step_eq]
      exact List.mem_map.mpr ⟨159, List.mem_flatMap.mpr ⟨c, hc, by rw [us_two ht]; simp⟩, rfl⟩
    · rw [step_step]; exact ws_all
    · rw [cat_unc, cat_word, step_step, List.flatMap_map]
      congr 2
      exact flat_id fun x hx => by
        obtain ⟨a, _, ha⟩ := List.mem_flatMap.mp hx
        exact ws_prints a x ha
end Mine
end
section
open PySem PySem.W PyProof.Rows PySem.Calls PySem.SeqAt
set_option maxRecDepth 100000
namespace Mine

def stepN : Nat → List Int → List Int
  | 0, cs => cs
  | n + 1, cs => step (stepN n cs)
theorem us_len (c : Int) : (us c).length ≤ 3 := by
  rw [us_eq]
  have : (um c).length ≤ 1 := by unfold um; split <;> simp
  rw [List.length_append]
  split
  · simp; omega
  · split <;> simp <;> omega
theorem flat_len (cs : List Int) : (cs.flatMap us).length ≤ 3 * cs.length := by
  induction cs with
  | nil => simp
  | cons c r ih => rw [List.flatMap_cons, List.length_append, List.length_cons]; have := us_len c; omega
theorem step_len (cs : List Int) : (step cs).length ≤ 3 * cs.length := by
  rw [step_eq, List.length_map]; exact flat_len cs
theorem unc_sum (cs : List Int) : ((cs.map unc).map (·.length)).sum ≤ 3 * cs.length := by
  rw [← cat_len, cat_unc]
  show ((cs.flatMap us).toArray).size ≤ _
  simpa using flat_len cs
theorem lword_len (c : Int) : (lword c).length ≤ 5 := by
  show (lword c).cps.size ≤ 5
  rw [← Array.length_toList]
  show (ws c).length ≤ 5
  rw [ws_eq]
  have : (um c).length ≤ 1 := by unfold um; split <;> simp
  split
  · simp
  · split
    · simp; omega
    · rw [List.length_append]; split <;> simp <;> omega
theorem lword_sum (cs : List Int) : ((cs.map lword).map (·.length)).sum ≤ 5 * cs.length := by
  induction cs with
  | nil => simp
  | cons c r ih => simp only [List.map_cons, List.sum_cons, List.length_cons]; have := lword_len c; omega

theorem law1_loop {cs : List Int} {M : Int} (h1 : M ∈ cs.map lrounds) (h2 : ∀ a ∈ cs.map lrounds, a ≤ M) {i : Nat} (hb : ∀ j, j < i → (stepN j cs).all prints = false) (he : (stepN i cs).all prints = true) :
    M = i ∧ cat ((stepN i cs).map unc) = cat (cs.map lword) := by
  have n0 : cs.all prints = true → i = 0 := fun h => by
    rcases Nat.eq_zero_or_pos i with h0 | h0
    · exact h0
    · have := hb 0 h0; rw [show stepN 0 cs = cs from rfl, h] at this; cases this
  have n1 : (step cs).all prints = true → i ≤ 1 := fun h => by
    rcases Nat.lt_or_ge 1 i with h0 | h0
    · have := hb 1 h0; rw [show stepN 1 cs = step cs from rfl, h] at this; cases this
    · exact h0
  have n2 : (step (step cs)).all prints = true → i ≤ 2 := fun h => by
    rcases Nat.lt_or_ge 2 i with h0 | h0
    · have := hb 2 h0; rw [show stepN 2 cs = step (step cs) from rfl, h] at this; cases this
    · exact h0
  rcases law1_plain cs M h1 h2 with ⟨rfl, a1, a2⟩ | ⟨rfl, a1, a2, a3⟩ | ⟨rfl, a1, a2, a3, a4⟩
  · obtain rfl := n0 a1
    exact ⟨rfl, a2⟩
  · have := n1 a2
    have hi : i = 1 := by
      rcases Nat.eq_zero_or_pos i with h0 | h0
      · subst h0; rw [show stepN 0 cs = cs from rfl, a1] at he; cases he
      · omega
    subst hi
    exact ⟨rfl, a3⟩
  · have := n2 a3
    have hi : i = 2 := by
      rcases Nat.eq_zero_or_pos i with h0 | h0
      · subst h0; rw [show stepN 0 cs = cs from rfl, a1] at he; cases he
      · rcases Nat.lt_or_ge 1 i with h3 | h3
        · omega
        · have : i = 1 := by omega
          subst this; rw [show stepN 1 cs = step cs from rfl, a2] at he; cases he
    subst hi
    exact ⟨rfl, a4⟩
theorem law1_stop {cs : List Int} {M : Int} (h1 : M ∈ cs.map lrounds) (h2 : ∀ a ∈ cs.map lrounds, a ≤ M) {i : Nat} (hi : 3 ≤ i) (hb : ∀ j, j < i → (stepN j cs).all prints = false) : False := by
  rcases law1_plain cs M h1 h2 with ⟨_, a1, _⟩ | ⟨_, _, a2, _⟩ | ⟨_, _, _, a3, _⟩
  · have := hb 0 (by omega); rw [show stepN 0 cs = cs from rfl, a1] at this; cases this
  · have := hb 1 (by omega); rw [show stepN 1 cs = step cs from rfl, a2] at this; cases this
  · have := hb 2 (by omega); rw [show stepN 2 cs = step (step cs) from rfl, a3] at this; cases this

section
variable {prog : Program} {w : World} {A : Around} {s₀ : Shared} {env : Env} {mg mb : Str → Option Value}

theorem none_back {a b : Shared} (k : Keeps a b) {D : Addr} (h : b.heap.get? D = none) : a.heap.get? D = none := by
  cases e : a.heap.get? D with
  | none => rfl
  | some o => rw [kp_get k e] at h; cases h
theorem ev_tcmpS {l r : Expr} {op : CmpOp} {pos : Pos} {whole : Sem Value} {p1 : Value → Prop} {P2 : Value → Shared → Prop} {c : Bool} (h1 : Ev prog w A s₀ (eval l env) (fun v _ => p1 v)) (h2 : Ev prog w A s₀ (eval r env) P2)
    (h3 : ∀ a b s₂, p1 a → Keeps s₀ s₂ → P2 b s₂ → Ev prog w A s₂ (compareOp op a b) (fun v _ => IsB c v)) (hm : behindInMarks op r = false := by with_unfolding_all rfl) :
    Ev prog w A s₀ (isTrue (.Compare l [op] [r] pos) env whole) (fun b _ => b = c) :=
  Ev.of fun s Q E k hQ => wpAny_isTrue_Compare1 (h1.at k fun a s₁ k₁ pa => h2.at (kp_trans k k₁) fun b s₂ k₂ pb => (h3 a b s₂ pa (kp_trans (kp_trans k k₁) k₂) pb).use fun v s₃ k₃ pv => by
    cases pv; exact wpAny_truthy_bool (hQ c s₃ (kp_trans (kp_trans k₁ k₂) k₃) rfl)) hm
theorem ev_cmpS {l r : Expr} {op : CmpOp} {pos : Pos} {P1 : Value → Shared → Prop} {P2 : Value → Shared → Prop} {P : Value → Shared → Prop} (h1 : Ev prog w A s₀ (eval l env) P1) (h2 : ∀ a s₁, Keeps s₀ s₁ → P1 a s₁ → Ev prog w A s₁ (eval r env) P2) (hm1 : ∀ v s s', Keeps s s' → P1 v s → P1 v s')
    (h3 : ∀ a b s₂, Keeps s₀ s₂ → P1 a s₂ → P2 b s₂ → Ev prog w A s₂ (compareOp op a b) P) (hm : behindInMarks op r = false := by with_unfolding_all rfl) : Ev prog w A s₀ (eval (.Compare l [op] [r] pos) env) P :=
  Ev.of fun s Q E k hQ => wpAny_Compare1 (h1.at k fun a s₁ k₁ pa => (h2 a s₁ (kp_trans k k₁) pa).use fun b s₂ k₂ pb => (h3 a b s₂ (kp_trans (kp_trans k k₁) k₂) (hm1 _ _ _ k₂ pa) pb).use fun v s₃ k₃ pv => hQ v s₃ (kp_trans (kp_trans k₁ k₂) k₃) pv) hm

/-- ''.join([unctrl(thing) for thing in things]) in _law_written -/
theorem ev_written_text {pm code doc : Value} {L a : Addr} {m : Str → Option Value} {l : Addr} {cs : List Int} {vs : List Value} {p1 p2 p3 p4 p5 p6 p7 p8 p9 : Pos} {k : Nat} {scope : Scope}
    (B : Base mg mb s₀.heap) (R : Room A 4) (hm : s₀.heap.Ns L m) (hv : m (Str.ofString "things") = some (.ref l)) (hl : s₀.heap.IsList l vs.toArray) (hcs : Paired CodeIs cs vs) (hlen : cs.length ≤ 1000) (hline : (p2.endLine == p9.line) = true)
    (hscope : scope = { kind := .function, names := [(Str.ofString ".0", .local), (Str.ofString "thing", .local), (Str.ofString "unctrl", .globalImplicit)], isGenerator := false, isCoroutine := false, more := [] }) :
    Ev prog w A s₀ (eval (.Call (.Attribute (.Constant (.str (Str.ofString "")) k p1) (Str.ofString "join") p2) [.ListComp (.Call (.Name (Str.ofString "unctrl") p3) [.Name (Str.ofString "thing") p4] [] p5) [⟨.Name (Str.ofString "thing") p6, .Name (Str.ofString "things") p7, [], 0⟩] scope p8] [] p9) (fenv (stAt 8) pm code doc L a))
      (fun u _ => IsS (cat (cs.map unc)) u) := by
  subst hscope
  refine ev_methS1 F.slot_str_join F.type_str_join ev_str (ev_compP (F0 := [l]) CodeIs (fun c y => IsS (unc c) y) R.handled hcs ((ev_loc hm hv).mono fun v s kk e => ⟨l, e, hl.at fun o e => kp_get kk e, Or.inr (by simp)⟩) (show _ ≤ 2 ^ 24 by omega) (fun C c v s₁ m₁ hc hG hk hn hm₁ => ?_) (closureFor_none (by decide))) (fun ov v s₂ hov k₂ hP => ?_) rfl hline rfl
  · have B₁ := B.keeps hk
    obtain ⟨a3, f3⟩ := B₁.fn 3 (by decide)
    obtain ⟨o3, _, _, _, q1, q2, q3, _⟩ := id f3
    exact ev_callF (ev_glob B₁.g q1) q2 q3 (ev_loc hn hm₁) fun u s₂ k₂ hu => by
      subst hu
      exact unctrl_call (B₁.keeps (kp_keep k₂)) (R.less (by omega)) (f3.keeps (kp_keep k₂)) hG
  · obtain ⟨D, ys, rfl, hD, hys, _⟩ := hP
    refine ev_join hov hD.isList (paired_map hys) ?_
    have := unc_sum cs
    omega

theorem written_call {cs : List Int} {vs : List Value} {l a : Addr} {M : Int} (B : Base mg mb s₀.heap) (R : Room A 5) (f : FnAt mg s₀.heap (stAt 8) a) (hl : s₀.heap.IsList l vs.toArray) (hcs : Paired CodeIs cs vs) (hlen : cs.length ≤ 7)
    (h1 : M ∈ cs.map lrounds) (h2 : ∀ a ∈ cs.map lrounds, a ≤ M) :
    Ev prog w A s₀ (call (.ref a) [.ref l]) (fun v c => ∃ t x y, v = .ref t ∧ c.heap.IsTuple t #[x, y] ∧ IsI M x ∧ IsS (cat (cs.map lword)) y) := by
  refine enter B.lim (by have := R.depth; omega) f (binds := [(Str.ofString "things", .ref l)]) (fun _ _ _ => rfl) fun pm code doc s L s₁ k i => ?_
  have B₁ := B.keeps (kp_keep (kp_trans k (InCall.keeps i)))
  have Bk : ∀ c', Keeps s c' → Base mg mb c'.heap := fun c' k' => B.keeps (kp_keep (kp_trans k k'))
  have R' : Room (A.deeper (fenv (stAt 8) pm code doc L a)) 4 := R.deeper _
  have Ll : ∀ {b : Addr} {h : Heap} {vs : Array Value} {m : Str → Option Value}, h.IsList b vs → h.Ns L m → b ≠ L := by
    rintro b h vs m ⟨o, e, _, n, hd⟩ ⟨o', es, ep, e', hd', _⟩ rfl
    rw [e] at e'; cases e'; rw [hd] at hd'; cases hd'
  refine st_for (n := 4) (F := []) [L] (fun X j c => ∃ m l vs, InCall s L m c ∧ m (Str.ofString "things") = some (.ref l) ∧ c.heap.IsList l vs.toArray ∧ l ∉ X ∧ Paired CodeIs (stepN j cs) vs ∧ (stepN j cs).length ≤ 7 * 3 ^ j ∧ ∀ i, i < j → (stepN i cs).all prints = false)
    (src_range (x := Str.ofString "rounds") (a := 0) (n := 4) R.handled (by decide) (by decide) (by decide) (ev_callT (ev_bname B₁ (by decide) bt_range) ev_int fun u s₂ k₂ hu => ev_range1 hu)) ?_ ?_ ?_ ?_ ?_
  · intro b hb
    simp only [List.mem_cons, List.not_mem_nil, or_false] at hb
    subst hb
    obtain ⟨o, _, _, e, _⟩ := i.ns
    exact ⟨by simp, o, e⟩
  · intro X c' hX k'
    refine ⟨_, l, vs, InCall.kp i k', rfl, hl.at fun o e => kp_get (kp_trans k (kp_trans (InCall.keeps i) k')) e, fun hlX => ?_, hcs, by simpa [stepN] using hlen, fun i hi => by omega⟩
    obtain ⟨o, e, _⟩ := hl
    have := hX l hlX
    rw [kp_get (kp_trans k (InCall.keeps i)) e] at this; cases this
  · rintro X j c c' hX ⟨m, l', vs', i', hm, hl', hlX, hp, hlen', hb⟩ ⟨h'', tk'', rfl⟩ hk
    have hLX : L ∉ X := fun h => by
      obtain ⟨o, _, _, e, _⟩ := i.ns
      have := hX L h
      rw [e] at this; cases this
    refine ⟨m, l', vs', ⟨?_, i'.ns.at' fun o e => hk _ o hLX e, fun b o e => ?_, i'.fresh⟩, hm, hl'.at fun o e => hk _ o hlX e, hlX, hp, hlen', hb⟩
    · obtain ⟨h₁, tk, e⟩ := i'.same
      exact ⟨h'', tk'', by rw [e]⟩
    · refine hk b o (fun hbX => ?_) (i'.keep b o e)
      have := hX b hbX
      rw [i.keep b o e] at this; cases this
  · rintro X j c v hj hX hXl ⟨m, l', vs', i', hm, hl', hlX, hp, hlen', hb⟩ ⟨tv, rfl⟩
    have h7 : (stepN j cs).length ≤ 200 := by
      have : (3 : Nat) ^ j ≤ 27 := by
        have : j = 0 ∨ j = 1 ∨ j = 2 ∨ j = 3 := by omega
        rcases this with rfl | rfl | rfl | rfl <;> decide
      omega
    refine wpAny_assign_Name (st_store i' rfl fun c₂ i₂ kb₂ => ?_)
    have hl₂ : c₂.heap.IsList l' vs'.toArray := hl'.at fun o e => kb₂ _ o (Ll hl' i'.ns) e
    have B₂ := Bk c₂ (InCall.keeps i₂)
    obtain ⟨m₂, hm₂e⟩ : ∃ m₂ : Str → Option Value, m₂ = fun y => if y = Str.ofString "rounds" then some (Value.int (0 + (j : Int)) tv) else m y := ⟨_, rfl⟩
    have hm₂ : m₂ (Str.ofString "things") = some (.ref l') := by rw [hm₂e]; show (if _ then _ else _) = _; rw [if_neg (by decide)]; exact hm
    have hr₂ : m₂ (Str.ofString "rounds") = some (.int (0 + (j : Int)) tv) := by rw [hm₂e]; show (if _ then _ else _) = _; rw [if_pos rfl]
    rw [← hm₂e] at i₂
    refine st_if (b := (stepN j cs).all prints) (ev_tcmpS (p1 := IsB false) ev_bool (ev_compP (F0 := [l']) CodeIs (fun c y => IsB (prints c) y) R.handled hp ((ev_loc i₂.ns hm₂).mono fun v s kk e => ⟨l', e, hl₂.at fun o e => kp_get kk e, Or.inr (by simp)⟩) (show _ ≤ 2 ^ 24 by omega) (fun C c v s₁ m₁ hc hG hk hn hm₁ => ?_) (closureFor_none (by decide))) fun u b s₂ hu k₂ hb' => ?_) (fun e c₃ k₃ => ?_) (fun e c₃ k₃ => ?_)
    · have B₃ := B₂.keeps hk
      obtain ⟨a2, f2⟩ := B₃.fn 2 (by decide)
      obtain ⟨o2, _, _, _, q1, q2, q3, _⟩ := id f2
      exact ev_callF (ev_glob B₃.g q1) q2 q3 (ev_loc hn hm₁) fun u s₂ k₂ hu => by
        subst hu
        exact isprint_call (B₃.keeps (kp_keep k₂)) (R'.less (by omega)) (f2.keeps (kp_keep k₂)) hG
    · obtain ⟨D, ys, rfl, hD, hys, _⟩ := hb'
      cases hu
      have := notIn_bools (prog := prog) (w := w) (A := A.deeper (fenv (stAt 8) pm code doc L a)) (s₀ := s₂) hD.isList (paired_map (f := prints) hys)
      rwa [List.all_map] at this
    · -- the row prints: out of the loop
      refine wpAny_execs_cons (wpAny_Break ?_)
      obtain ⟨hM, htext⟩ := law1_loop h1 h2 hb e
      have i₃ := InCall.kp i₂ k₃
      refine st_ret (P := fun v c => ∃ t x y, v = .ref t ∧ c.heap.IsTuple t #[x, y] ∧ IsI M x ∧ IsS (cat (cs.map lword)) y) ((ev_Tuple2 (P1 := fun v _ => IsI M v) (P2 := fun v _ => IsS (cat (cs.map lword)) v) ((ev_loc i₃.ns hr₂).mono fun u _ _ e => ?_) (fun c₄ k₄ => ?_) (fun _ _ _ _ h => h) (fun _ _ _ _ h => h)).mono fun v c _ h => ?_) fun u c₄ k₄ hu => ⟨hu, kp_trans (InCall.keeps i₃) k₄⟩
      · subst e; exact ⟨tv, by rw [hM, Int.zero_add]⟩
      · rw [← htext]
        exact ev_written_text (Bk c₄ (kp_trans (InCall.keeps i₃) k₄)) R' (kp_ns k₄ i₃.ns) hm₂ (hl₂.at fun o e => kp_get (kp_trans k₃ k₄) e) hp (by omega) (by decide) rfl
      · obtain ⟨t, x, y, h1, h2, h3, h4, _⟩ := h
        exact ⟨t, x, y, h1, h2, h3, h4⟩
    · -- one round more
      refine wpAny_execs_nil ?_
      have i₃ := InCall.kp i₂ k₃
      refine st_assign i₃ rfl (P := fun u c => ∃ D ys, u = .ref D ∧ c.heap.PlainList D ys.toArray ∧ Paired (fun c y => IsS ⟨#[c]⟩ y) (cat ((stepN j cs).map unc)).cps.toList ys ∧ c₃.heap.get? D = none) (ev_callT (ev_bname (Bk c₃ (InCall.keeps i₃)) (by decide) bt_list) (ev_written_text (Bk c₃ (InCall.keeps i₃)) R' i₃.ns hm₂ (hl₂.at fun o e => kp_get k₃ e) hp (by omega) (by decide) rfl) fun u s₂ k₂ hu => (ev_listS R'.handled hu ?_).mono fun v c _ h => by
          obtain ⟨D, ys, q1, q2, q3, q4⟩ := h
          exact ⟨D, ys, q1, q2, q3, none_back k₂ q4⟩) fun tv₂ c₄ c₅ k₄ hP i₅ kb₅ => wpAny_execs_nil ⟨?_, ?_⟩
      · rw [cat_len]
        have := unc_sum (stepN j cs)
        show _ ≤ 2 ^ 24
        omega
      · obtain ⟨D, ys, rfl, hD, hys, hDn⟩ := hP
        have hDL : D ≠ L := Ll hD.isList (kp_ns k₄ i₃.ns)
        refine ⟨_, D, ys, i₅, rfl, hD.isList.at fun o e => kb₅ _ o hDL e, fun hDX => ?_, ?_, ?_, fun i hi => ?_⟩
        · obtain ⟨o, e⟩ := hXl D hDX
          have e2 := kp_get k₃ (kb₂ D o hDL e)
          rw [hDn] at e2; cases e2
        · show Paired CodeIs (step (stepN j cs)) ys
          unfold step
          exact paired_map (paired_mono hys fun c v hv => Or.inr ⟨Int.natCast_nonneg c, by simpa using hv⟩)
        · have := step_len (stepN j cs)
          show (step (stepN j cs)).length ≤ _
          rw [Nat.pow_succ]; omega
        · rcases Nat.lt_or_ge i j with h | h
          · exact hb i h
          · have : i = j := by omega
            subst this; exact e
      · intro b o hbM e
        simp only [List.mem_cons, List.not_mem_nil, or_false] at hbM
        exact kb₅ b o hbM (kp_get k₄ (kp_get k₃ (kb₂ b o hbM e)))
  · rintro X c hX ⟨m, l', vs', i', hm, hl', hlX, hp, hlen', hb⟩
    exact (law1_stop h1 h2 (by decide) hb).elim
end
end Mine
end
section
open PySem PySem.W PyProof.Rows PySem.Calls PySem.SeqAt
set_option maxRecDepth 100000
namespace Mine

theorem sum_bound : ∀ (l : List Int), (∀ x ∈ l, 0 ≤ x ∧ x < 1000000) → 0 ≤ l.sum ∧ l.sum ≤ 1000000 * l.length
  | [], _ => by simp
  | x :: r, h => by
    have := sum_bound r fun y hy => h y (List.mem_cons_of_mem _ hy)
    have hx := h x List.mem_cons_self
    simp only [List.sum_cons, List.length_cons]
    omega
theorem sum_fits {l : List Int} (h : ∀ x ∈ l, 0 ≤ x ∧ x < 1000000) (hl : l.length ≤ 8) : PySem.SumFits l := by
  intro j hj
  constructor
  · have := h (l.getD j 0) (PySem.getD_mem hj)
    unfold InLong; omega
  · have := sum_bound (l.take (j + 1)) fun x hx => h x (List.mem_of_mem_take hx)
    have h2 : (l.take (j + 1)).length ≤ 8 := by rw [List.length_take]; omega
    unfold InLong; omega

section
variable {prog : Program} {w : World} {A : Around} {s₀ : Shared} {env : Env} {mg mb : Str → Option Value}

theorem ev_pow {a b : Int} {l r : Expr} {pos : Pos} (h1 : Ev prog w A s₀ (eval l env) (fun v _ => IsI a v)) (h2 : Ev prog w A s₀ (eval r env) (fun v _ => IsI b v)) (hb : 0 ≤ b) (hsz : (Builtin.Int.intBits a : Int) * b ≤ 2 ^ 27) :
    Ev prog w A s₀ (eval (.BinOp l .Pow r pos) env) (fun v _ => IsI (a ^ b.toNat) v) :=
  ev_op h1 h2 fun _ _ ⟨_, e1⟩ ⟨_, e2⟩ => by subst e1 e2; exact ev_tok (fun s Q E h => pow_int hb hsz h) fun n => ⟨n, rfl⟩

/-- the first k -/
def upTo (vs : List Value) (k : Int) : List Value := (slicePick vs.toArray none (some k) none).toList
theorem ev_upto {value u : Expr} {p pos : Pos} {l : Addr} {vs : List Value} {k : Int} (hv : Ev prog w A s₀ (eval value env) (fun v _ => v = .ref l)) (hl : s₀.heap.IsList l vs.toArray) (hsz : vs.length ≤ sizeLine)
    (hu : Ev prog w A s₀ (eval u env) (fun v _ => IsI k v)) (ht : ∀ o r, letTemporaryGo value o r = pure () := by intro _ _; rfl) :
    Ev prog w A s₀ (eval (.Subscript value (.Slice none (some u) none p) pos) env) (fun v c => ∃ l', v = .ref l' ∧ c.heap.IsList l' (upTo vs k).toArray ∧ (s₀.heap.get? l' = none ∨ l' ∈ ([] : List Addr))) :=
  Ev.of fun s Q E kk hQ => wpAny_Subscript_list_slice (hv.at kk fun o s₁ k₁ ho => wpAny_evalPart_none (wpAny_evalPart_some (hu.at (kp_trans kk k₁) fun vu s₂ k₂ hvu => by
    subst ho
    obtain ⟨t, rfl⟩ := hvu
    refine ⟨l, vs.toArray, none, some k, rfl, hl.at fun o e => kp_get (kp_trans (kp_trans kk k₁) k₂) e, by simpa using hsz, .none, .int _ _, ?_⟩
    have kpp := kp_trans (kp_trans (kp_trans kk k₁) k₂) (kp_push s₂ { cls := .type "slice", data := .fields #[.none, .int k t, .none] })
    refine hQ _ _ (kp_trans (kp_trans k₁ k₂) (kp_trans (kp_push _ _) (kp_push _ _))) ⟨_, rfl, ⟨{ cls := .type "list", data := .seq (slicePick vs.toArray none (some k) none) }, ?_, rfl, 0, by simp [upTo]⟩, Or.inl ?_⟩
    · rw [← Heap.size_push]; exact push_live
    · rw [← Heap.size_push]
      exact kp_new kpp))) ht

theorem chr_ok {n : Int} (h0 : 0 ≤ n) (h : ([0, 2, 4, 5, 6, 7] : List Int).contains (n % 12) = true) : 0 ≤ lcode n ∧ lcode n ≤ 1114111 := by
  have h' : n % 12 = 0 ∨ n % 12 = 2 ∨ n % 12 = 4 ∨ n % 12 = 5 ∨ n % 12 = 6 ∨ n % 12 = 7 := by simpa using h
  unfold lcode
  rcases h' with e | e | e | e | e | e <;> simp only [e] <;> simp <;> omega

theorem eq_told {t t' : Addr} {x y x' y' : Value} {i j : Int} {a b : Str} (hu : A.units < cLine) (h1 : s₀.heap.IsTuple t #[x, y]) (h2 : s₀.heap.IsTuple t' #[x', y']) (hx : IsI i x) (hy : IsS a y) (hx' : IsI j x') (hy' : IsS b y') (hij : i = j) (hab : a = b) :
    Ev prog w A s₀ (compareOp .Eq (.ref t) (.ref t')) (fun v _ => IsB true v) := by
  obtain ⟨_, rfl⟩ := hx
  obtain ⟨_, rfl⟩ := hy
  obtain ⟨_, rfl⟩ := hx'
  obtain ⟨_, rfl⟩ := hy'
  subst hij hab
  intro s E k
  have ht : ∀ {t : Addr} {items : Array Value}, s₀.heap.IsTuple t items → s.heap.IsTuple t items := fun ⟨o, e, r⟩ => ⟨o, kp_get k e, r⟩
  refine eq_tupleAt (e := fun _ => true) (ht h1) (ht h2) hu (fun j h1 h2 => ?_) ⟨rfl, kp_refl _⟩
  have hj : j = 0 ∨ j = 1 := by
    have : j < 2 := h1
    omega
  rcases hj with rfl | rfl
  · have := fun t u => EqAt.int_int (A := A.in1) (s := s) i t i u
    simp only [beq_self_eq_true] at this
    exact this _ _
  · have := fun t u => EqAt.str_str (A := A.in1) (s := s) a t a u
    simp only [beq_self_eq_true] at this
    exact this _ _

/-- the law's own frame -/
abbrev lenv (L fa : Addr) (cd : Value) : Env := envOf (Str.ofString "law") (fScope (stAt 9)) L fa cd

set_option maxHeartbeats 4000000 in
theorem law1_body {s c : Shared} {L fa l : Addr} {cd : Value} {vs : List Value} {ns : List Int} (B : Base mg mb s.heap) (R : Room A 6) (i : InCall s L (fun x => [(Str.ofString "script", Value.ref l)].reverse.lookup x) c)
    (hl : s.heap.IsList l vs.toArray) (hi : IntsAre vs ns) (hlen : vs.length ≤ 1048576) :
    wpAny (model prog w) A (execs (fBody (stAt 9)) (lenv L fa cd)) (fun f c' => f = .ret (.bool true) ∧ Keeps s c') (fun _ _ => False) c := by
  have Bk : ∀ c', Keeps s c' → Base mg mb c'.heap := fun c' k' => B.keeps (kp_keep k')
  have Ll : ∀ {b : Addr} {h : Heap} {vs : Array Value} {m : Str → Option Value}, h.IsList b vs → h.Ns L m → b ≠ L := by
    rintro b h vs m ⟨o, e, _, n, hd⟩ ⟨o', es, ep, e', hd', _⟩ rfl
    rw [e] at e'; cases e'; rw [hd] at hd'; cases hd'
  have Lt : ∀ {b : Addr} {h : Heap} {vs : Array Value} {m : Str → Option Value}, h.IsTuple b vs → h.Ns L m → b ≠ L := by
    rintro b h vs m ⟨o, e, _, n, hd⟩ ⟨o', es, ep, e', hd', _⟩ rfl
    rw [e] at e'; cases e'; rw [hd] at hd'; cases hd'
  have hlc : c.heap.IsList l vs.toArray := hl.at fun o e => kp_get (InCall.keeps i) e
  have s6 : (ns.take 6).length ≤ 6 := by rw [List.length_take]; omega
  have p6 : Paired IsI (ns.take 6) (upTo vs 6) := ints_paired (slice_ints_uptoW hi (by decide))
  -- cells
  refine st_compP (F0 := []) IsI (fun n y => IsI (n % 1000000) y) i rfl R.handled p6 (ev_upto (ev_loc i.ns rfl) hlc (show _ ≤ 2 ^ 24 by omega) ev_int) (show _ ≤ 2 ^ 24 by omega) (fun C n v s₁ m₁ hn hG hk hns hm => ?_) (fun D ys c₂ hD hys hDn i₂ kb₂ => ?_) (closureFor_none (by decide))
  · exact ev_modc (ev_callT (ev_bname ((Bk c (InCall.keeps i)).keeps hk) (by decide) bt_int) ((ev_loc hns hm).mono fun _ _ _ e => e ▸ hG) fun u s₂ k₂ hu => ev_intI hu) ((ev_pow (a := 10) (b := 6) ev_int ev_int (by decide) (by decide))) (by decide)
  generalize hcs0 : (ns.take 6).map (· % 1000000) = cs0 at *
  have hp0 : Paired IsI cs0 ys := by rw [← hcs0]; exact paired_map hys
  have hb0 : ∀ x ∈ cs0, 0 ≤ x ∧ x < 1000000 := by
    intro x hx
    rw [← hcs0] at hx
    obtain ⟨n, _, rfl⟩ := List.mem_map.mp hx
    omega
  have hl0 : cs0.length ≤ 6 := by rw [← hcs0, List.length_map]; exact s6
  have hDs : s.heap.get? D = none := none_of (InCall.keeps i) hDn
  have eD : ∀ pos, Ev prog w A c₂ (eval (.Name (Str.ofString "cells") pos) (lenv L fa cd)) (fun v _ => v = .ref D) := fun pos => ev_loc i₂.ns rfl
  have hyl : ys.length ≤ 6 := by rw [← hp0.length]; exact hl0
  -- cells.append(sum(cells))
  refine st_append i₂ (Ll hD.isList i₂.ns) hDs (eD _) hD (show _ ≤ 2 ^ 24 by omega) (P := fun v _ => IsI cs0.sum v) (ev_call1 (ev_bname (Bk c₂ (InCall.keeps i₂)) (by decide) bt_sum) (eD _) fun u s₂ k₂ hu => ?_) fun vsum c₃ c₄ k₃ hsum i₄ hD₄ kb₄ => ?_
  · subst hu
    exact ev_sum R.handled (hD.isList.at fun o e => kp_get k₂ e) hp0 (sum_fits hb0 (by omega))
  have hs0 : 0 ≤ cs0.sum := (sum_bound cs0 hb0).1
  obtain ⟨cs, hcs⟩ : ∃ cs, cs = cs0 ++ [cs0.sum] := ⟨_, rfl⟩
  have hp4 : Paired IsI cs (ys ++ [vsum]) := by rw [hcs]; exact Paired.snoc hp0 hsum
  have hb4 : ∀ x ∈ cs, 0 ≤ x := by
    intro x hx
    rw [hcs] at hx
    rcases List.mem_append.mp hx with hx | hx
    · exact (hb0 x hx).1
    · simp at hx; omega
  have hl4 : cs.length ≤ 7 := by rw [hcs]; simp; omega
  have hne4 : 0 < cs.length := by rw [hcs]; simp
  -- codes
  refine st_compP (F0 := [D]) IsI (fun n y => IsI (lcode n) y) i₄ rfl R.handled hp4 ((ev_loc i₄.ns rfl).mono fun v s kk e => ⟨D, e, hD₄.isList.at fun o e => kp_get kk e, Or.inr (by simp)⟩) (show _ ≤ 2 ^ 24 by omega) (fun C n v s₁ m₁ hn hG hk hns hm => ?_) (fun D5 ys5 c₅ hD5 hys5 hDn5 i₅ kb₅ => ?_) (closureFor_none (by decide))
  · have B₁ := (Bk c₄ (InCall.keeps i₄)).keeps hk
    obtain ⟨a5, f5⟩ := B₁.fn 5 (by decide)
    obtain ⟨o5, _, _, _, q1, q2, q3, _⟩ := id f5
    exact ev_callF (ev_glob B₁.g q1) q2 q3 (ev_loc hns hm) fun u s₂ k₂ hu => by
      subst hu
      exact code_call (B₁.keeps (kp_keep k₂)) (R.less (by omega)) (f5.keeps (kp_keep k₂)) hG
  have hDL : D ≠ L := Ll hD.isList i₂.ns
  have hD5' : c₅.heap.IsList D (ys ++ [vsum]).toArray := hD₄.isList.at fun o e => kb₅ _ o hDL e
  have hlen5 : ys5.length = (ys ++ [vsum]).length := by rw [← hys5.length, hp4.length]
  -- row
  refine st_assign_comp (fun j m => ∃ x y, m (Str.ofString "cell") = some x ∧ m (Str.ofString "code") = some y ∧ (ys ++ [vsum])[j]? = some x ∧ ys5[j]? = some y) (fun _ j zs _ => zs.length = j ∧ AllAt (fun k z => ∀ n, cs[k]? = some n → CodeIs (lcode n) z) zs) (F := [D, D5]) i₅ rfl
    (src_zip (F := []) R.handled hD5' hD5.isList hlen5 fun s' Q E kk hQ => ?_) (show _ ≤ 2 ^ 24 by rw [← hp4.length]; omega) (binds_pair R.handled) (fun _ _ => ⟨rfl, fun j y h => by simp at h⟩) (fun _ _ _ _ _ h _ => h) (fun _ _ _ _ _ h _ => h) (fun C X j s₁ m₁ zs hj hk hns hT hR hX => ?_) (fun D6 zs X c₆ hD6 hR6 hDn6 i₆ kb₆ => ?_) (closureFor_none (by decide))
  · refine wpAny_Call_NameR ((ev_bname (Bk c₅ (InCall.keeps i₅)) (by decide) bt_zip).at kk fun vf s₁ k₁ hf => ?_)
    subst hf
    refine PySem.callWith_type rfl (evalArgs_plain (spliced_cons ((ev_loc (env := lenv L fa cd) (kp_ns (kp_trans kk k₁) i₅.ns) rfl).use fun v s₂ k₂ hv => spliced_cons ((ev_loc (env := lenv L fa cd) (kp_ns (kp_trans (kp_trans kk k₁) k₂) i₅.ns) rfl).use fun v' s₃ k₃ hv' => spliced_nil ?_))))
    subst hv hv'
    exact hQ s₃ (kp_trans (kp_trans k₁ k₂) k₃)
  · obtain ⟨x, y, hx, hy, gx, gy⟩ := hT
    obtain ⟨rfl, hA⟩ := hR
    obtain ⟨n, hn, hxn⟩ := paired_get hp4 gx
    obtain ⟨n', hn', hyn⟩ := paired_get hys5 gy
    rw [hn] at hn'; cases hn'
    have B₁ := (Bk c₅ (InCall.keeps i₅)).keeps hk
    have n0 := hb4 n (List.mem_of_getElem? hn)
    refine ⟨true, fun s E _ => wpAny_pure ⟨rfl, kp_refl _⟩, fun h => (by cases h), fun _ => ?_⟩
    refine Ev.mono (P := fun u _ => CodeIs (lcode n) u) (ev_ifexp (c := ([0, 2, 4, 5, 6, 7] : List Int).contains (n % 12)) ?_ (fun e => ?_) (fun e => ?_)) fun u _ _ hu => ⟨by simp, hA.snoc fun n' hn'' => by rw [hn] at hn''; cases hn''; exact hu⟩
    · refine ev_tcmpS (p1 := IsI (n % 12)) (ev_modc ((ev_loc hns hx).mono fun _ _ _ e => e ▸ hxn) ev_int (by decide)) (ev_List (ev_spliceI (ns := [0, 2, 4, 5, 6, 7]) rfl ?_) (fun vs s h => by rw [← h.length]; decide) (fun _ _ _ _ h => h)) fun a b s₂ ha k₂ hb => ?_
      · intro i e n h1 h2
        match i, h1, h2 with
        | 0, h1, h2 => cases h1; cases h2; exact ⟨_, _, rfl⟩
        | 1, h1, h2 => cases h1; cases h2; exact ⟨_, _, rfl⟩
        | 2, h1, h2 => cases h1; cases h2; exact ⟨_, _, rfl⟩
        | 3, h1, h2 => cases h1; cases h2; exact ⟨_, _, rfl⟩
        | 4, h1, h2 => cases h1; cases h2; exact ⟨_, _, rfl⟩
        | 5, h1, h2 => cases h1; cases h2; exact ⟨_, _, rfl⟩
        | k + 6, h1, h2 => cases h1
      · obtain ⟨ll, ws, rfl, hll, hws, _⟩ := hb
        exact in_ints ha hll.isList hws
    · have ok := chr_ok n0 e
      exact (ev_call1 (P := fun u _ => IsS ⟨#[(lcode n).toNat]⟩ u) (ev_bname B₁ (by decide) bt_chr) (ev_loc hns hy) fun u s₂ k₂ hu => by subst hu; exact ev_chr hyn ok.1 ok.2).mono fun u _ _ hu => Or.inr ⟨ok.1, hu⟩
    · exact (ev_loc hns hy).mono fun u _ _ hu => by subst hu; exact Or.inl hyn
  obtain ⟨hzl, hzA⟩ := hR6
  have hrow : Paired CodeIs (cs.map lcode) zs := by
    refine paired_of (by rw [hzl, List.length_map, hp4.length]) fun j z c hz hc => ?_
    rw [List.getElem?_map, Option.map_eq_some_iff] at hc
    obtain ⟨n, hn, rfl⟩ := hc
    exact hzA j z hz n hn
  have hcodes : Paired IsI (cs.map lcode) ys5 := paired_map hys5
  have hD5L : D5 ≠ L := Ll hD5.isList i₅.ns
  have hD56 : c₆.heap.IsList D5 ys5.toArray := hD5.isList.at fun o e => kb₆ _ o hD5L e
  generalize hks : cs.map lcode = ks at *
  have hkl : ks.length ≤ 7 := by rw [← hks, List.length_map]; exact hl4
  have hkn : 0 < (ks.map lrounds).length := by rw [← hks, List.length_map, List.length_map]; exact hne4
  -- told
  refine st_assign i₆ rfl (P := fun v c' => ∃ t x y, v = .ref t ∧ c'.heap.IsTuple t #[x, y] ∧ (∃ M, IsI M x ∧ M ∈ ks.map lrounds ∧ ∀ a ∈ ks.map lrounds, a ≤ M) ∧ IsS (cat (ks.map lword)) y) ((ev_Tuple2 (P1 := fun v _ => ∃ M, IsI M v ∧ M ∈ ks.map lrounds ∧ ∀ a ∈ ks.map lrounds, a ≤ M) (P2 := fun v _ => IsS (cat (ks.map lword)) v) ?_ (fun c₇ k₇ => ?_) (fun _ _ _ _ h => h) (fun _ _ _ _ h => h)).mono fun v c' _ h => ?_) fun vt c₇ c₈ k₇ hT i₈ kb₈ => ?_
  · refine ev_call1 (P1 := fun r c' => ∃ D ys, r = .ref D ∧ c'.heap.PlainList D ys.toArray ∧ Paired (fun n y => IsI (lrounds n) y) ks ys ∧ c₆.heap.get? D = none) (ev_bname (Bk c₆ (InCall.keeps i₆)) (by decide) bt_max) (ev_compP (F0 := [D5]) IsI (fun n y => IsI (lrounds n) y) R.handled hcodes ((ev_loc i₆.ns rfl).mono fun v s kk e => ⟨D5, e, hD56.at fun o e => kp_get kk e, Or.inr (by simp)⟩) (show _ ≤ 2 ^ 24 by omega) (fun C n v s₁ m₁ hn hG hk hns hm => ?_) (closureFor_none (by decide))) fun v s₁ k₁ hP => ?_
    · have B₁ := (Bk c₆ (InCall.keeps i₆)).keeps hk
      obtain ⟨a6, f6⟩ := B₁.fn 6 (by decide)
      obtain ⟨o6, _, _, _, q1, q2, q3, _⟩ := id f6
      exact ev_callF (ev_glob B₁.g q1) q2 q3 (ev_loc hns hm) fun u s₂ k₂ hu => by
        subst hu
        exact rounds_call (B₁.keeps (kp_keep k₂)) (R.less (by omega)) (f6.keeps (kp_keep k₂)) hG
    · obtain ⟨D9, ys9, rfl, hD9, hys9, _⟩ := hP
      exact ev_max R.handled hD9.isList (paired_map hys9) hkn
  · refine ev_methS1 (P1 := fun r c' => ∃ D ys, r = .ref D ∧ c'.heap.PlainList D ys.toArray ∧ Paired (fun n y => IsS (lword n) y) ks ys ∧ c₇.heap.get? D = none) F.slot_str_join F.type_str_join ev_str (ev_compP (F0 := [D5]) IsI (fun n y => IsS (lword n) y) R.handled hcodes ((ev_loc (kp_ns k₇ i₆.ns) rfl).mono fun v s kk e => ⟨D5, e, hD56.at fun o e => kp_get (kp_trans k₇ kk) e, Or.inr (by simp)⟩) (show _ ≤ 2 ^ 24 by omega) (fun C n v s₁ m₁ hn hG hk hns hm => ?_) (closureFor_none (by decide))) (fun ov v s₁ hov k₁ hP => ?_)
    · have B₁ := (Bk c₇ (kp_trans (InCall.keeps i₆) k₇)).keeps hk
      obtain ⟨a7, f7⟩ := B₁.fn 7 (by decide)
      obtain ⟨o7, _, _, _, q1, q2, q3, _⟩ := id f7
      exact ev_callF (ev_glob B₁.g q1) q2 q3 (ev_loc hns hm) fun u s₂ k₂ hu => by
        subst hu
        exact word_call (B₁.keeps (kp_keep k₂)) (R.less (by omega)) (f7.keeps (kp_keep k₂)) hG
    · obtain ⟨D9, ys9, rfl, hD9, hys9, _⟩ := hP
      refine ev_join hov hD9.isList (paired_map hys9) ?_
      have := lword_sum ks
      omega
  · obtain ⟨t, x, y, h1, h2, h3, h4, _⟩ := h
    exact ⟨t, x, y, h1, h2, h3, h4⟩
  obtain ⟨t, x, y, rfl, ht, ⟨M, hM, hM1, hM2⟩, hy⟩ := hT
  have htL : t ≠ L := Lt ht (kp_ns k₇ i₆.ns)
  have ht8 : c₈.heap.IsTuple t #[x, y] := by
    obtain ⟨o, e, r⟩ := ht
    exact ⟨o, kb₈ _ o htL e, r⟩
  have hD6L : D6 ≠ L := Ll hD6.isList i₆.ns
  have hD68 : c₈.heap.IsList D6 zs.toArray := hD6.isList.at fun o e => kb₈ _ o hD6L (kp_get k₇ e)
  -- return
  have B₈ := Bk c₈ (InCall.keeps i₈)
  obtain ⟨a8, f8⟩ := B₈.fn 8 (by decide)
  obtain ⟨o8, _, _, _, q1, q2, q3, _⟩ := id f8
  refine st_ret (P := fun v _ => IsB true v) (ev_cmpS (P1 := fun v c => ∃ t x y, v = .ref t ∧ c.heap.IsTuple t #[x, y] ∧ IsI M x ∧ IsS (cat (ks.map lword)) y) (P2 := fun v _ => v = .ref t) (ev_callF (ev_glob B₈.g q1) q2 q3 (ev_loc i₈.ns rfl) fun u s₂ k₂ hu => ?_) (fun a s₁ k₁ hP => ?_) ?_ fun a b s₂ k₂ hP hb => ?_) fun v c₉ k₉ hv => ⟨by rw [hv], kp_trans (InCall.keeps i₈) k₉⟩
  · subst hu
    exact written_call (B₈.keeps (kp_keep k₂)) (R.less (by omega)) (f8.keeps (kp_keep k₂)) (hD68.at fun o e => kp_get k₂ e) hrow hkl hM1 hM2
  · exact ev_loc (kp_ns k₁ i₈.ns) rfl
  · rintro v s s' k ⟨t, x, y, h1, ⟨o, e, r⟩, h3, h4⟩
    exact ⟨t, x, y, h1, ⟨o, kp_get k e, r⟩, h3, h4⟩
  · obtain ⟨t', x', y', rfl, ht', hx', hy'⟩ := hP
    subst hb
    have ht2 : s₂.heap.IsTuple t #[x, y] := by
      obtain ⟨o, e, r⟩ := ht8
      exact ⟨o, kp_get k₂ e, r⟩
    exact eq_told (by have := R.units; omega) ht' ht2 hx' hy' hM hy rfl rfl
end
end Mine
end
open PySem PySem.W PyProof.Rows
namespace Mine
theorem room_caller (env : Env) : Room (callerA.deeper env) 6 := ⟨rfl, by show 301 + 1 + 6 < 1000; decide, by show 4 + 3 + 8 * 6 < 9900; decide⟩
theorem fn_of {p : Program} {loose : List Str} {mean : ExcName → Option Value} {mg mb : Str → Option Value} {h : Heap} (T : Top p loose mean mg mb h) (st : Stmt) {pos : Pos}
    (hf : (recsOf p).find? (fun e => e.name == fName st) = some ⟨fName st, fArgs st, fBody st, fScope st, pos⟩) : ∃ a, FnAt mg h st a := by
  obtain ⟨a, o, pm, code, doc, h1, h2, h3, h4⟩ := T.fn _ (List.mem_of_find?_eq_some hf)
  exact ⟨a, o, pm, code, doc, h1, h2, h3, h4⟩
end Mine
set_option maxRecDepth 100000 in
set_option maxHeartbeats 8000000 in
theorem PySem.Challenge.cw_mg0004_01_holds : PySem.Challenge.rw_mg0004_01.Holds := by
  (w_on; o_law; k_head; (case hw => w_witness2); w_strict (k_go0; (all_goals try k_fold)))
  rename Top _ _ _ _ _ _ => T
  rename Fr _ _ _ _ => F
  rename IntsAre _ _ => hI
  rename Heap.IsList _ _ _ => hL
  rename (_ : Shared).gens = #[] => hg
  rename ¬ ((_ : Int) < _) => hc
  have hlen := hI.length
  have B : Mine.Base _ _ _ := ⟨T.g, T.b, T.nolimit, by
        intro n hn
        simp only [List.mem_cons, List.not_mem_nil, or_false] at hn
        rcases hn with rfl | rfl | rfl | rfl | rfl | rfl | rfl
        · exact Mine.fn_of T _ rfl
        · exact Mine.fn_of T _ rfl
        · exact Mine.fn_of T _ rfl
        · exact Mine.fn_of T _ rfl
        · exact Mine.fn_of T _ rfl
        · exact Mine.fn_of T _ rfl
        · exact Mine.fn_of T _ rfl,
        fun x hx => by
          simp only [List.mem_cons, List.not_mem_nil, or_false] at hx
          rcases hx with rfl | rfl | rfl | rfl | rfl | rfl | rfl | rfl | rfl | rfl | rfl <;> exact T.free _ (by decide +kernel) (by decide +kernel) (by decide +kernel) (by decide +kernel) (by decide +kernel),
        T.builtins⟩
  refine wpAny_mono (Mine.law1_body B (Mine.room_caller _) ⟨⟨_, _, rfl⟩, F.ns, F.keep, F.above⟩ hL hI (by omega)) (fun f s' h => ?_) (fun _ _ h => h.elim)
  obtain ⟨rfl, hh, tk, rfl, hk⟩ := h
  exact ⟨Or.inl ⟨_, .bool true, [], rfl, fun cls => rfl, .bool true, postW_of (X := (true == true)) rfl (w_eq_bool (w_res rfl) w_lit) rfl, fun _ => ⟨.nil, fun _ h => nomatch h⟩⟩, hk, rfl, hg⟩
