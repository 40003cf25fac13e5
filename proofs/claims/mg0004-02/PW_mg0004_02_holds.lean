import PyProof.Rows.All
import Wide.All
import OpenK.AllK
import Wide.FinOn
import KE.BitLaws
import PySem.Challenge.RW_mg0004_02
set_option Elab.async false
set_option linter.unusedVariables false
section
open PySem PySem.W PyProof.Rows PySem.Calls
namespace Mine

theorem kp_refl (s : Shared) : Keeps s s := ⟨s.heap, s.toks, rfl, fun _ _ e => e⟩
theorem kp_trans {a b c : Shared} (h : Keeps a b) (k : Keeps b c) : Keeps a c := by
  obtain ⟨h1, t1, rfl, k1⟩ := h
  obtain ⟨h2, t2, rfl, k2⟩ := k
  exact ⟨h2, t2, rfl, fun b o e => k2 b o (k1 b o e)⟩
theorem kp_get {s s' : Shared} (h : Keeps s s') {b : Addr} {o : Obj} (e : s.heap.get? b = some o) : s'.heap.get? b = some o := by
  obtain ⟨h1, t1, rfl, k1⟩ := h
  exact k1 b o e
theorem kp_keep {s s' : Shared} (h : Keeps s s') : ∀ b o, s.heap.get? b = some o → s'.heap.get? b = some o := fun _ _ e => kp_get h e
theorem kp_tok (s : Shared) (t : Nat) : Keeps s { s with toks := t } := ⟨s.heap, t, rfl, fun _ _ e => e⟩
theorem kp_push (s : Shared) (o : Obj) : Keeps s { s with heap := s.heap.push o } := ⟨_, s.toks, rfl, fun _ _ e => Heap.get?_push_of_some _ e⟩
theorem kp_ns {s s' : Shared} (h : Keeps s s') {L : Addr} {m} (n : s.heap.Ns L m) : s'.heap.Ns L m := n.keeps (kp_keep h)

/-- from any state that keeps all of s₀, the tree ends by itself, raises nothing, keeps all, and its value is told by P -/
def Ev {α : Type} (prog : Program) (w : World) (A : Around) (s₀ : Shared) (t : Sem α) (P : α → Shared → Prop) : Prop :=
  ∀ (s : Shared) (E : Value → Shared → Prop), Keeps s₀ s → wpAny (model prog w) A t (fun v s' => P v s' ∧ Keeps s s') E s

/-- an int, a text, a bool -/
def IsI (i : Int) (v : Value) : Prop := ∃ t, v = .int i t
def IsS (x : Str) (v : Value) : Prop := ∃ t, v = .str x t
def IsB (b : Bool) (v : Value) : Prop := v = .bool b

section
variable {prog : Program} {w : World} {A : Around} {s₀ : Shared} {env : Env}

theorem Ev.mono {α : Type} {t : Sem α} {P P' : α → Shared → Prop} (h : Ev prog w A s₀ t P) (hp : ∀ v s, Keeps s₀ s → P v s → P' v s) : Ev prog w A s₀ t P' :=
  fun s E k => wpAny_mono (h s E k) (fun v s' x => ⟨hp v s' (kp_trans k x.2) x.1, x.2⟩) fun _ _ x => x
theorem Ev.later {α : Type} {t : Sem α} {P : α → Shared → Prop} {s₁ : Shared} (h : Ev prog w A s₀ t P) (k : Keeps s₀ s₁) : Ev prog w A s₁ t P :=
  fun s E k' => h s E (kp_trans k k')
theorem Ev.use {α : Type} {t : Sem α} {P : α → Shared → Prop} {Q : α → Shared → Prop} {E : Value → Shared → Prop} (h : Ev prog w A s₀ t P) (hq : ∀ v s', Keeps s₀ s' → P v s' → Q v s') :
    wpAny (model prog w) A t Q E s₀ := wpAny_mono (h s₀ E (kp_refl _)) (fun v s' x => hq v s' x.2 x.1) fun _ _ x => x
theorem Ev.at {α : Type} {t : Sem α} {P : α → Shared → Prop} {Q : α → Shared → Prop} {E : Value → Shared → Prop} {s : Shared} (h : Ev prog w A s₀ t P) (k : Keeps s₀ s) (hq : ∀ v s', Keeps s s' → P v s' → Q v s') :
    wpAny (model prog w) A t Q E s := wpAny_mono (h s E k) (fun v s' x => hq v s' x.2 x.1) fun _ _ x => x
theorem Ev.of {α : Type} {t : Sem α} {P : α → Shared → Prop}
    (h : ∀ (s : Shared) (Q : α → Shared → Prop) (E : Value → Shared → Prop), Keeps s₀ s → (∀ v s', Keeps s s' → P v s' → Q v s') → wpAny (model prog w) A t Q E s) : Ev prog w A s₀ t P :=
  fun s E k => h s _ E k fun v s' k' p => ⟨p, k'⟩
/-- constants -/
theorem ev_int {i : Int} {k : Nat} {pos : Pos} : Ev prog w A s₀ (eval (.Constant (.int i) k pos) env) (fun v _ => IsI i v) :=
  fun s E _ => wpAny_Constant_int ⟨⟨_, rfl⟩, kp_tok _ _⟩
theorem ev_str {x : Str} {k : Nat} {pos : Pos} : Ev prog w A s₀ (eval (.Constant (.str x) k pos) env) (fun v _ => IsS x v) :=
  fun s E _ => wpAny_Constant_str ⟨⟨_, rfl⟩, kp_tok _ _⟩
/-- names -/
theorem ev_loc {x : Str} {pos : Pos} {m : Str → Option Value} {v : Value} (n : s₀.heap.Ns env.locals m) (hv : m x = some v) (hk : env.scope.kind = .function := by rfl) (hl : env.kindOf x = some .local := by rfl)
    (hd : (x == ("__debug__" : Str)) = false := by decide) : Ev prog w A s₀ (eval (.Name x pos) env) (fun u _ => u = v) :=
  fun s E k => wpAny_Name (wpAny_loadName_local hk hl (kp_ns k n) hv ⟨rfl, kp_refl _⟩) hd
theorem ev_glob {x : Str} {pos : Pos} {mg : Str → Option Value} {v : Value} (n : s₀.heap.Ns env.globals mg) (hv : mg x = some v) (hk : env.scope.kind = .function := by rfl) (hl : env.kindOf x = some .globalImplicit := by rfl)
    (hd : (x == ("__debug__" : Str)) = false := by decide) : Ev prog w A s₀ (eval (.Name x pos) env) (fun u _ => u = v) :=
  fun s E k => Name_function_global hk hl (loadGlobal_global (kp_ns k n) hv ⟨rfl, kp_refl _⟩) hd
theorem ev_blt {x : Str} {pos : Pos} {mg mb : Str → Option Value} {v : Value} (n : s₀.heap.Ns env.globals mg) (hm : mg x = none) (nb : s₀.heap.Ns env.builtins mb) (hv : mb x = some v)
    (hk : env.scope.kind = .function := by rfl) (hl : env.kindOf x = some .globalImplicit := by rfl)
    (hd : (x == ("__debug__" : Str)) = false := by decide) : Ev prog w A s₀ (eval (.Name x pos) env) (fun u _ => u = v) :=
  fun s E k => Name_function_global hk hl (loadGlobal_builtin (kp_ns k n) hm (kp_ns k nb) hv ⟨rfl, kp_refl _⟩) hd

/-- two operands -/
theorem ev_op {l r : Expr} {op : Operator} {pos : Pos} {p1 p2 : Value → Prop} {P : Value → Shared → Prop} (h1 : Ev prog w A s₀ (eval l env) (fun v _ => p1 v)) (h2 : Ev prog w A s₀ (eval r env) (fun v _ => p2 v))
    (h3 : ∀ a b, p1 a → p2 b → Ev prog w A s₀ (binaryOp op a b) P) : Ev prog w A s₀ (eval (.BinOp l op r pos) env) P :=
  Ev.of fun s Q E k hQ => wpAny_BinOp (h1.at k fun a s₁ k₁ pa => h2.at (kp_trans k k₁) fun b s₂ k₂ pb => (h3 a b pa pb).at (kp_trans (kp_trans k k₁) k₂) fun v s₃ k₃ pv => hQ v s₃ (kp_trans (kp_trans k₁ k₂) k₃) pv)
theorem ev_cmp {l r : Expr} {op : CmpOp} {pos : Pos} {p1 p2 : Value → Prop} {P : Value → Shared → Prop} (h1 : Ev prog w A s₀ (eval l env) (fun v _ => p1 v)) (h2 : Ev prog w A s₀ (eval r env) (fun v _ => p2 v))
    (h3 : ∀ a b, p1 a → p2 b → Ev prog w A s₀ (compareOp op a b) P) (hm : behindInMarks op r = false := by with_unfolding_all rfl) : Ev prog w A s₀ (eval (.Compare l [op] [r] pos) env) P :=
  Ev.of fun s Q E k hQ => wpAny_Compare1 (h1.at k fun a s₁ k₁ pa => h2.at (kp_trans k k₁) fun b s₂ k₂ pb => (h3 a b pa pb).at (kp_trans (kp_trans k k₁) k₂) fun v s₃ k₃ pv => hQ v s₃ (kp_trans (kp_trans k₁ k₂) k₃) pv) hm

theorem ev_tok {t : Sem Value} {p : Value → Prop} {f : Nat → Value} (h : ∀ (s : Shared) (Q : Value → Shared → Prop) (E : Value → Shared → Prop), Q (f s.toks) { s with toks := s.toks + 1 } → wpAny (model prog w) A t Q E s) (hp : ∀ n, p (f n)) :
    Ev prog w A s₀ t (fun v _ => p v) := fun s E _ => h s _ E ⟨hp _, kp_tok _ _⟩
theorem ev_same {t : Sem Value} {p : Value → Prop} {v : Value} (h : ∀ (s : Shared) (Q : Value → Shared → Prop) (E : Value → Shared → Prop), Q v s → wpAny (model prog w) A t Q E s) (hp : p v) :
    Ev prog w A s₀ t (fun v _ => p v) := fun s E _ => h s _ E ⟨hp, kp_refl _⟩

theorem bim {op : CmpOp} (h : (op == .In || op == .NotIn) = false) (r : Expr) : behindInMarks op r = false := by
  cases r with
  | Set elts k p => show (k == 0 && (op == .In || op == .NotIn) && elts.all (constantsAlone 8)) = false; rw [h, Bool.and_false, Bool.false_and]
  | _ => rfl

section
variable {a b : Int} {l r : Expr} {pos : Pos} (h1 : Ev prog w A s₀ (eval l env) (fun v _ => IsI a v)) (h2 : Ev prog w A s₀ (eval r env) (fun v _ => IsI b v))
include h1 h2
theorem ev_add : Ev prog w A s₀ (eval (.BinOp l .Add r pos) env) (fun v _ => IsI (a + b) v) :=
  ev_op h1 h2 fun _ _ ⟨_, e1⟩ ⟨_, e2⟩ => by subst e1 e2; exact ev_tok (fun s Q E h => add_int h) fun n => ⟨n, rfl⟩
theorem ev_sub : Ev prog w A s₀ (eval (.BinOp l .Sub r pos) env) (fun v _ => IsI (a - b) v) :=
  ev_op h1 h2 fun _ _ ⟨_, e1⟩ ⟨_, e2⟩ => by subst e1 e2; exact ev_tok (fun s Q E h => sub_int h) fun n => ⟨n, rfl⟩
theorem ev_mul (hm : IntMulOk a b) : Ev prog w A s₀ (eval (.BinOp l .Mult r pos) env) (fun v _ => IsI (a * b) v) :=
  ev_op h1 h2 fun _ _ ⟨_, e1⟩ ⟨_, e2⟩ => by subst e1 e2; exact ev_tok (fun s Q E h => mul_int h hm) fun n => ⟨n, rfl⟩
theorem ev_and : Ev prog w A s₀ (eval (.BinOp l .BitAnd r pos) env) (fun v _ => IsI (Builtin.bitAnd a b) v) :=
  ev_op h1 h2 fun _ _ ⟨_, e1⟩ ⟨_, e2⟩ => by subst e1 e2; exact ev_tok (fun s Q E h => and_int h) fun n => ⟨n, rfl⟩
theorem ev_or : Ev prog w A s₀ (eval (.BinOp l .BitOr r pos) env) (fun v _ => IsI (Builtin.bitOr a b) v) :=
  ev_op h1 h2 fun _ _ ⟨_, e1⟩ ⟨_, e2⟩ => by subst e1 e2; exact ev_tok (fun s Q E h => or_int h) fun n => ⟨n, rfl⟩
theorem ev_mod (hb : b ≠ 0) : Ev prog w A s₀ (eval (.BinOp l .Mod r pos) env) (fun v _ => IsI (a.fmod b) v) :=
  ev_op h1 h2 fun _ _ ⟨_, e1⟩ ⟨_, e2⟩ => by subst e1 e2; exact ev_tok (fun s Q E h => mod_int hb h) fun n => ⟨n, rfl⟩
theorem ev_div (hb : b ≠ 0) (hp : b.natAbs < 1073741824) : Ev prog w A s₀ (eval (.BinOp l .FloorDiv r pos) env) (fun v _ => IsI (a.fdiv b) v) :=
  ev_op h1 h2 fun _ _ ⟨_, e1⟩ ⟨_, e2⟩ => by subst e1 e2; exact ev_tok (fun s Q E h => floordiv_int hb h (Or.inl (PyProof.noPylong_small hp))) fun n => ⟨n, rfl⟩
theorem ev_eqI : Ev prog w A s₀ (eval (.Compare l [.Eq] [r] pos) env) (fun v _ => IsB (a == b) v) :=
  ev_cmp h1 h2 (fun _ _ ⟨_, e1⟩ ⟨_, e2⟩ => by subst e1 e2; exact ev_same (fun s Q E h => eq_int h) rfl) (bim rfl r)
end
end
end Mine
end
section
open PySem PySem.W PyProof.Rows PySem.Calls
namespace Mine
section
variable {prog : Program} {w : World} {A : Around} {s₀ : Shared} {env : Env}

/-- tests -/
theorem ev_tcmp {l r : Expr} {op : CmpOp} {pos : Pos} {whole : Sem Value} {p1 p2 : Value → Prop} {c : Bool} (h1 : Ev prog w A s₀ (eval l env) (fun v _ => p1 v)) (h2 : Ev prog w A s₀ (eval r env) (fun v _ => p2 v))
    (h3 : ∀ a b, p1 a → p2 b → Ev prog w A s₀ (compareOp op a b) (fun v _ => IsB c v)) (hm : behindInMarks op r = false := by with_unfolding_all rfl) :
    Ev prog w A s₀ (isTrue (.Compare l [op] [r] pos) env whole) (fun b _ => b = c) :=
  Ev.of fun s Q E k hQ => wpAny_isTrue_Compare1 (h1.at k fun a s₁ k₁ pa => h2.at (kp_trans k k₁) fun b s₂ k₂ pb => (h3 a b pa pb).at (kp_trans (kp_trans k k₁) k₂) fun v s₃ k₃ pv => by
    cases pv; exact wpAny_truthy_bool (hQ c s₃ (kp_trans (kp_trans k₁ k₂) k₃) rfl)) hm
section
variable {a b : Int} {l r : Expr} {pos : Pos} {whole : Sem Value} (h1 : Ev prog w A s₀ (eval l env) (fun v _ => IsI a v)) (h2 : Ev prog w A s₀ (eval r env) (fun v _ => IsI b v))
include h1 h2
theorem ev_tEq : Ev prog w A s₀ (isTrue (.Compare l [.Eq] [r] pos) env whole) (fun c _ => c = (a == b)) :=
  ev_tcmp h1 h2 (fun _ _ ⟨_, e1⟩ ⟨_, e2⟩ => by subst e1 e2; exact ev_same (fun s Q E h => eq_int h) rfl) (bim rfl r)
theorem ev_tLt : Ev prog w A s₀ (isTrue (.Compare l [.Lt] [r] pos) env whole) (fun c _ => c = decide (a < b)) :=
  ev_tcmp h1 h2 (fun _ _ ⟨_, e1⟩ ⟨_, e2⟩ => by subst e1 e2; exact ev_same (fun s Q E h => lt_int h) rfl) (bim rfl r)
theorem ev_tGt : Ev prog w A s₀ (isTrue (.Compare l [.Gt] [r] pos) env whole) (fun c _ => c = decide (a > b)) :=
  ev_tcmp h1 h2 (fun _ _ ⟨_, e1⟩ ⟨_, e2⟩ => by subst e1 e2; exact ev_same (fun s Q E h => gt_int h) rfl) (bim rfl r)
theorem ev_tGe : Ev prog w A s₀ (isTrue (.Compare l [.GtE] [r] pos) env whole) (fun c _ => c = decide (a ≥ b)) :=
  ev_tcmp h1 h2 (fun _ _ ⟨_, e1⟩ ⟨_, e2⟩ => by subst e1 e2; exact ev_same (fun s Q E h => ge_int h) rfl) (bim rfl r)
end
theorem ev_tval {e : Expr} {p : Value → Prop} {c : Bool} (h : Ev prog w A s₀ (eval e env) (fun v _ => p v)) (ht : ∀ v, p v → Ev prog w A s₀ (truthy v) (fun b _ => b = c))
    (he : isTrue e env (eval e env) = (do let v ← eval e env; standAt e.pos; holding [v] (truthy v)) := by rfl) : Ev prog w A s₀ (isTrue e env (eval e env)) (fun b _ => b = c) :=
  Ev.of fun s Q E k hQ => isTrue_plain (h.at k fun v s₁ k₁ pv => (ht v pv).at (kp_trans k k₁) fun b s₂ k₂ pb => hQ b s₂ (kp_trans k₁ k₂) pb) he
theorem ev_truB {b : Bool} : ∀ v, IsB b v → Ev prog w A s₀ (truthy v) (fun c _ => c = b) := by
  rintro v rfl s E k; exact wpAny_truthy_bool ⟨rfl, kp_refl _⟩
theorem ev_truI {i : Int} : ∀ v, IsI i v → Ev prog w A s₀ (truthy v) (fun c _ => c = (i != 0)) := by
  rintro v ⟨t, rfl⟩ s E k; exact PyProof.Rows.truthy_int ⟨rfl, kp_refl _⟩
theorem ev_tnot {e : Expr} {pos : Pos} {whole : Sem Value} {c : Bool} (h : Ev prog w A s₀ (isTrue e env (eval e env)) (fun b _ => b = c)) : Ev prog w A s₀ (isTrue (.UnaryOp .Not e pos) env whole) (fun b _ => b = !c) :=
  Ev.of fun s Q E k hQ => isTrue_not (h.at k fun b s₁ k₁ pb => hQ (!b) s₁ k₁ (by rw [pb]))
theorem ev_tand {e₁ e₂ : Expr} {pos : Pos} {whole : Sem Value} {c d : Bool} (h₁ : Ev prog w A s₀ (isTrue e₁ env (eval e₁ env)) (fun b _ => b = c)) (h₂ : c = true → Ev prog w A s₀ (isTrue e₂ env (eval e₂ env)) (fun b _ => b = d)) :
    Ev prog w A s₀ (isTrue (.BoolOp .And [e₁, e₂] pos) env whole) (fun b _ => b = (c && d)) :=
  Ev.of fun s Q E k hQ => isTrue_and (h₁.at k fun b s₁ k₁ pb => by
    subst pb
    cases b with
    | false => exact hQ _ s₁ k₁ rfl
    | true => exact isTrue_and ((h₂ rfl).at (kp_trans k k₁) fun b' s₂ k₂ pb' => by
        subst pb'
        cases b' with
        | false => exact hQ _ s₂ (kp_trans k₁ k₂) rfl
        | true => exact isTrue_and_nil (hQ _ s₂ (kp_trans k₁ k₂) rfl)))
theorem ev_tor {e₁ e₂ : Expr} {pos : Pos} {whole : Sem Value} {c d : Bool} (h₁ : Ev prog w A s₀ (isTrue e₁ env (eval e₁ env)) (fun b _ => b = c)) (h₂ : c = false → Ev prog w A s₀ (isTrue e₂ env (eval e₂ env)) (fun b _ => b = d)) :
    Ev prog w A s₀ (isTrue (.BoolOp .Or [e₁, e₂] pos) env whole) (fun b _ => b = (c || d)) :=
  Ev.of fun s Q E k hQ => isTrue_or (h₁.at k fun b s₁ k₁ pb => by
    subst pb
    cases b with
    | true => exact hQ _ s₁ k₁ rfl
    | false => exact isTrue_or ((h₂ rfl).at (kp_trans k k₁) fun b' s₂ k₂ pb' => by
        subst pb'
        cases b' with
        | true => exact hQ _ s₂ (kp_trans k₁ k₂) rfl
        | false => exact isTrue_or_nil (hQ _ s₂ (kp_trans k₁ k₂) rfl)))

theorem ev_ifexp {t b o : Expr} {pos : Pos} {c : Bool} {P : Value → Shared → Prop} (ht : Ev prog w A s₀ (isTrue t env (eval t env)) (fun b _ => b = c)) (h1 : c = true → Ev prog w A s₀ (eval b env) P) (h2 : c = false → Ev prog w A s₀ (eval o env) P) :
    Ev prog w A s₀ (eval (.IfExp t b o pos) env) P :=
  Ev.of fun s Q E k hQ => IfExp_ (ht.at k fun b' s₁ k₁ pb => by
    subst pb
    cases b' with
    | true => exact (h1 rfl).at (kp_trans k k₁) fun v s₂ k₂ pv => hQ v s₂ (kp_trans k₁ k₂) pv
    | false => exact (h2 rfl).at (kp_trans k k₁) fun v s₂ k₂ pv => hQ v s₂ (kp_trans k₁ k₂) pv)

/-- l ≤ x ≤ r of ints, as a value -/
theorem ev_chainLL {l m r : Expr} {pos : Pos} {a x b : Int} (h1 : Ev prog w A s₀ (eval l env) (fun v _ => IsI a v)) (h2 : Ev prog w A s₀ (eval m env) (fun v _ => IsI x v)) (h3 : Ev prog w A s₀ (eval r env) (fun v _ => IsI b v))
    (hm : lastMarks [.LtE, .LtE] [m, r] = false := by with_unfolding_all rfl) :
    Ev prog w A s₀ (eval (.Compare l [.LtE, .LtE] [m, r] pos) env) (fun v _ => IsB (decide (a ≤ x ∧ x ≤ b)) v) :=
  Ev.of fun s Q E k hQ => Compare_chain (h1.at k fun va s₁ k₁ pa => chain_link (h2.at (kp_trans k k₁) fun vx s₂ k₂ px => by
    obtain ⟨_, rfl⟩ := pa
    obtain ⟨_, rfl⟩ := px
    refine le_int (wpAny_truthy_bool ?_)
    by_cases hax : a ≤ x
    · rw [decide_eq_true hax]
      simp only [if_true]
      refine chain_last (h3.at (kp_trans (kp_trans k k₁) k₂) fun vb s₃ k₃ pb => ?_)
      obtain ⟨_, rfl⟩ := pb
      exact le_int (hQ _ s₃ (kp_trans (kp_trans k₁ k₂) k₃) (by simp [IsB, hax]))
    · rw [decide_eq_false hax]
      simp only [Bool.false_eq_true, if_false]
      exact hQ _ s₂ (kp_trans k₁ k₂) (by simp [IsB, hax]))) hm
/-- l ≤ x < r of ints, as a test -/
theorem ev_tchainLl {l m r : Expr} {pos : Pos} {whole : Sem Value} {a x b : Int} (h1 : Ev prog w A s₀ (eval l env) (fun v _ => IsI a v)) (h2 : Ev prog w A s₀ (eval m env) (fun v _ => IsI x v)) (h3 : Ev prog w A s₀ (eval r env) (fun v _ => IsI b v))
    (hm : lastMarks [.LtE, .Lt] [m, r] = false := by with_unfolding_all rfl) :
    Ev prog w A s₀ (isTrue (.Compare l [.LtE, .Lt] [m, r] pos) env whole) (fun c _ => c = decide (a ≤ x ∧ x < b)) :=
  Ev.of fun s Q E k hQ => isTrue_chain (h1.at k fun va s₁ k₁ pa => test_link (h2.at (kp_trans k k₁) fun vx s₂ k₂ px => by
    obtain ⟨_, rfl⟩ := pa
    obtain ⟨_, rfl⟩ := px
    refine le_int (wpAny_truthy_bool ?_)
    by_cases hax : a ≤ x
    · rw [decide_eq_true hax]
      simp only [if_true]
      refine test_last (h3.at (kp_trans (kp_trans k k₁) k₂) fun vb s₃ k₃ pb => ?_)
      obtain ⟨_, rfl⟩ := pb
      exact lt_int (wpAny_truthy_bool (hQ _ s₃ (kp_trans (kp_trans k₁ k₂) k₃) (by simp [hax])))
    · rw [decide_eq_false hax]
      simp only [Bool.false_eq_true, if_false]
      exact hQ _ s₂ (kp_trans k₁ k₂) (by simp [hax]))) hm

/-- calls -/
theorem ev_call1 {f : Str} {np pos : Pos} {e : Expr} {id : String} {P1 : Value → Shared → Prop} {P : Value → Shared → Prop} (hf : Ev prog w A s₀ (eval (.Name f np) env) (fun v _ => v = .builtin id))
    (h1 : Ev prog w A s₀ (eval e env) P1) (hc : ∀ v s₁, Keeps s₀ s₁ → P1 v s₁ → Ev prog w A s₁ (call (.builtin id) [v]) P)
    (he : starEach [e] env = (false, eval e env) :: starEach [] env := by rfl) : Ev prog w A s₀ (eval (.Call (.Name f np) [e] [] pos) env) P :=
  Ev.of fun s Q E k hQ => wpAny_Call_NameR (hf.at k fun vf s₁ k₁ pf => by
    subst pf
    refine callWith_builtin1 (spliced_more (h1.at (kp_trans k k₁) fun v s₂ k₂ pv => spliced_none ?_) he) he rfl
    exact (hc v s₂ (kp_trans (kp_trans k k₁) k₂) pv).use fun r s₃ k₃ pr => hQ r s₃ (kp_trans (kp_trans k₁ k₂) k₃) pr)
theorem ev_call2 {f : Str} {np pos : Pos} {e e' : Expr} {id : String} {p1 p2 : Value → Prop} {P : Value → Shared → Prop} (hf : Ev prog w A s₀ (eval (.Name f np) env) (fun v _ => v = .builtin id))
    (h1 : Ev prog w A s₀ (eval e env) (fun v _ => p1 v)) (h2 : Ev prog w A s₀ (eval e' env) (fun v _ => p2 v)) (hc : ∀ v u, p1 v → p2 u → Ev prog w A s₀ (call (.builtin id) [v, u]) P)
    (he : starEach [e, e'] env = (false, eval e env) :: starEach [e'] env := by rfl) (he' : starEach [e'] env = (false, eval e' env) :: starEach [] env := by rfl)
    (hp : (backTo pos (starEach [e'] env)).any (·.1) = false := by rfl) : Ev prog w A s₀ (eval (.Call (.Name f np) [e, e'] [] pos) env) P :=
  Ev.of fun s Q E k hQ => wpAny_Call_NameR (hf.at k fun vf s₁ k₁ pf => by
    subst pf
    refine callWith_builtin1 (spliced_more (h1.at (kp_trans k k₁) fun v s₂ k₂ pv => spliced_more (h2.at (kp_trans (kp_trans k k₁) k₂) fun u s₃ k₃ pu => spliced_none ?_) he') he) he hp
    exact (hc v u pv pu).at (kp_trans (kp_trans (kp_trans k k₁) k₂) k₃) fun r s₄ k₄ pr => hQ r s₄ (kp_trans (kp_trans (kp_trans k₁ k₂) k₃) k₄) pr)
theorem ev_callT {f : Str} {np pos : Pos} {e : Expr} {T : String} {P1 : Value → Shared → Prop} {P : Value → Shared → Prop} (hf : Ev prog w A s₀ (eval (.Name f np) env) (fun v _ => v = .type T))
    (h1 : Ev prog w A s₀ (eval e env) P1) (hc : ∀ v s₁, Keeps s₀ s₁ → P1 v s₁ → Ev prog w A s₁ (call (.type T) [v]) P)
    (he : starEach [e] env = (false, eval e env) :: starEach [] env := by rfl) : Ev prog w A s₀ (eval (.Call (.Name f np) [e] [] pos) env) P :=
  Ev.of fun s Q E k hQ => wpAny_Call_NameR (hf.at k fun vf s₁ k₁ pf => by
    subst pf
    rw [he]
    refine PySem.callWith_type rfl (evalArgs_plain (spliced_cons (h1.at (kp_trans k k₁) fun v s₂ k₂ pv => spliced_nil ?_)))
    exact (hc v s₂ (kp_trans (kp_trans k k₁) k₂) pv).use fun r s₃ k₃ pr => hQ r s₃ (kp_trans (kp_trans k₁ k₂) k₃) pr)
/-- a def of one argument -/
theorem ev_callF {f : Str} {np pos : Pos} {e : Expr} {a : Addr} {o : Obj} {fd : FuncData} {P1 : Value → Shared → Prop} {P : Value → Shared → Prop} (hf : Ev prog w A s₀ (eval (.Name f np) env) (fun v _ => v = .ref a)) (ho : s₀.heap.get? a = some o)
    (hd : o.data = .func fd) (h1 : Ev prog w A s₀ (eval e env) P1) (hc : ∀ v s₁, Keeps s₀ s₁ → P1 v s₁ → Ev prog w A s₁ (call (.ref a) [v]) P)
    (he : starEach [e] env = (false, eval e env) :: starEach [] env := by rfl) : Ev prog w A s₀ (eval (.Call (.Name f np) [e] [] pos) env) P :=
  Ev.of fun s Q E k hQ => wpAny_Call_NameR (hf.at k fun vf s₁ k₁ pf => by
    subst pf
    refine callWith_def hd (spliced_more (h1.at (kp_trans k k₁) fun v s₂ k₂ pv => spliced_none ⟨kp_get (kp_trans (kp_trans k k₁) k₂) ho, ?_⟩) he) he
    exact (hc v s₂ (kp_trans (kp_trans k k₁) k₂) pv).use fun r s₃ k₃ pr => hQ r s₃ (kp_trans (kp_trans k₁ k₂) k₃) pr)
theorem ev_callF2 {f : Str} {np pos : Pos} {e e' : Expr} {a : Addr} {o : Obj} {fd : FuncData} {p1 p2 : Value → Prop} {P : Value → Shared → Prop} (hf : Ev prog w A s₀ (eval (.Name f np) env) (fun v _ => v = .ref a)) (ho : s₀.heap.get? a = some o)
    (hd : o.data = .func fd) (h1 : Ev prog w A s₀ (eval e env) (fun v _ => p1 v)) (h2 : Ev prog w A s₀ (eval e' env) (fun v _ => p2 v)) (hc : ∀ v u, p1 v → p2 u → Ev prog w A s₀ (call (.ref a) [v, u]) P)
    (he : starEach [e, e'] env = (false, eval e env) :: starEach [e'] env := by rfl) (he' : starEach [e'] env = (false, eval e' env) :: starEach [] env := by rfl) : Ev prog w A s₀ (eval (.Call (.Name f np) [e, e'] [] pos) env) P :=
  Ev.of fun s Q E k hQ => wpAny_Call_NameR (hf.at k fun vf s₁ k₁ pf => by
    subst pf
    refine callWith_def hd (spliced_more (h1.at (kp_trans k k₁) fun v s₂ k₂ pv => spliced_more (h2.at (kp_trans (kp_trans k k₁) k₂) fun u s₃ k₃ pu => spliced_none ⟨kp_get (kp_trans (kp_trans (kp_trans k k₁) k₂) k₃) ho, ?_⟩) he') he) he
    exact (hc v u pv pu).at (kp_trans (kp_trans (kp_trans k k₁) k₂) k₃) fun r s₄ k₄ pr => hQ r s₄ (kp_trans (kp_trans (kp_trans k₁ k₂) k₃) k₄) pr)

/-- what the built-ins give -/
theorem ev_isiI {i : Int} {v : Value} (h : IsI i v) : Ev prog w A s₀ (call (.builtin "isinstance") [v, .type "str"]) (fun u _ => IsB false u) := by
  obtain ⟨t, rfl⟩ := h; exact fun s E _ => IsiPair.int_str ⟨rfl, kp_tok _ _⟩
theorem ev_isiS {x : Str} {v : Value} (h : IsS x v) : Ev prog w A s₀ (call (.builtin "isinstance") [v, .type "str"]) (fun u _ => IsB true u) := by
  obtain ⟨t, rfl⟩ := h; exact fun s E _ => IsiPair.str_str ⟨rfl, kp_refl _⟩
theorem ev_ord {c : Nat} {v : Value} (h : IsS ⟨#[c]⟩ v) : Ev prog w A s₀ (call (.builtin "ord") [v]) (fun u _ => IsI c u) := by
  obtain ⟨t, rfl⟩ := h; exact fun s E _ => PySem.P.ord_of_char ⟨⟨_, rfl⟩, kp_tok _ _⟩
theorem ev_chr {i : Int} {v : Value} (h : IsI i v) (h0 : 0 ≤ i) (h1 : i ≤ 1114111) : Ev prog w A s₀ (call (.builtin "chr") [v]) (fun u _ => IsS ⟨#[i.toNat]⟩ u) := by
  obtain ⟨t, rfl⟩ := h; exact fun s E _ => chr_of_range h0 h1 ⟨⟨_, rfl⟩, kp_tok _ _⟩
theorem ev_intI {i : Int} {v : Value} (h : IsI i v) : Ev prog w A s₀ (call (.type "int") [v]) (fun u _ => IsI i u) := by
  obtain ⟨t, rfl⟩ := h; exact fun s E _ => call_int_int ⟨⟨_, rfl⟩, kp_refl _⟩

theorem ev_addS {x y : Str} {l r : Expr} {pos : Pos} (h1 : Ev prog w A s₀ (eval l env) (fun v _ => IsS x v)) (h2 : Ev prog w A s₀ (eval r env) (fun v _ => IsS y v)) (hsz : x.length + y.length ≤ sizeLine) :
    Ev prog w A s₀ (eval (.BinOp l .Add r pos) env) (fun v _ => IsS (x ++ y) v) :=
  ev_op h1 h2 fun _ _ ⟨t, e1⟩ ⟨u, e2⟩ => by
    subst e1 e2
    intro s E _
    exact add_str (fun t' tk => ⟨⟨_, rfl⟩, kp_tok _ _⟩) hsz

/-- a def is entered -/
theorem ev_enter {a : Addr} {o : Obj} {fd : FuncData} {body : List Stmt} {vals : List Value} {binds : List (Str × Value)} {P : Value → Shared → Prop}
    (hroom : A.depth < recursionLimit) (ho : s₀.heap.get? a = some o) (hdata : o.data = .func fd) (hlim : s₀.heap.NoLimit) (hcd : s₀.heap.CodeRec fd.code fd.qualname)
    (hbody : fd.body = .stmts body) (hbind : bindArgs fd ⟨vals, []⟩ = pure binds)
    (hcell : ∀ x ∈ fd.scope.names, x.2 ≠ .cell) (hloc : ∀ x ∈ binds, fd.scope.names.lookup x.1 = some .local)
    (h : ∀ s L s₁, Keeps s₀ s → InCall s L (fun x => binds.reverse.lookup x) s₁ →
      wpAny (model prog w) (A.deeper (callEnv fd L a)) (execs body (callEnv fd L a)) (fun f s' => P (match f with | .ret v => v | _ => .none) s' ∧ Keeps s s') (fun _ _ => False) s₁)
    (hco : fd.scope.isCoroutine = false := by rfl) (hgen : fd.scope.isGenerator = false := by rfl) (hk : fd.scope.kind = .function := by rfl) :
    Ev prog w A s₀ (call (.ref a) vals) P := fun s E k =>
  wpAny_call (codeAny_call_straight hroom (kp_get k ho) hdata (hlim.keeps (kp_keep k)) (hcd.keeps (kp_keep k)) hbody hbind hcell hloc
    (fun s₁ x => wpAny_mono (h s _ s₁ k x) (fun f s' y => y) fun _ _ x => x.elim) hco hgen hk)

/-- the frame behind an expression -/
theorem InCall.kp {s c c' : Shared} {L : Addr} {m : Str → Option Value} (x : InCall s L m c) (k : Keeps c c') : InCall s L m c' := by
  obtain ⟨h', tk, rfl, kk⟩ := k
  obtain ⟨h, tk0, e⟩ := x.same
  exact ⟨⟨h', tk, by rw [e]⟩, x.ns.keeps kk, fun b o e => kk b o (x.keep b o e), x.fresh⟩
theorem InCall.keeps {s c : Shared} {L : Addr} {m : Str → Option Value} (x : InCall s L m c) : Keeps s c := x.done
def KeepsBut (L : Addr) (c c' : Shared) : Prop := ∀ b o, b ≠ L → c.heap.get? b = some o → c'.heap.get? b = some o
theorem st_store {s c : Shared} {L : Addr} {m : Str → Option Value} {x : Str} {v : Value} {Q : Unit → Shared → Prop} {E : Value → Shared → Prop} (i : InCall s L m c) (hL : env.locals = L)
    (h : ∀ c', InCall s L (fun y => if y = x then some v else m y) c' → KeepsBut L c c' → Q () c')
    (hl : env.kindOf x = some .local := by rfl) (hp : (env.scope.kind == .class || (env.scope.kind == .module && env.locals != env.globals)) = false := by rfl) :
    wpAny (model prog w) A (storeName env x v) Q E c := by
  subst hL
  refine wpAny_storeName_local hl i.ns (fun h' hn' hs' => h _ ⟨?_, hn', fun b o e => ?_, i.fresh⟩ fun b o hb e => hs'.extBut b o hb e) hp
  · obtain ⟨h₁, tk, rfl⟩ := i.same
    exact ⟨h', _, rfl⟩
  · exact hs'.extBut b o (Nat.ne_of_lt (Nat.lt_of_lt_of_le (Heap.lt_size e) i.fresh)) (i.keep b o e)
/-- x = e -/
theorem st_assign {s c : Shared} {L : Addr} {m : Str → Option Value} {x : Str} {px pos : Pos} {e : Expr} {rest : List Stmt} {P : Value → Shared → Prop} {Q : Flow → Shared → Prop} {E : Value → Shared → Prop} (i : InCall s L m c) (hL : env.locals = L)
    (he : Ev prog w A c (eval e env) P)
    (h : ∀ v c₁ c₂, Keeps c c₁ → P v c₁ → InCall s L (fun y => if y = x then some v else m y) c₂ → KeepsBut L c₁ c₂ → wpAny (model prog w) A (execs rest env) Q E c₂)
    (hs : swapsWith e (some (.Name x px)) pos.line env = pure false := by rfl)
    (hl : env.kindOf x = some .local := by rfl) (hp : (env.scope.kind == .class || (env.scope.kind == .module && env.locals != env.globals)) = false := by rfl) :
    wpAny (model prog w) A (execs (.Assign [.Name x px] e pos :: rest) env) Q E c :=
  wpAny_execs_cons (wpAny_Assign_Name (he.use fun v c₁ k₁ pv => st_store (InCall.kp i k₁) hL (fun c₂ i₂ kb => h v c₁ c₂ k₁ pv i₂ kb) hl hp) hs)
theorem st_ret {c : Shared} {e : Expr} {pos : Pos} {rest : List Stmt} {P : Value → Shared → Prop} {Q : Flow → Shared → Prop} {E : Value → Shared → Prop} (he : Ev prog w A c (eval e env) P) (h : ∀ v c', Keeps c c' → P v c' → Q (.ret v) c') :
    wpAny (model prog w) A (execs (.Return (some e) pos :: rest) env) Q E c :=
  wpAny_execs_cons (wpAny_Return_some (he.use fun v c' k pv => h v c' k pv))
theorem st_if {c : Shared} {t : Expr} {body orelse rest : List Stmt} {pos : Pos} {b : Bool} {Q : Flow → Shared → Prop} {E : Value → Shared → Prop} (ht : Ev prog w A c (isTrue t env (eval t env)) (fun d _ => d = b))
    (h1 : b = true → ∀ c', Keeps c c' → wpAny (model prog w) A (execs body env) (fun f s' => match f with | .next => wpAny (model prog w) A (execs rest env) Q E s' | f => Q f s') E c')
    (h2 : b = false → ∀ c', Keeps c c' → wpAny (model prog w) A (execs orelse env) (fun f s' => match f with | .next => wpAny (model prog w) A (execs rest env) Q E s' | f => Q f s') E c') :
    wpAny (model prog w) A (execs (.If t body orelse pos :: rest) env) Q E c :=
  wpAny_execs_cons (wpAny_If (ht.use fun d c' k pd => by
    subst pd
    cases d with
    | true => exact h1 rfl c' k
    | false => exact h2 rfl c' k))
end
end Mine
end
section
open PySem PySem.W PyProof.Rows PySem.Calls
namespace Mine
section
variable {prog : Program} {w : World} {A : Around} {s₀ : Shared} {env : Env}

theorem kp_ext {s : Shared} {h' : Heap} (e : Heap.ExtBut s.heap.objs.size s.heap h') : Keeps s { s with heap := h' } :=
  ⟨h', s.toks, rfl, fun b o g => e b o (Nat.ne_of_lt (Heap.lt_size g)) g⟩
theorem kb_kp {L : Addr} {a b : Shared} (h : Keeps a b) : KeepsBut L a b := fun _ _ _ e => kp_get h e
theorem kb_trans {L : Addr} {a b c : Shared} (h : KeepsBut L a b) (k : KeepsBut L b c) : KeepsBut L a c := fun x o n e => k x o n (h x o n e)

end
end Mine
end
section
open PySem PySem.W PyProof.Rows PySem.Calls
namespace Mine

/-- a live iterator that hands out n things, the i-th told by P; tgt: the target it is unpacked into -/
structure It (prog : Program) (w : World) (A : Around) (tgt : Expr) (I : Addr) (fp wr : List Addr) (n : Nat) (P : Nat → Value → Heap → Prop) (St : Nat → Heap → Prop) : Prop where
  sub : ∀ b ∈ wr, b ∈ fp
  frame : ∀ i h h', St i h → (∀ b ∈ fp, ∀ o, h.get? b = some o → h'.get? b = some o) → St i h'
  live : ∀ i h, St i h → ∀ b ∈ fp, ∃ o, h.get? b = some o
  item : ∀ i (s : Shared) (Q : Value → Shared → Prop) (E : Value → Shared → Prop), i < n → St i s.heap →
    (∀ v h' tk, P i v h' → St (i + 1) h' → (∀ b o, b ∉ wr → s.heap.get? b = some o → h'.get? b = some o) → Q v { s with heap := h', toks := tk }) →
    wpAny (model prog w) A (pyNext (.ref I)) (fun r s₁ => match r with | none => False | some v => wpAny (model prog w) A (letOwnedTupleGo tgt (.ref I) v) (fun _ s₂ => Q v s₂) E s₁) E s
  done : ∀ (s : Shared) (Q : Option Value → Shared → Prop) (E : Value → Shared → Prop), St n s.heap →
    (∀ h' tk, (∀ b o, b ∉ wr → s.heap.get? b = some o → h'.get? b = some o) → Q none { s with heap := h', toks := tk }) → wpAny (model prog w) A (pyNext (.ref I)) Q E s
  self : ∀ i (s : Shared) (Q : Value → Shared → Prop) (E : Value → Shared → Prop), St i s.heap → Q (.ref I) s → wpAny (model prog w) A (pyIter (.ref I)) Q E s

theorem It.ofWalks {prog : Program} {w : World} {A : Around} {x : Str} {px : Pos} {I : Addr} {fp wr : List Addr} {n : Nat} {P : Nat → Value → Prop} {St : Nat → Heap → Prop} (W : Walks prog w A I fp wr n P St)
    (hl : ∀ i h, St i h → ∀ b ∈ fp, ∃ o, h.get? b = some o) : It prog w A (.Name x px) I fp wr n (fun i v _ => P i v) St where
  sub := W.sub
  frame := W.frame
  live := hl
  item := fun i s Q E hi st hQ => W.item i s _ E hi st fun v h' tk p st' k => wpAny_pure (hQ v h' tk p st' k)
  done := W.done
  self := W.self

/-- the source of a loop: what its head evaluates to, iterated -/
def Src (prog : Program) (w : World) (A : Around) (tgt : Expr) (s₀ : Shared) (t : Sem Value) (n : Nat) (P : Nat → Value → Heap → Prop) (F : List Addr) : Prop :=
  ∀ (s : Shared) (E : Value → Shared → Prop), Keeps s₀ s → wpAny (model prog w) A t (fun x s₁ => wpAny (model prog w) A (pyIter x) (fun it s₂ => ∃ I fp wr St, it = .ref I ∧ It prog w A tgt I fp wr n P St ∧ St 0 s₂.heap ∧
    (∀ b ∈ wr, s.heap.get? b = none) ∧ Keeps s s₂ ∧ ∀ b ∈ fp, s₀.heap.get? b = none ∨ b ∈ F) E s₁) E s

theorem lts {h : Heap} {b : Addr} {o : Obj} (e : h.get? b = some o) : @LT.lt Nat instLTNat b h.objs.size := Heap.lt_size e
theorem neL {a b : Nat} (h : @LT.lt Nat instLTNat a b) : @Ne Addr a b := Nat.ne_of_lt h

section
variable {prog : Program} {w : World} {A : Around} {s₀ : Shared} {env : Env}

theorem codeAny_comp {elt target iter : Expr} {ifs : List Expr} {scope : Scope} {pos : Pos} {it acc : Value} {env : Env} {R : Result → Shared → Prop} {s : Shared} (J : Nat → Shared → Prop)
    (turn : ∀ n s, J n s → wpAny (model prog w) A (pyNext it) (fun r s₁ => match r with
      | none => R (.ok .next) s₁
      | some v => wpAny (model prog w) A (letOwnedTupleGo target it v) (fun _ s₁' => wpAny (model prog w) A (assign target env v) (fun _ s₂ =>
          wpAny (model prog w) A (forIn ifs true fun c r => if r = true then do let ok ← isTrue c env (eval c env); pure (ForInStep.yield ok) else pure (ForInStep.yield r)) (fun ok s₃ =>
            if ok = true then wpAny (model prog w) A (eval elt env) (fun x s₄ =>
              wpAny (model prog w) A (call (.builtin "list.append") [acc, x]) (fun _ s₅ => ∃ m, m < n ∧ J m s₅) (fun _ _ => False) s₄) (fun _ _ => False) s₃
            else ∃ m, m < n ∧ J m s₃) (fun _ _ => False) s₂) (fun _ _ => False) s₁') (fun _ _ => False) s₁) (fun _ _ => False) s)
    (n : Nat) (h : J n s) : codeAny (model prog w) A (.compLoop (.ListComp elt [⟨target, iter, ifs, 0⟩] scope pos) 0 it acc env) R s := by
  refine codeAny_loop rfl J (fun n s hI => ?_) n h
  show wpAny _ A ((compTurn (.ListComp elt [⟨target, iter, ifs, 0⟩] scope pos) 0 it acc env).onRaise (fun x => do noteFrame x env; theTreesLotGoes x)) _ _ s
  refine wpAny_noted ?_
  rw [compTurn_list]
  refine wpAny_bind (wpAny_standAt (wpAny_bind (wpAny_mono (turn n s hI) (fun r s₁ h₁ => ?_) fun _ _ h' => h'.elim)))
  cases r with
  | none => exact wpAny_pure h₁
  | some v =>
    refine wpAny_bind (wpAny_mono h₁ (fun _ s₁' h₁' => ?_) fun _ _ h' => h'.elim)
    refine wpAny_bind (wpAny_mono h₁' (fun _ s₂ h₂ => wpAny_bind (wpAny_mono h₂ (fun ok s₃ h₃ => ?_) fun _ _ h' => h'.elim)) fun _ _ h' => h'.elim)
    cases ok with
    | false => exact wpAny_pure ⟨rfl, h₃⟩
    | true =>
      exact wpAny_bind (wpAny_bind (wpAny_mono h₃ (fun x s₄ h₄ => wpAny_bind (wpAny_mono h₄ (fun _ s₅ h₅ => wpAny_pure (wpAny_pure ⟨rfl, h₅⟩)) fun _ _ h' => h'.elim)) fun _ _ h' => h'.elim))

/-- what the target's names are bound to -/
def Binds (prog : Program) (w : World) (A : Around) (tgt : Expr) (cenv : Addr → Env) (n : Nat) (P : Nat → Value → Heap → Prop) (T : Nat → (Str → Option Value) → Prop) : Prop :=
  ∀ (C : Addr) (i : Nat) (v : Value) (s : Shared) (m : Str → Option Value) (Q : Unit → Shared → Prop) (E : Value → Shared → Prop), i < n → P i v s.heap → s.heap.Ns C m →
    (∀ h' tk m', T i m' → h'.Ns C m' → (∀ b o, b ≠ C → s.heap.get? b = some o → h'.get? b = some o) → Q () { s with heap := h', toks := tk }) → wpAny (model prog w) A (assign tgt (cenv C) v) Q E s

theorem comp_core {target elt iter : Expr} {ifs : List Expr} {scope : Scope} {cl : List (Str × Addr)} {pos : Pos} {n : Nat} {P : Nat → Value → Heap → Prop} (T : Nat → (Str → Option Value) → Prop)
    (R : List Addr → Nat → List Value → Heap → Prop) {s s₂ : Shared} {E : Value → Shared → Prop} {I : Addr} {fp wr : List Addr} {St : Nat → Heap → Prop} {RR : Value → Addr → Result → Shared → Prop}
    (W : It prog w A target I fp wr n P St) (hst : St 0 s₂.heap) (hwr : ∀ b ∈ wr, s.heap.get? b = none) (k₂ : Keeps s s₂) (hsz : n ≤ sizeLine) (hbind : Binds prog w A target (fun C => compEnvC scope cl C env) n P T)
    (hR0 : ∀ X h, R X 0 [] h) (hmono : ∀ X i ys h h', R X i ys h → (∀ b o, b ∉ X → h.get? b = some o → h'.get? b = some o) → R X i ys h')
    (hturn : ∀ C X i s₁ m₁ ys, i < n → (∀ b o, s.heap.get? b = some o → s₁.heap.get? b = some o) → s₁.heap.Ns C m₁ → T i m₁ → R X i ys s₁.heap → (∀ b ∈ X, (∃ o, s₁.heap.get? b = some o) ∧ s.heap.get? b = none) →
      ∃ ok : Bool, Ev prog w A s₁ (forIn ifs true fun c r => if r = true then do let ok ← isTrue c (compEnvC scope cl C env) (eval c (compEnvC scope cl C env)); pure (ForInStep.yield ok) else pure (ForInStep.yield r)) (fun b _ => b = ok) ∧
        (ok = false → ∀ h', (∀ b o, s₁.heap.get? b = some o → h'.get? b = some o) → R X (i + 1) ys h') ∧ (ok = true → Ev prog w A s₁ (eval elt (compEnvC scope cl C env)) (fun y s₂ => R X (i + 1) (ys ++ [y]) s₂.heap)))
    (hcell : ∀ y ∈ scope.names, y.2 ≠ .cell) (hkind : scope.kind = .function)
    (hRR : ∀ D C h' tk m' ys X, h'.Ns C m' → h'.PlainList D ys.toArray → R X n ys h' → C ∈ X → D ∈ X → D ≠ C → (∀ b ∈ X, s.heap.get? b = none) → (∀ b o, s.heap.get? b = some o → h'.get? b = some o) → RR (.ref D) C (.ok .next) { s₂ with heap := h', toks := tk }) :
    wpAny (model prog w) A (newList []) (fun acc s₃ => wpAny (model prog w) A (newFunctionEnv scope env.globals cl [] env.qual none .none (some env)) (fun cenv s₄ =>
      codeAny (model prog w) A (.compStart (.ListComp elt [⟨target, iter, ifs, 0⟩] scope pos) 0 (.ref I) acc { cenv with scope := relabel scope env }) (RR acc cenv.locals) s₄) E s₃) E s₂ := by
  refine wpAny_newObj_type (wpAny_newFunctionEnv hcell (by intro y hy; simp at hy) (fun h₁ hns₁ hsb₁ => ?_) hkind)
  dsimp only at hns₁ hsb₁ ⊢
  generalize hH2 : s₂.heap.push { cls := .type "list", dict := none, data := .seq ([] : List Value).toArray } = H2 at hns₁ hsb₁ ⊢
  obtain ⟨D, hDD⟩ : ∃ D : Nat, D = s₂.heap.objs.size := ⟨_, rfl⟩
  obtain ⟨C, hCC⟩ : ∃ C : Nat, C = H2.objs.size := ⟨_, rfl⟩
  rw [← hDD]
  rw [← hCC] at hns₁ hsb₁ ⊢
  have hC : C = D + 1 := by rw [hCC, hDD, ← hH2, Heap.size_push]
  have hDC : D ≠ C := by omega
  have hfp : ∀ b ∈ fp, @LT.lt Nat instLTNat b D := fun b hb => by obtain ⟨o, e⟩ := W.live _ _ hst b hb; rw [hDD]; exact Heap.lt_size e
  have ltD : ∀ b o, s₂.heap.get? b = some o → @LT.lt Nat instLTNat b D := fun b o e => by rw [hDD]; exact lts e
  have ltC : ∀ b o, s₂.heap.get? b = some o → @LT.lt Nat instLTNat b C := fun b o e => by have := ltD b o e; omega
  have old : ∀ b o, s₂.heap.get? b = some o → h₁.get? b = some o := fun b o e =>
    hsb₁.extBut b o (neL (ltC b o e)) (Heap.get?_push_of_some _ (hH2 ▸ Heap.get?_push_of_some _ e))
  have hacc : h₁.PlainList D #[] := ⟨_, hsb₁.extBut _ _ hDC (Heap.get?_push_of_some _ (hH2 ▸ hDD ▸ Heap.get?_push_size _ rfl))⟩
  have hst₁ : St 0 h₁ := W.frame _ _ _ hst fun b _ o e => old b o e
  have hCf : C ∉ fp := fun h => by have := hfp _ h; omega
  have hDf : D ∉ fp := fun h => by have := hfp _ h; omega
  have hCw : C ∉ wr := fun h => hCf (W.sub _ h)
  have hDw : D ∉ wr := fun h => hDf (W.sub _ h)
  let X : List Addr := C :: D :: wr
  have noneD : ∀ j, D ≤ j → s.heap.get? j = none := fun j hj => by
    cases e : s.heap.get? j with
    | none => rfl
    | some o => exact absurd (ltD _ _ (kp_get k₂ e)) (Nat.not_lt.mpr hj)
  have hXn : ∀ b ∈ X, s.heap.get? b = none := fun b hb => by
    simp only [X, List.mem_cons] at hb
    rcases hb with rfl | rfl | hb
    · exact noneD _ (by omega)
    · exact noneD _ (Nat.le_refl _)
    · exact hwr b hb
  -- the loop
  have loop : ∀ s₃ : Shared, s₃ = { s₂ with heap := h₁, toks := s₂.toks + ([] : List (Str × Value)).length } →
      codeAny (model prog w) A (.compLoop (.ListComp elt [⟨target, iter, ifs, 0⟩] scope pos) 0 (.ref I) (.ref D) (compEnvC scope cl C env)) (RR (.ref D) C) s₃ := by
    rintro s₃ rfl
    refine codeAny_comp (fun j s' => ∃ h' tk m ys i, s' = { s₂ with heap := h', toks := tk } ∧ St i h' ∧ h'.PlainList D ys.toArray ∧ h'.Ns C m ∧ R X i ys h' ∧ i ≤ n ∧ ys.length ≤ i ∧ j = n + 1 - i ∧
      (∀ b o, b ≠ C → b ∉ wr → b ≠ D → h₁.get? b = some o → h'.get? b = some o)) ?_ (n + 1) ⟨h₁, _, _, [], 0, rfl, hst₁, hacc, hns₁, hR0 _ _, Nat.zero_le _, Nat.le_refl _, rfl, fun _ _ _ _ _ e => e⟩
    rintro j s' ⟨H, tk, m, ys, i, rfl, hst', hacc', hn', hR, hi, hyl, rfl, hk⟩
    by_cases hlt : i < n
    · refine wpAny_mono (W.item i _ (fun v s₄ => wpAny (model prog w) A (assign target (compEnvC scope cl C env) v) (fun _ s₅ => _) (fun _ _ => False) s₄) (fun _ _ => False) hlt hst' ?_) (fun r s₁ h₁ => by
        cases r with
        | none => exact h₁.elim
        | some v => exact h₁) fun _ _ y => y
      intro v h₂ tk₂ hP hst₂ hk₂
      refine hbind C i v _ m _ _ hlt hP (hn'.at' fun o e => hk₂ _ o hCw e) fun h₃ tk₃ m₃ hT hn₃ hk₃ => ?_
      have hst₃ : St (i + 1) h₃ := W.frame _ _ _ hst₂ fun b hb o e => hk₃ b o (fun h => hCf (h ▸ hb)) e
      have up₃ : ∀ b o, b ∉ X → H.get? b = some o → h₃.get? b = some o := fun b o hb e => by
        simp only [X, List.mem_cons, not_or] at hb
        exact hk₃ b o hb.1 (hk₂ b o hb.2.2 e)
      have hacc₃ : h₃.PlainList D ys.toArray := hacc'.at fun o e => hk₃ _ o hDC (hk₂ _ o hDw e)
      have base₃ : ∀ b o, s.heap.get? b = some o → h₃.get? b = some o := fun b o e => by
        have e2 := kp_get k₂ e
        have hbw : b ∉ wr := fun hb' => by
          have := hwr b hb'
          rw [e] at this; cases this
        exact hk₃ b o (neL (ltC b o e2)) (hk₂ b o hbw (hk b o (neL (ltC b o e2)) hbw (neL (ltD b o e2)) (old b o e2)))
      have liveX : ∀ b ∈ X, ∃ o, h₃.get? b = some o := fun b hb => by
        simp only [X, List.mem_cons] at hb
        rcases hb with rfl | rfl | hb
        · obtain ⟨o, _, _, e, _⟩ := hn₃; exact ⟨o, e⟩
        · obtain ⟨n', e⟩ := hacc₃; exact ⟨_, e⟩
        · exact W.live _ _ hst₃ b (W.sub _ hb)
      obtain ⟨ok, ht, hf, hE⟩ := hturn C X i { s₂ with heap := h₃, toks := tk₃ } m₃ ys hlt base₃ hn₃ hT (hmono _ _ _ _ _ hR up₃) fun b hb => ⟨liveX b hb, hXn b hb⟩
      refine ht.use fun b s₆ k₆ hb => ?_
      subst hb
      obtain ⟨h₆, tk₆, rfl, hk₆⟩ := k₆
      have hst₆ : St (i + 1) h₆ := W.frame _ _ _ hst₃ fun b _ o e => hk₆ b o e
      cases b with
      | false =>
        simp only [Bool.false_eq_true, if_false]
        exact ⟨n + 1 - (i + 1), by omega, h₆, tk₆, m₃, ys, i + 1, rfl, hst₆, hacc₃.at fun o e => hk₆ _ o e, hn₃.keeps hk₆, hf rfl h₆ hk₆, by omega, by omega, rfl,
          fun b o h1 h2 h3 e => hk₆ b o (hk₃ b o h1 (hk₂ b o h2 (hk b o h1 h2 h3 e)))⟩
      | true =>
        simp only [if_true]
        refine (hE rfl).at ⟨h₆, tk₆, rfl, hk₆⟩ fun y s₇ k₇ hy => ?_
        obtain ⟨h₇, tk₇, rfl, hk₇⟩ := k₇
        refine wpAny_list_append_plain (hsz := by simp; omega) (hacc₃.at fun o e => hk₇ _ o (hk₆ _ o e)) fun h₈ hl₈ hs₈ => ?_
        refine ⟨n + 1 - (i + 1), by omega, h₈, tk₇, m₃, ys ++ [y], i + 1, rfl, ?_, by simpa using hl₈, ((hn₃.keeps hk₆).keeps hk₇).sameBut hs₈ (Ne.symm hDC), ?_, by omega, by simp; omega, rfl, ?_⟩
        · exact W.frame _ _ _ hst₆ fun b hb o e => hs₈.extBut b o (fun h => hDf (h ▸ hb)) (hk₇ b o e)
        · refine hmono _ _ _ _ _ hy fun b o hb e => hs₈.extBut b o (fun h => hb (by simp [X, h])) e
        · exact fun b o h1 h2 h3 e => hs₈.extBut b o h3 (hk₇ b o (hk₆ b o (hk₃ b o h1 (hk₂ b o h2 (hk b o h1 h2 h3 e)))))
    · have hin : i = n := by omega
      subst hin
      refine W.done _ _ _ hst' fun h₂ tk₂ hk₂ => ?_
      refine hRR D C h₂ tk₂ m ys X (hn'.at' fun o e => hk₂ _ o hCw e) (hacc'.at fun o e => hk₂ _ o hDw e) ?_ (by simp [X]) (by simp [X]) hDC hXn ?_
      · refine hmono _ _ _ _ _ hR fun b o hb e => ?_
        simp only [X, List.mem_cons, not_or] at hb
        exact hk₂ b o hb.2.2 e
      · intro b o e
        have e2 := kp_get k₂ e
        have hbw : b ∉ wr := fun hb' => by
          have := hwr b hb'
          rw [e] at this; cases this
        exact hk₂ b o hbw (hk b o (neL (ltC b o e2)) hbw (neL (ltD b o e2)) (old b o e2))
  exact codeAny_compStart_list (loop _ rfl) (W.self 0 _ _ _ hst₁ (loop _ rfl))

theorem none_of {a b : Shared} (k : Keeps a b) {D : Addr} (h : b.heap.get? D = none) : a.heap.get? D = none := by
  cases e : a.heap.get? D with
  | none => rfl
  | some o => rw [kp_get k e] at h; cases h

section
variable {target elt iter : Expr} {ifs : List Expr} {scope : Scope} {cl : List (Str × Addr)} {pos : Pos} {n : Nat} {P : Nat → Value → Heap → Prop} (T : Nat → (Str → Option Value) → Prop)
    (R : List Addr → Nat → List Value → Heap → Prop) {F : List Addr}
theorem ev_comp
    (hsrc : Src prog w A target s₀ (eval iter env) n P F) (hsz : n ≤ sizeLine) (hbind : Binds prog w A target (fun C => compEnvC scope cl C env) n P T)
    (hR0 : ∀ X h, R X 0 [] h) (hmono : ∀ X i ys h h', R X i ys h → (∀ b o, b ∉ X → h.get? b = some o → h'.get? b = some o) → R X i ys h')
    (hturn : ∀ C X i s₁ m₁ ys, i < n → (∀ b o, s₀.heap.get? b = some o → s₁.heap.get? b = some o) → s₁.heap.Ns C m₁ → T i m₁ → R X i ys s₁.heap → (∀ b ∈ X, (∃ o, s₁.heap.get? b = some o) ∧ s₀.heap.get? b = none) →
      ∃ ok : Bool, Ev prog w A s₁ (forIn ifs true fun c r => if r = true then do let ok ← isTrue c (compEnvC scope cl C env) (eval c (compEnvC scope cl C env)); pure (ForInStep.yield ok) else pure (ForInStep.yield r)) (fun b _ => b = ok) ∧
        (ok = false → ∀ h', (∀ b o, s₁.heap.get? b = some o → h'.get? b = some o) → R X (i + 1) ys h') ∧ (ok = true → Ev prog w A s₁ (eval elt (compEnvC scope cl C env)) (fun y s₂ => R X (i + 1) (ys ++ [y]) s₂.heap)))
    (hclos : closureFor scope env = pure cl) (hcell : (scope.names.all fun y => y.2 != .cell) = true := by decide) (hkind : scope.kind = .function := by rfl)
    (hnames : (scope.names.all fun y => y.2 != .local || scope.names.lookup y.1 == some .local) = true := by decide)
    (hs : ∀ x, foldedSetIterable iter env x = pure x := by intro _; rfl) :
    Ev prog w A s₀ (eval (.ListComp elt [⟨target, iter, ifs, 0⟩] scope pos) env) (fun r c => ∃ D ys X, r = .ref D ∧ c.heap.PlainList D ys.toArray ∧ R X n ys c.heap ∧ D ∈ X ∧ s₀.heap.get? D = none) := by
  have hcell' : ∀ y ∈ scope.names, y.2 ≠ .cell := fun y hy => by simpa using List.all_eq_true.mp hcell y hy
  have hnames' : ∀ y ∈ scope.names, y.2 = .local → scope.names.lookup y.1 = some .local := fun y hy e => by
    have := List.all_eq_true.mp hnames y hy
    simpa [e] using this
  intro s E k
  rw [eval_ListComp]
  refine wpAny_comprehension_free rfl hs hclos hkind hnames' (wpAny_mono (hsrc s E k) (fun x s₁ h₁ => wpAny_mono h₁ (fun it s₂ h₂ => ?_) fun _ _ y => y) fun _ _ y => y)
  obtain ⟨I, fp, wr, St, rfl, W, hst, hwr, k₂, _⟩ := h₂
  refine comp_core T R W hst hwr k₂ hsz hbind hR0 hmono (fun C X i s₁ m₁ ys hi hk hn hT hR hX => hturn C X i s₁ m₁ ys hi (fun b o e => hk b o (kp_get k e)) hn hT hR fun b hb => ⟨(hX b hb).1, none_of k (hX b hb).2⟩) hcell' hkind fun D C h' tk m' ys X hn hD hR hCX hDX hDC hX hk => ?_
  refine ⟨m', hn, fun h₃ hs₃ => ⟨⟨D, ys, X, rfl, hD.at fun o e => hs₃.extBut _ o hDC e, hmono _ _ _ _ _ hR fun b o hb e => hs₃.extBut b o (fun h => hb (h ▸ hCX)) e, hDX, none_of k (hX D hDX)⟩, ?_⟩⟩
  obtain ⟨h2, tk2, rfl, _⟩ := k₂
  refine ⟨h₃, tk, rfl, fun b o e => hs₃.extBut b o (fun h => ?_) (hk b o e)⟩
  have := hX C hCX
  rw [← h, e] at this; cases this

/-- y = [..] -/
theorem st_assign_comp {s c : Shared} {L : Addr} {m : Str → Option Value} {y : Str} {py spos : Pos} {rest : List Stmt} {Q : Flow → Shared → Prop} {E : Value → Shared → Prop} (i : InCall s L m c) (hL : env.locals = L)
    (hsrc : Src prog w A target c (eval iter env) n P F) (hsz : n ≤ sizeLine) (hbind : Binds prog w A target (fun C => compEnvC scope cl C env) n P T)
    (hR0 : ∀ X h, R X 0 [] h) (hmono : ∀ X i ys h h', R X i ys h → (∀ b o, b ∉ X → h.get? b = some o → h'.get? b = some o) → R X i ys h')
    (hmonoL : ∀ X i ys h h', R X i ys h → (∀ b o, b ∉ X → b ≠ L → h.get? b = some o → h'.get? b = some o) → R X i ys h')
    (hturn : ∀ C X i s₁ m₁ ys, i < n → (∀ b o, c.heap.get? b = some o → s₁.heap.get? b = some o) → s₁.heap.Ns C m₁ → T i m₁ → R X i ys s₁.heap → (∀ b ∈ X, (∃ o, s₁.heap.get? b = some o) ∧ c.heap.get? b = none) →
      ∃ ok : Bool, Ev prog w A s₁ (forIn ifs true fun c r => if r = true then do let ok ← isTrue c (compEnvC scope cl C env) (eval c (compEnvC scope cl C env)); pure (ForInStep.yield ok) else pure (ForInStep.yield r)) (fun b _ => b = ok) ∧
        (ok = false → ∀ h', (∀ b o, s₁.heap.get? b = some o → h'.get? b = some o) → R X (i + 1) ys h') ∧ (ok = true → Ev prog w A s₁ (eval elt (compEnvC scope cl C env)) (fun y s₂ => R X (i + 1) (ys ++ [y]) s₂.heap)))
    (h : ∀ D ys X c₂, c₂.heap.PlainList D ys.toArray → R X n ys c₂.heap → c.heap.get? D = none → InCall s L (fun z => if z = y then some (.ref D) else m z) c₂ → KeepsBut L c c₂ → wpAny (model prog w) A (execs rest env) Q E c₂)
    (hclos : closureFor scope env = pure cl) (hcell : (scope.names.all fun y => y.2 != .cell) = true := by decide) (hkind : scope.kind = .function := by rfl)
    (hnames : (scope.names.all fun y => y.2 != .local || scope.names.lookup y.1 == some .local) = true := by decide)
    (hs : ∀ x, foldedSetIterable iter env x = pure x := by intro _; rfl)
    (hsw : swapsWith (.ListComp elt [⟨target, iter, ifs, 0⟩] scope pos) (some (.Name y py)) spos.line env = pure true := by rfl)
    (hy : env.kindOf y = some .local := by rfl) (hp : (env.scope.kind == .class || (env.scope.kind == .module && env.locals != env.globals)) = false := by rfl) :
    wpAny (model prog w) A (execs (.Assign [.Name y py] (.ListComp elt [⟨target, iter, ifs, 0⟩] scope pos) spos :: rest) env) Q E c := by
  subst hL
  have hcell' : ∀ y ∈ scope.names, y.2 ≠ .cell := fun y hy => by simpa using List.all_eq_true.mp hcell y hy
  have hnames' : ∀ y ∈ scope.names, y.2 = .local → scope.names.lookup y.1 = some .local := fun y hy e => by
    have := List.all_eq_true.mp hnames y hy
    simpa [e] using this
  refine wpAny_execs_cons ?_
  rw [exec_Assign_Name_used _ _ _ _ hsw]
  refine wpAny_bind (wpAny_standAt (wpAny_bind ?_))
  show wpAny _ A (do let _ ← comprehension (.ListComp elt [⟨target, iter, ifs, 0⟩] scope pos) scope env _ (newList []) false (eval iter env) (some (assign (.Name y py) env))) _ _ c
  refine wpAny_bind (wpAny_mono (wpAny_comprehension_free (use := some (assign (.Name y py) env)) (Q := fun _ s' => wpAny (model prog w) A (execs rest env) Q E s') rfl hs hclos hkind hnames'
    (wpAny_mono (hsrc c E (kp_refl _)) (fun x s₁ h₁ => wpAny_mono h₁ (fun it s₂ h₂ => ?_) fun _ _ y => y) fun _ _ y => y)) (fun _ s' hq => wpAny_pure (wpAny_pure hq)) fun _ _ e => e)
  obtain ⟨I, fp, wr, St, rfl, W, hst, hwr, k₂, _⟩ := h₂
  refine comp_core (RR := fun acc C => compPost (model prog w) A E (some (assign (.Name y py) env)) (fun _ s' => wpAny (model prog w) A (execs rest env) Q E s') acc C) T R W hst hwr k₂ hsz hbind hR0 hmono hturn hcell' hkind fun D C h' tk m' ys X hn hD hR hCX hDX hDC hX hk => ?_
  obtain ⟨oL, _, _, eL, _⟩ := id i.ns
  have hLX : env.locals ∉ X := fun h => by
    have := hX _ h
    rw [eL] at this; cases this
  have hLC : env.locals ≠ C := fun h => hLX (h ▸ hCX)
  have hLD : env.locals ≠ D := fun h => hLX (h ▸ hDX)
  have i' : InCall s env.locals m { s₂ with heap := h', toks := tk } := by
    obtain ⟨h2, tk2, rfl, hk2⟩ := k₂
    exact InCall.kp i ⟨h', tk, rfl, hk⟩
  show wpAny _ A (assign (.Name y py) env (.ref D)) _ _ _
  refine wpAny_assign_Name (wpAny_storeName_local hy i'.ns (fun h₂ hn₂ hs₂ => ?_) hp)
  refine ⟨m', hn.sameBut hs₂ (Ne.symm hLC), fun h₃ hs₃ => ?_⟩
  refine h D ys X _ ((hD.extBut hs₂.extBut (Ne.symm hLD)).extBut hs₃.extBut hDC) (hmonoL _ _ _ _ _ hR fun b o hb hbL e => hs₃.extBut b o (fun h => hb (h ▸ hCX)) (hs₂.extBut b o hbL e)) (hX D hDX) ⟨?_, hn₂.sameBut hs₃ hLC, fun b o e => ?_, i.fresh⟩ fun b o hb e => hs₃.extBut b o (fun h => ?_) (hs₂.extBut b o hb (hk b o e))
  · obtain ⟨hh, tt, e⟩ := i'.same
    exact ⟨h₃, tk + 1, by
      have e' := e
      cases s₂; cases s; simp at e' ⊢
      exact ⟨e'.2.1, e'.2.2.1, e'.2.2.2.2⟩⟩
  · have hb : b ≠ env.locals := Nat.ne_of_lt (Nat.lt_of_lt_of_le (Heap.lt_size e) i.fresh)
    have e2 := i.keep b o e
    refine hs₃.extBut b o (fun h => ?_) (hs₂.extBut b o hb (hk b o e2))
    have := hX C hCX
    rw [← h, e2] at this; cases this
  · have := hX C hCX
    rw [← h, e] at this; cases this
end

def KeepsOff (M : List Addr) (s s' : Shared) : Prop := ∀ b o, b ∉ M → s.heap.get? b = some o → s'.heap.get? b = some o

/-- for tgt in iter: body -/
theorem st_for {c : Shared} {tgt iter : Expr} {body rest : List Stmt} {pos : Pos} {n : Nat} {P : Nat → Value → Heap → Prop} {F : List Addr} {Q : Flow → Shared → Prop} {E : Value → Shared → Prop} (M : List Addr) (J : List Addr → Nat → Shared → Prop)
    (hsrc : Src prog w A tgt c (eval iter env) n P F) (hM : ∀ b ∈ M, b ∉ F ∧ ∃ o, c.heap.get? b = some o)
    (hJ0 : ∀ X c', (∀ b ∈ X, c.heap.get? b = none) → Keeps c c' → J X 0 c')
    (hmono : ∀ X i s s', (∀ b ∈ X, c.heap.get? b = none) → J X i s → (∃ h tk, s' = { s with heap := h, toks := tk }) → KeepsOff X s s' → J X i s')
    (hturn : ∀ X i s v, i < n → (∀ b ∈ X, c.heap.get? b = none) → (∀ b ∈ X, ∃ o, s.heap.get? b = some o) → J X i s → P i v s.heap → wpAny (model prog w) A (assign tgt env v) (fun _ s₂ => wpAny (model prog w) A (execs body env) (fun f s₃ => match f with
      | .next | .cont => J X (i + 1) s₃ ∧ KeepsOff M s s₃
      | .brk => wpAny (model prog w) A (execs rest env) Q E s₃
      | .ret v => Q (.ret v) s₃) (fun _ _ => False) s₂) (fun _ _ => False) s)
    (hdone : ∀ X s, (∀ b ∈ X, c.heap.get? b = none) → J X n s → wpAny (model prog w) A (execs rest env) Q E s)
    (hs : ∀ x, foldedSetIterable iter env x = pure x := by intro _; rfl) :
    wpAny (model prog w) A (execs (.For tgt iter body [] pos :: rest) env) Q E c := by
  refine wpAny_execs_cons (wpAny_For (wpAny_mono (hsrc c E (kp_refl _)) (fun x s₁ h₁ => wpAny_mono h₁ (fun it s₂ h₂ => ?_) fun _ _ y => y) fun _ _ y => y) hs)
  obtain ⟨I, fp, wr, St, rfl, W, hst, hwr, k₂, hF⟩ := h₂
  refine codeAny_forLoop_any (fun j s => ∃ i, j = n + 1 - i ∧ i ≤ n ∧ St i s.heap ∧ J wr i s) ?_ (n + 1) ⟨0, rfl, Nat.zero_le _, hst, hJ0 wr s₂ hwr k₂⟩
  rintro j s ⟨i, rfl, hi, hst', hJ⟩
  by_cases hlt : i < n
  · refine wpAny_mono (W.item i s (fun v s₄ => wpAny (model prog w) A (assign tgt env v) (fun _ s₅ => wpAny (model prog w) A (execs body env) (fun f s₃ => match f with
            | .next | .cont => ∃ m, m < n + 1 - i ∧ ∃ i, m = n + 1 - i ∧ i ≤ n ∧ St i s₃.heap ∧ J wr i s₃
            | .brk => wpAny (model prog w) A (execs rest env) Q E s₃
            | .ret v => Q (.ret v) s₃) (fun _ _ => False) s₅) (fun _ _ => False) s₄) (fun _ _ => False) hlt hst' ?_) (fun r s₁ h₁ => by
        cases r with
        | none => exact h₁.elim
        | some v =>
          refine wpAny_mono h₁ (fun _ s₄ h₄ => wpAny_mono h₄ (fun _ s₅ h₅ => wpAny_mono h₅ (fun f s₆ h₆ => ?_) fun _ _ y => y.elim) fun _ _ y => y.elim) fun _ _ y => y.elim
          cases f with
          | next => exact h₆
          | cont => exact h₆
          | brk => exact h₆
          | ret v => exact h₆) fun _ _ y => y.elim
    intro v h₂ tk₂ hP hst₂ hk₂
    have hJ₂ := hmono wr i s { s with heap := h₂, toks := tk₂ } hwr hJ ⟨_, _, rfl⟩ hk₂
    refine wpAny_mono (hturn wr i _ v hlt hwr (fun b hb => W.live _ _ hst₂ b (W.sub _ hb)) hJ₂ hP) (fun _ s₅ h₅ => wpAny_mono h₅ (fun f s₆ h₆ => ?_) fun _ _ y => y) fun _ _ y => y
    have go : J wr (i + 1) s₆ ∧ KeepsOff M { s with heap := h₂, toks := tk₂ } s₆ → ∃ m, m < n + 1 - i ∧ ∃ i, m = n + 1 - i ∧ i ≤ n ∧ St i s₆.heap ∧ J wr i s₆ := by
      rintro ⟨hJ', hk'⟩
      refine ⟨n + 1 - (i + 1), by omega, i + 1, rfl, hlt, W.frame _ _ _ hst₂ fun b hb o e => hk' b o (fun hbM => ?_) e, hJ'⟩
      obtain ⟨h1, o', h2⟩ := hM b hbM
      rcases hF b hb with h3 | h3
      · rw [h2] at h3; cases h3
      · exact h1 h3
    cases f with
    | next => exact go h₆
    | cont => exact go h₆
    | brk => exact h₆
    | ret v => exact h₆
  · have hin : i = n := by omega
    subst hin
    refine W.done _ _ _ hst' fun h₂ tk₂ hk₂ => ?_
    exact wpAny_execs_nil (hdone wr _ hwr (hmono wr i s _ hwr hJ ⟨_, _, rfl⟩ hk₂))
end
end Mine
end
section
open PySem PySem.W PyProof.Rows PySem.Calls
namespace Mine

section
variable {prog : Program} {w : World} {A : Around} {s₀ : Shared} {env : Env}

theorem push_live {h : Heap} {o : Obj} (hf : o.isFreed = false := by rfl) : (h.push o).get? h.objs.size = some o := Heap.get?_push_size _ hf
theorem new_none {s : Shared} {a : Addr} (h : s.heap.objs.size ≤ a) : s.heap.get? a = none := by
  cases e : s.heap.get? a with
  | none => rfl
  | some o => exact absurd (Heap.lt_size e) (Nat.not_lt.mpr h)
theorem kp_new {s s' : Shared} (k : Keeps s s') : s.heap.get? s'.heap.objs.size = none := by
  cases e : s.heap.get? s'.heap.objs.size with
  | none => rfl
  | some o => exact absurd (Heap.lt_size (kp_get k e)) (Nat.lt_irrefl _)

theorem src_list {x : Str} {px : Pos} {t : Sem Value} {vs : List Value} {F : List Addr} (hh : A.handled = none) (h : Ev prog w A s₀ t (fun v c => ∃ l, v = .ref l ∧ c.heap.IsList l vs.toArray ∧ (s₀.heap.get? l = none ∨ l ∈ F))) :
    Src prog w A (.Name x px) s₀ t vs.length (fun i v _ => vs[i]? = some v) F := by
  intro s E k
  refine h.at k fun v s₁ k₁ hv => ?_
  obtain ⟨l, rfl, hl, hF⟩ := hv
  refine wpAny_pyIter_list hl ?_
  have hne : l ≠ s₁.heap.objs.size := by
    obtain ⟨o, e, _⟩ := hl
    exact Nat.ne_of_lt (Heap.lt_size e)
  have hit : ∀ i h, (Heap.IsListIter h s₁.heap.objs.size l i ∧ h.IsList l vs.toArray) → ∀ b ∈ [s₁.heap.objs.size, l], ∃ o, h.get? b = some o := by
    rintro i h ⟨⟨o, e, _⟩, ⟨o', e', _⟩⟩ b hb
    simp only [List.mem_cons, List.not_mem_nil, or_false] at hb
    rcases hb with rfl | rfl
    · exact ⟨o, e⟩
    · exact ⟨o', e'⟩
  have W := It.ofWalks (x := x) (px := px) (Walks.list (prog := prog) (w := w) hh s₁.heap.objs.size l hne vs.toArray) hit
  refine ⟨s₁.heap.objs.size, [s₁.heap.objs.size, l], [s₁.heap.objs.size], fun i h => Heap.IsListIter h s₁.heap.objs.size l i ∧ h.IsList l vs.toArray, rfl, ?_, ⟨⟨_, push_live, rfl, rfl⟩, ?_⟩, ?_, kp_trans k₁ (kp_push _ _), fun b hb => by
    simp only [List.mem_cons, List.not_mem_nil, or_false] at hb
    rcases hb with rfl | rfl
    · exact Or.inl (kp_new (kp_trans k k₁))
    · exact hF⟩
  · simpa using W
  · obtain ⟨o, e, r⟩ := hl
    exact ⟨o, Heap.get?_push_of_some _ e, r⟩
  · intro b hb
    simp only [List.mem_cons, List.not_mem_nil, or_false] at hb
    subst hb
    exact kp_new k₁
theorem src_pairs {elts : List Expr} {k : Nat} {tp : Pos} {t : Sem Value} {vs : List Value} (hh : A.handled = none) {F : List Addr} (hr : ∀ v ∈ vs, ∃ T, v = .ref T) (h : Ev prog w A s₀ t (fun v c => ∃ l, v = .ref l ∧ c.heap.IsList l vs.toArray ∧ (s₀.heap.get? l = none ∨ l ∈ F))) :
    Src prog w A (.Tuple elts k tp) s₀ t vs.length (fun i v _ => vs[i]? = some v) F := by
  intro s E k
  refine h.at k fun v s₁ k₁ hv => ?_
  obtain ⟨l, rfl, hl, hF⟩ := hv
  refine wpAny_pyIter_list hl ?_
  have hne : l ≠ s₁.heap.objs.size := by
    obtain ⟨o, e, _⟩ := hl
    exact Nat.ne_of_lt (Heap.lt_size e)
  have W := Walks.list (prog := prog) (w := w) hh s₁.heap.objs.size l hne vs.toArray
  refine ⟨s₁.heap.objs.size, _, _, fun i h => Heap.IsListIter h s₁.heap.objs.size l i ∧ h.IsList l vs.toArray, rfl, ⟨W.sub, W.frame, ?_, ?_, by simpa using W.done, W.self⟩, ⟨⟨_, push_live, rfl, rfl⟩, ?_⟩, ?_, kp_trans k₁ (kp_push _ _), fun b hb => by
    simp only [List.mem_cons, List.not_mem_nil, or_false] at hb
    rcases hb with rfl | rfl
    · exact Or.inl (kp_new (kp_trans k k₁))
    · exact hF⟩
  · rintro i h ⟨⟨o, e, _⟩, ⟨o', e', _⟩⟩ b hb
    simp only [List.mem_cons, List.not_mem_nil, or_false] at hb
    rcases hb with rfl | rfl
    · exact ⟨o, e⟩
    · exact ⟨o', e'⟩
  · intro i s Q E hi st hQ
    refine W.item i s _ E (by simpa using hi) st fun v h' tk p st' kk => ?_
    have hv : vs[i]? = some v := by simpa using p
    obtain ⟨T, rfl⟩ := hr v (List.mem_of_getElem? hv)
    exact wpAny_letOwnedTupleGo_listiter st'.1 (hQ _ h' tk hv st' kk)
  · obtain ⟨o, e, r⟩ := hl
    exact ⟨o, Heap.get?_push_of_some _ e, r⟩
  · intro b hb
    simp only [List.mem_cons, List.not_mem_nil, or_false] at hb
    subst hb
    exact kp_new k₁

/-- one name as the target -/
theorem binds_name {x : Str} {px : Pos} {cenv : Addr → Env} {n : Nat} {p : Nat → Value → Prop} (hL : ∀ C, (cenv C).locals = C := by intro _; rfl) (hl : ∀ C, (cenv C).kindOf x = some .local := by intro _; rfl)
    (hp : ∀ C, ((cenv C).scope.kind == .class || ((cenv C).scope.kind == .module && (cenv C).locals != (cenv C).globals)) = false := by intro _; rfl) :
    Binds prog w A (.Name x px) cenv n (fun i v _ => p i v) (fun i m => ∃ v, m x = some v ∧ p i v) := by
  intro C i v s m Q E hi hP hn hQ
  refine wpAny_assign_Name (wpAny_storeName_local (hl C) (by rw [hL C]; exact hn) (fun h' hn' hs' => ?_) (hp C))
  rw [hL C] at hn' hs'
  exact hQ h' _ _ ⟨v, by simp, hP⟩ hn' fun b o hb e => hs'.extBut b o hb e
/-- two names as the target -/
theorem binds_pair {x y : Str} {px py tp : Pos} {k : Nat} {cenv : Addr → Env} {n : Nat} {p : Nat → Value → Value → Prop} (hh : A.handled = none) (hxy : (x == y) = false := by decide) (hL : ∀ C, (cenv C).locals = C := by intro _; rfl) (hl : ∀ C, (cenv C).kindOf x = some .local := by intro _; rfl)
    (hl' : ∀ C, (cenv C).kindOf y = some .local := by intro _; rfl)
    (hp : ∀ C, ((cenv C).scope.kind == .class || ((cenv C).scope.kind == .module && (cenv C).locals != (cenv C).globals)) = false := by intro _; rfl) :
    Binds prog w A (.Tuple [.Name x px, .Name y py] k tp) cenv n (fun i v h => ∃ T a b, v = .ref T ∧ h.IsTuple T #[a, b] ∧ p i a b) (fun i m => ∃ a b, m x = some a ∧ m y = some b ∧ p i a b) := by
  intro C i v s m Q E hi hP hn hQ
  obtain ⟨T, a, b, rfl, hT, hab⟩ := hP
  refine wpAny_assign_Tuple hh hT rfl rfl fun h' ex => ?_
  have k₂ := kp_ext ex
  refine wpAny_assignInOrder_more (wpAny_assign_Name (wpAny_storeName_local (hl C) (by rw [hL C]; exact kp_ns k₂ hn) (fun h₁ hn₁ hs₁ => ?_) (hp C)))
  refine wpAny_assignInOrder_more (wpAny_assign_Name (wpAny_storeName_local (hl' C) hn₁ (fun h₂ hn₂ hs₂ => wpAny_assignInOrder_none ?_) (hp C)))
  rw [hL C] at hn₂ hs₂ hs₁
  have hne : x ≠ y := by simpa using hxy
  exact hQ h₂ _ _ ⟨a, b, by simp [hne], by simp, hab⟩ hn₂ fun b o hb e => hs₂.extBut b o hb (hs₁.extBut b o hb (kp_get k₂ e))

/-- ys are what the elements were, by their places -/
def AllAt (F : Nat → Value → Prop) (ys : List Value) : Prop := ∀ j y, ys[j]? = some y → F j y
theorem AllAt.snoc {F : Nat → Value → Prop} {ys : List Value} {y : Value} (h : AllAt F ys) (hy : F ys.length y) : AllAt F (ys ++ [y]) := by
  intro j u hu
  rcases Nat.lt_trichotomy j ys.length with h1 | h1 | h1
  · exact h j u (by rwa [List.getElem?_append_left h1] at hu)
  · subst h1; simp at hu; subst hu; exact hy
  · rw [List.getElem?_eq_none (by simp; omega)] at hu; cases hu

/-- [elt for x in list]: values that need no heap -/
theorem ev_compL {x : Str} {px : Pos} {elt iter : Expr} {scope : Scope} {cl : List (Str × Addr)} {pos : Pos} {vs : List Value} {F0 : List Addr} (F : Nat → Value → Prop) (hh : A.handled = none)
    (hsrc : Ev prog w A s₀ (eval iter env) (fun v c => ∃ l, v = .ref l ∧ c.heap.IsList l vs.toArray ∧ (s₀.heap.get? l = none ∨ l ∈ F0))) (hsz : vs.length ≤ sizeLine)
    (helt : ∀ C i v s₁ m₁, (∀ b o, s₀.heap.get? b = some o → s₁.heap.get? b = some o) → s₁.heap.Ns C m₁ → m₁ x = some v → vs[i]? = some v → Ev prog w A s₁ (eval elt (compEnvC scope cl C env)) (fun y _ => F i y))
    (hclos : closureFor scope env = pure cl) (hcell : (scope.names.all fun y => y.2 != .cell) = true := by decide) (hkind : scope.kind = .function := by rfl)
    (hnames : (scope.names.all fun y => y.2 != .local || scope.names.lookup y.1 == some .local) = true := by decide)
    (hs : ∀ x, foldedSetIterable iter env x = pure x := by intro _; rfl) (hl : ∀ C, (compEnvC scope cl C env).kindOf x = some .local := by intro _; rfl)
    (hp : ∀ C, ((compEnvC scope cl C env).scope.kind == .class || ((compEnvC scope cl C env).scope.kind == .module && (compEnvC scope cl C env).locals != (compEnvC scope cl C env).globals)) = false := by intro _; rfl) :
    Ev prog w A s₀ (eval (.ListComp elt [⟨.Name x px, iter, [], 0⟩] scope pos) env) (fun r c => ∃ D ys, r = .ref D ∧ c.heap.PlainList D ys.toArray ∧ ys.length = vs.length ∧ AllAt F ys ∧ s₀.heap.get? D = none) :=
  (ev_comp (fun i m => ∃ v, m x = some v ∧ vs[i]? = some v) (fun _ i ys _ => ys.length = i ∧ AllAt F ys) (src_list hh hsrc) hsz (binds_name (fun _ => rfl) hl hp) (fun _ _ => ⟨rfl, fun j y h => by simp at h⟩) (fun _ _ _ _ _ h _ => h)
    (fun C X i s₁ m₁ ys hi hk hn hT hR hX => by
      obtain ⟨v, hv, hvs⟩ := hT
      obtain ⟨rfl, hA⟩ := hR
      refine ⟨true, fun s E _ => wpAny_pure ⟨rfl, kp_refl _⟩, fun h => (by cases h), fun _ => ?_⟩
      exact (helt C ys.length v s₁ m₁ hk hn hv hvs).mono fun y s _ hy => ⟨by simp, hA.snoc hy⟩) hclos hcell hkind hnames hs).mono fun r c _ ⟨D, ys, X, h1, h2, h3, _, h4⟩ => ⟨D, ys, h1, h2, h3.1, h3.2, h4⟩
end
end Mine
end
section
open PySem PySem.W PyProof.Rows PySem.Calls
namespace Mine
section
variable {prog : Program} {w : World} {A : Around} {s₀ : Shared} {env : Env}

theorem small1 {a n : Int} (ha : 0 ≤ a) (h : a ≤ n) (hn : n < 2 ^ 62) : Builtin.Range.small a n 1 = true ∧ Builtin.Range.rangeSize a n 1 = n - a := by
  have e : Builtin.Range.rangeSize a n 1 = n - a := by
    unfold Builtin.Range.rangeSize
    rw [if_pos (by decide)]
    split <;> omega
  refine ⟨?_, e⟩
  unfold Builtin.Range.small Builtin.Range.rangeFitsLong
  rw [e]
  simp only [Bool.and_eq_true, decide_eq_true_eq, Bool.or_eq_true, beq_iff_eq]
  rw [if_pos (by decide)]
  simp only [Bool.and_eq_true, decide_eq_true_eq]
  omega

/-- what evaluates to a range object -/
theorem src_range {x : Str} {px : Pos} {t : Sem Value} {a n : Int} {F : List Addr} (hh : A.handled = none) (ha : 0 ≤ a) (han : a ≤ n) (hn : n < 2 ^ 62) (h : Ev prog w A s₀ t (fun v c => ∃ r t₁ u₁ v₁, v = .ref r ∧ IsRange c.heap r a n 1 t₁ u₁ v₁)) :
    Src prog w A (.Name x px) s₀ t (n - a).toNat (fun i v _ => IsI (a + i) v) F := by
  intro s E k
  refine h.at k fun v s₁ k₁ hv => ?_
  obtain ⟨r, t₁, u₁, v₁, rfl, hr⟩ := hv
  obtain ⟨hs, hz⟩ := small1 ha han hn
  refine wpAny_pyIter_range hr hs ?_
  have W := Walks.range (prog := prog) (w := w) hh s₁.heap.objs.size a 1 (n - a).toNat
  refine ⟨s₁.heap.objs.size, [s₁.heap.objs.size], [s₁.heap.objs.size], fun i h => IsRangeIter h s₁.heap.objs.size (a + (i : Nat) * 1) (((n - a).toNat : Int) - (i : Nat)) 1, rfl, ?_, ?_, ?_, kp_trans k₁ (kp_push _ _), ?_⟩
  · refine ⟨W.sub, W.frame, ?_, fun i s Q E hi st hQ => W.item i s _ E hi st fun v h' tk p st' k => wpAny_pure (hQ v h' tk ?_ st' k), W.done, W.self⟩
    · intro i h st b hb
      simp only [List.mem_cons, List.not_mem_nil, or_false] at hb
      subst hb
      exact ⟨_, st⟩
    · obtain ⟨tk', rfl⟩ := p
      exact ⟨tk', by simp⟩
  · show IsRangeIter _ _ _ _ _
    rw [hz]
    have : ((n - a).toNat : Int) - (0 : Nat) = n - a := by omega
    rw [this]
    simpa using (push_live (h := s₁.heap) (o := { cls := .type "range_iterator", data := .fields #[rawInt a, rawInt (n - a), rawInt 1] }))
  · intro b hb
    simp only [List.mem_cons, List.not_mem_nil, or_false] at hb
    subst hb
    exact kp_new k₁
  · intro b hb
    simp only [List.mem_cons, List.not_mem_nil, or_false] at hb
    subst hb
    exact Or.inl (kp_new (kp_trans k k₁))
theorem ev_range1 {n : Int} {v : Value} (h : IsI n v) : Ev prog w A s₀ (call (.type "range") [v]) (fun v c => ∃ r t₁ u₁ v₁, v = .ref r ∧ IsRange c.heap r 0 n 1 t₁ u₁ v₁) := by
  obtain ⟨t, rfl⟩ := h
  exact fun s E _ => call_range_1 ⟨⟨_, _, _, _, rfl, push_live⟩, ⟨_, _, rfl, fun _ _ e => Heap.get?_push_of_some _ e⟩⟩
theorem ev_range2 {a n : Int} {u v : Value} (h' : IsI a u) (h : IsI n v) : Ev prog w A s₀ (call (.type "range") [u, v]) (fun v c => ∃ r t₁ u₁ v₁, v = .ref r ∧ IsRange c.heap r a n 1 t₁ u₁ v₁) := by
  obtain ⟨t, rfl⟩ := h
  obtain ⟨t', rfl⟩ := h'
  exact fun s E _ => call_range_2 ⟨⟨_, _, _, _, rfl, push_live⟩, ⟨_, _, rfl, fun _ _ e => Heap.get?_push_of_some _ e⟩⟩

/-- a text's signs -/
theorem src_str {y : Str} {px : Pos} {t : Sem Value} {x : Str} {F : List Addr} (hh : A.handled = none) (h : Ev prog w A s₀ t (fun v c => IsS x v)) :
    Src prog w A (.Name y px) s₀ t x.cps.size (fun i v _ => ∃ c, x.cps[i]? = some c ∧ IsS ⟨#[c]⟩ v) F := by
  intro s E k
  refine h.at k fun v s₁ k₁ hv => ?_
  obtain ⟨t, rfl⟩ := hv
  refine wpAny_pyIter_strU ?_
  have key : ∀ St : Nat → Heap → Prop, Walks prog w A s₁.heap.objs.size [s₁.heap.objs.size] [s₁.heap.objs.size] x.cps.size (SignAt x) St → (∀ i h, St i h → ∃ o, h.get? s₁.heap.objs.size = some o) →
      St 0 (s₁.heap.push { cls := .type (strIterType x), data := .fields #[.str x t, .int 0 0] }) →
      ∃ I fp wr St, (Value.ref s₁.heap.objs.size) = .ref I ∧ It prog w A (.Name y px) I fp wr x.cps.size (fun i v _ => ∃ c, x.cps[i]? = some c ∧ IsS ⟨#[c]⟩ v) St ∧ St 0 (s₁.heap.push { cls := .type (strIterType x), data := .fields #[.str x t, .int 0 0] }) ∧
        (∀ b ∈ wr, s.heap.get? b = none) ∧ Keeps s { s₁ with heap := s₁.heap.push { cls := .type (strIterType x), data := .fields #[.str x t, .int 0 0] } } ∧ ∀ b ∈ fp, s₀.heap.get? b = none ∨ b ∈ F := by
    intro St W live st
    refine ⟨_, _, _, St, rfl, ⟨W.sub, W.frame, ?_, fun i s Q E hi st hQ => W.item i s _ E hi st fun v h' tk p st' k => wpAny_pure (hQ v h' tk ?_ st' k), W.done, W.self⟩, st, ?_, kp_trans k₁ (kp_push _ _), ?_⟩
    · intro i h st b hb
      simp only [List.mem_cons, List.not_mem_nil, or_false] at hb
      subst hb
      exact live i h st
    · obtain ⟨c, u, h1, rfl⟩ := p
      exact ⟨c, h1, u, rfl⟩
    · intro b hb
      simp only [List.mem_cons, List.not_mem_nil, or_false] at hb
      subst hb
      exact kp_new k₁
    · intro b hb
      simp only [List.mem_cons, List.not_mem_nil, or_false] at hb
      subst hb
      exact Or.inl (kp_new (kp_trans k k₁))
  cases ha : x.cps.all (· < 128)
  · have hT : strIterType x = "str_iterator" := by unfold strIterType; rw [ha]; rfl
    exact key _ (Walks.strWide hh _ x t) (fun i h ⟨o, e, _⟩ => ⟨o, e⟩) ⟨_, push_live, by rw [hT], rfl⟩
  · have hT : strIterType x = "str_ascii_iterator" := by unfold strIterType; rw [ha]; rfl
    exact key _ (Walks.strAscii hh _ x t) (fun i h ⟨o, e, _⟩ => ⟨o, e⟩) ⟨_, push_live, by rw [hT], rfl⟩

end
end Mine
end
section
open PySem PySem.W PyProof.Rows PySem.Calls
namespace Mine

theorem paired_get {α : Type} {G : α → Value → Prop} {as : List α} {vs : List Value} (h : Paired G as vs) : ∀ {i : Nat} {v : Value}, vs[i]? = some v → ∃ a, as[i]? = some a ∧ G a v := by
  induction h with
  | nil => intro i v h; simp at h
  | cons h1 _ ih =>
    intro i v hv
    cases i with
    | zero => simp at hv; subst hv; exact ⟨_, rfl, h1⟩
    | succ i => simpa using ih (by simpa using hv)
theorem paired_of {α : Type} {F : α → Value → Prop} : ∀ {as : List α} {ys : List Value}, ys.length = as.length → (∀ (j : Nat) y a, ys[j]? = some y → as[j]? = some a → F a y) → Paired F as ys
  | [], [], _, _ => .nil
  | [], _ :: _, h, _ => by simp at h
  | _ :: _, [], h, _ => by simp at h
  | a :: as, y :: ys, h, hf => .cons (hf 0 y a rfl rfl) (paired_of (by simpa using h) fun j y' a' h1 h2 => hf (j + 1) y' a' (by simpa using h1) (by simpa using h2))
theorem paired_mono {α : Type} {F G : α → Value → Prop} {as : List α} {vs : List Value} (h : Paired F as vs) (hf : ∀ a v, F a v → G a v) : Paired G as vs := by
  induction h with
  | nil => exact .nil
  | cons h1 _ ih => exact .cons (hf _ _ h1) ih
theorem paired_map {α β : Type} {F : β → Value → Prop} {f : α → β} {as : List α} {vs : List Value} (h : Paired (fun a v => F (f a) v) as vs) : Paired F (as.map f) vs := by
  induction h with
  | nil => exact .nil
  | cons h1 _ ih => exact .cons h1 ih
theorem paired_strs {vs : List Value} {xs : List Str} (h : Paired IsS xs vs) : StrsAre vs xs := by
  induction h with
  | nil => exact .nil
  | cons h1 _ ih => obtain ⟨t, rfl⟩ := h1; exact .cons _ _ ih
theorem ints_paired {vs : List Value} {ns : List Int} (h : IntsAre vs ns) : Paired IsI ns vs := by
  induction h with
  | nil => exact .nil
  | cons n t _ ih => exact .cons ⟨t, rfl⟩ ih

/-- texts one behind the other -/
def cat (xs : List Str) : Str := ⟨(xs.flatMap (·.cps.toList)).toArray⟩
theorem join_cat (xs : List Str) : Txt.join (Str.ofString "") xs = cat xs := by
  unfold Txt.join
  rw [StrLaws.glued_eq_join]
  induction xs with
  | nil => rfl
  | cons x r ih =>
    cases r with
    | nil => simp [Str.join, cat]
    | cons y r =>
      show x ++ Str.ofString "" ++ Str.join (Str.ofString "") (y :: r) = _
      rw [ih]
      apply Str.ext'
      show ((x.cps ++ (Str.ofString "").cps) ++ (cat (y :: r)).cps) = (cat (x :: y :: r)).cps
      have : (Str.ofString "").cps = #[] := by decide
      rw [this]
      simp [cat]
section
variable {prog : Program} {w : World} {A : Around} {s₀ : Shared} {env : Env}

theorem ev_compP {α : Type} {x : Str} {px : Pos} {elt iter : Expr} {scope : Scope} {cl : List (Str × Addr)} {pos : Pos} {as : List α} {vs : List Value} {F0 : List Addr} (G F : α → Value → Prop) (hh : A.handled = none) (hG : Paired G as vs)
    (hsrc : Ev prog w A s₀ (eval iter env) (fun v c => ∃ l, v = .ref l ∧ c.heap.IsList l vs.toArray ∧ (s₀.heap.get? l = none ∨ l ∈ F0))) (hsz : as.length ≤ sizeLine)
    (helt : ∀ C a v s₁ m₁, a ∈ as → G a v → (∀ b o, s₀.heap.get? b = some o → s₁.heap.get? b = some o) → s₁.heap.Ns C m₁ → m₁ x = some v → Ev prog w A s₁ (eval elt (compEnvC scope cl C env)) (fun y _ => F a y))
    (hclos : closureFor scope env = pure cl) (hcell : (scope.names.all fun y => y.2 != .cell) = true := by decide) (hkind : scope.kind = .function := by rfl)
    (hnames : (scope.names.all fun y => y.2 != .local || scope.names.lookup y.1 == some .local) = true := by decide)
    (hs : ∀ x, foldedSetIterable iter env x = pure x := by intro _; rfl) (hl : ∀ C, (compEnvC scope cl C env).kindOf x = some .local := by intro _; rfl)
    (hp : ∀ C, ((compEnvC scope cl C env).scope.kind == .class || ((compEnvC scope cl C env).scope.kind == .module && (compEnvC scope cl C env).locals != (compEnvC scope cl C env).globals)) = false := by intro _; rfl) :
    Ev prog w A s₀ (eval (.ListComp elt [⟨.Name x px, iter, [], 0⟩] scope pos) env) (fun r c => ∃ D ys, r = .ref D ∧ c.heap.PlainList D ys.toArray ∧ Paired F as ys ∧ s₀.heap.get? D = none) :=
  (ev_compL (fun j y => ∀ a, as[j]? = some a → F a y) hh hsrc (by rw [← hG.length]; exact hsz) (fun C i v s₁ m₁ hk hn hm hv => by
    obtain ⟨a, ha, hGa⟩ := paired_get hG hv
    exact (helt C a v s₁ m₁ (List.mem_of_getElem? ha) hGa hk hn hm).mono fun y s _ hy a' ha' => by
      rw [ha] at ha'; cases ha'; exact hy) hclos hcell hkind hnames hs hl hp).mono fun r c _ ⟨D, ys, h1, h2, h3, h4, h5⟩ => ⟨D, ys, h1, h2, paired_of (by rw [h3, hG.length]) fun j y a hy ha => h4 j y hy a ha, h5⟩

theorem st_compP {α : Type} {s c : Shared} {L : Addr} {m : Str → Option Value} {y : Str} {py spos : Pos} {rest : List Stmt} {Q : Flow → Shared → Prop} {E : Value → Shared → Prop} {x : Str} {px : Pos} {elt iter : Expr} {scope : Scope} {cl : List (Str × Addr)} {pos : Pos} {as : List α} {vs : List Value} {F0 : List Addr} (G F : α → Value → Prop)
    (i : InCall s L m c) (hL : env.locals = L) (hh : A.handled = none) (hG : Paired G as vs)
    (hsrc : Ev prog w A c (eval iter env) (fun v c' => ∃ l, v = .ref l ∧ c'.heap.IsList l vs.toArray ∧ (c.heap.get? l = none ∨ l ∈ F0))) (hsz : as.length ≤ sizeLine)
    (helt : ∀ C a v s₁ m₁, a ∈ as → G a v → (∀ b o, c.heap.get? b = some o → s₁.heap.get? b = some o) → s₁.heap.Ns C m₁ → m₁ x = some v → Ev prog w A s₁ (eval elt (compEnvC scope cl C env)) (fun y _ => F a y))
    (h : ∀ D ys c₂, c₂.heap.PlainList D ys.toArray → Paired F as ys → c.heap.get? D = none → InCall s L (fun z => if z = y then some (.ref D) else m z) c₂ → KeepsBut L c c₂ → wpAny (model prog w) A (execs rest env) Q E c₂)
    (hclos : closureFor scope env = pure cl) (hcell : (scope.names.all fun y => y.2 != .cell) = true := by decide) (hkind : scope.kind = .function := by rfl)
    (hnames : (scope.names.all fun y => y.2 != .local || scope.names.lookup y.1 == some .local) = true := by decide)
    (hs : ∀ x, foldedSetIterable iter env x = pure x := by intro _; rfl) (hl : ∀ C, (compEnvC scope cl C env).kindOf x = some .local := by intro _; rfl)
    (hp : ∀ C, ((compEnvC scope cl C env).scope.kind == .class || ((compEnvC scope cl C env).scope.kind == .module && (compEnvC scope cl C env).locals != (compEnvC scope cl C env).globals)) = false := by intro _; rfl)
    (hsw : swapsWith (.ListComp elt [⟨.Name x px, iter, [], 0⟩] scope pos) (some (.Name y py)) spos.line env = pure true := by rfl)
    (hy : env.kindOf y = some .local := by rfl) (hp' : (env.scope.kind == .class || (env.scope.kind == .module && env.locals != env.globals)) = false := by rfl) :
    wpAny (model prog w) A (execs (.Assign [.Name y py] (.ListComp elt [⟨.Name x px, iter, [], 0⟩] scope pos) spos :: rest) env) Q E c :=
  st_assign_comp (fun i m => ∃ v, m x = some v ∧ vs[i]? = some v) (fun _ i ys _ => ys.length = i ∧ AllAt (fun j y => ∀ a, as[j]? = some a → F a y) ys) i hL (src_list hh hsrc) (by rw [← hG.length]; exact hsz) (binds_name (fun _ => rfl) hl hp)
    (fun _ _ => ⟨rfl, fun j y h => by simp at h⟩) (fun _ _ _ _ _ h _ => h) (fun _ _ _ _ _ h _ => h)
    (fun C X i s₁ m₁ ys hi hk hn hT hR hX => by
      obtain ⟨v, hv, hvs⟩ := hT
      obtain ⟨rfl, hA⟩ := hR
      obtain ⟨a, ha, hGa⟩ := paired_get hG hvs
      refine ⟨true, fun s E _ => wpAny_pure ⟨rfl, kp_refl _⟩, fun h => (by cases h), fun _ => ?_⟩
      exact (helt C a v s₁ m₁ (List.mem_of_getElem? ha) hGa hk hn hv).mono fun y s _ hy => ⟨by simp, hA.snoc fun a' ha' => by rw [ha] at ha'; cases ha'; exact hy⟩)
    (fun D ys X c₂ hD hR hDn i₂ kb => h D ys c₂ hD (paired_of (by rw [hR.1, hG.length]) fun j y a hy ha => hR.2 j y hy a ha) hDn i₂ kb) hclos hcell hkind hnames hs hsw hy hp'

theorem ev_join {l : Addr} {vs : List Value} {xs : List Str} {v : Value} (hv : IsS (Str.ofString "") v) (hl : s₀.heap.IsList l vs.toArray) (hx : Paired IsS xs vs) (hsz : (xs.map (·.length)).sum ≤ 16777216) :
    Ev prog w A s₀ (call (.builtin "str.join") [v, .ref l]) (fun u _ => IsS (cat xs) u) := by
  obtain ⟨t, rfl⟩ := hv
  intro s E k
  refine join_list (hl.at fun o e => kp_get k e) (by simpa using paired_strs hx) ?_ fun t' tk => ⟨⟨t', by rw [join_cat]⟩, kp_tok _ _⟩
  have : (Str.ofString "").length = 0 := by decide
  rw [this]; omega
end
end Mine
end
section
open PySem PySem.W PyProof.Rows PySem.Calls PySem.SeqAt
namespace Mine
section
variable {prog : Program} {w : World} {A : Around} {s₀ : Shared} {env : Env}

theorem in_strs {l : Addr} {vs : List Value} {ns : List Str} {n : Str} {u : Value} (hu : IsS n u) (hl : s₀.heap.IsList l vs.toArray) (hb : Paired IsS ns vs) :
    Ev prog w A s₀ (compareOp .In u (.ref l)) (fun v _ => IsB (ns.contains n) v) := by
  obtain ⟨t, rfl⟩ := hu
  intro s E k
  refine in_listAt (fun v => match v with | .str m _ => m == n | _ => false) (hl.at fun o e => kp_get k e) (fun y hy => ?_) ⟨?_, kp_refl _⟩
  · have hy' : y ∈ vs := by simpa using hy
    obtain ⟨i, hi⟩ := List.getElem?_of_mem hy'
    obtain ⟨b, _, t', rfl⟩ := paired_get hb hi
    exact (eqGives_str b n t' t).at _ _
  · show Value.bool _ = Value.bool _
    congr 1
    rw [List.any_toArray]
    clear hl
    induction hb with
    | nil => rfl
    | cons h1 _ ih =>
      obtain ⟨t', rfl⟩ := h1
      rw [List.any_cons, List.contains_cons, ih]
      congr 1
      exact BEq.comm

/-- a display of constants -/
theorem ev_spliceI {pos : Pos} : ∀ {es : List Expr} {ns : List Int}, es.length = ns.length → (∀ (i : Nat) (e : Expr) (n : Int), es[i]? = some e → ns[i]? = some n → ∃ k p, e = .Constant (.int n) k p) →
    Ev prog w A s₀ (spliced (backTo pos (starEach es env))) (fun vs _ => Paired IsI ns vs)
  | [], [], _, _ => Ev.of fun s Q E k hQ => spliced_none (hQ _ _ (kp_refl _) .nil)
  | [], _ :: _, h, _ => by simp at h
  | _ :: _, [], h, _ => by simp at h
  | e :: es, n :: ns, h, hf => by
    obtain ⟨k, p, rfl⟩ := hf 0 e n rfl rfl
    exact Ev.of fun s Q E kk hQ => spliced_more (ev_int.at kk fun v s₁ k₁ hv => (ev_spliceI (ns := ns) (by simpa using h) fun i e' n' h1 h2 => hf (i + 1) e' n' (by simpa using h1) (by simpa using h2)).at (kp_trans kk k₁)
      fun vs s₂ k₂ hvs => hQ _ s₂ (kp_trans k₁ k₂) (.cons hv hvs))
theorem ev_spliceS {pos : Pos} : ∀ {es : List Expr} {ns : List Str}, es.length = ns.length → (∀ (i : Nat) (e : Expr) (n : Str), es[i]? = some e → ns[i]? = some n → ∃ k p, e = .Constant (.str n) k p) →
    Ev prog w A s₀ (spliced (backTo pos (starEach es env))) (fun vs _ => Paired IsS ns vs)
  | [], [], _, _ => Ev.of fun s Q E k hQ => spliced_none (hQ _ _ (kp_refl _) .nil)
  | [], _ :: _, h, _ => by simp at h
  | _ :: _, [], h, _ => by simp at h
  | e :: es, n :: ns, h, hf => by
    obtain ⟨k, p, rfl⟩ := hf 0 e n rfl rfl
    exact Ev.of fun s Q E kk hQ => spliced_more (ev_str.at kk fun v s₁ k₁ hv => (ev_spliceS (ns := ns) (by simpa using h) fun i e' n' h1 h2 => hf (i + 1) e' n' (by simpa using h1) (by simpa using h2)).at (kp_trans kk k₁)
      fun vs s₂ k₂ hvs => hQ _ s₂ (kp_trans k₁ k₂) (.cons hv hvs))
theorem ev_List {es : List Expr} {pos : Pos} {P : List Value → Shared → Prop} (h : Ev prog w A s₀ (spliced (backTo pos (starEach es env))) P) (hsz : ∀ vs s, P vs s → vs.length ≤ sizeLine) (hm : ∀ vs s s', Keeps s s' → P vs s → P vs s') :
    Ev prog w A s₀ (eval (.List es pos) env) (fun v c => ∃ l vs, v = .ref l ∧ c.heap.PlainList l vs.toArray ∧ P vs c ∧ s₀.heap.get? l = none) :=
  Ev.of fun s Q E k hQ => wpAny_List (h.at k fun vs s₁ k₁ hv => ⟨hsz vs s₁ hv, hQ _ _ (kp_trans k₁ (kp_push _ _)) ⟨_, vs, rfl, ⟨0, push_live⟩, hm _ _ _ (kp_push _ _) hv, kp_new (kp_trans k k₁)⟩⟩)
theorem ev_Tuple2 {e₁ e₂ : Expr} {pos : Pos} {k : Nat} {P1 P2 : Value → Shared → Prop} (h1 : Ev prog w A s₀ (eval e₁ env) P1) (h2 : ∀ s₁, Keeps s₀ s₁ → Ev prog w A s₁ (eval e₂ env) P2) (hm : ∀ v s s', Keeps s s' → P1 v s → P1 v s') (hm2 : ∀ v s s', Keeps s s' → P2 v s → P2 v s')
    (he : starEach [e₁, e₂] env = (false, eval e₁ env) :: starEach [e₂] env := by rfl) (he' : starEach [e₂] env = (false, eval e₂ env) :: starEach [] env := by rfl) :
    Ev prog w A s₀ (eval (.Tuple [e₁, e₂] k pos) env) (fun v c => ∃ t a b, v = .ref t ∧ c.heap.IsTuple t #[a, b] ∧ P1 a c ∧ P2 b c ∧ s₀.heap.get? t = none) :=
  Ev.of fun s Q E kk hQ => wpAny_Tuple (spliced_more (h1.at kk fun a s₁ k₁ ha => spliced_more ((h2 s₁ (kp_trans kk k₁)).use fun b s₂ k₂ hb => spliced_none ⟨show 2 ≤ 2 ^ 24 from by decide,
    hQ _ _ (kp_trans (kp_trans k₁ k₂) (kp_push _ _)) ⟨_, a, b, rfl, ⟨_, push_live, rfl, 0, rfl⟩, hm _ _ _ (kp_trans k₂ (kp_push _ _)) ha, hm2 _ _ _ (kp_push _ _) hb, kp_new (kp_trans (kp_trans kk k₁) k₂)⟩⟩) he') he)

/-- a method of a text -/
theorem ev_methS1 {o e : Expr} {name : Str} {id : String} {apos pos : Pos} {x : Str} {P1 P : Value → Shared → Prop} (slot : Slot "str" name id) (hty : typeOf (.builtin id) = pure (.type "method_descriptor"))
    (ho : Ev prog w A s₀ (eval o env) (fun v _ => IsS x v)) (he : Ev prog w A s₀ (eval e env) P1) (hc : ∀ ov v s₂, IsS x ov → Keeps s₀ s₂ → P1 v s₂ → Ev prog w A s₂ (call (.builtin id) [ov, v]) P)
    (hbase : attributeBase o name env (eval o env) = eval o env := by rfl) (hline : (apos.endLine == pos.line) = true := by decide) (htrees : backTo pos (starEach [e] env) = [(false, eval e env)] := by rfl) :
    Ev prog w A s₀ (eval (.Call (.Attribute o name apos) [e] [] pos) env) P :=
  Ev.of fun s Q E k hQ => wpAny_Call_method1_late hbase hline htrees (ho.at k fun ov s₁ k₁ hov => by
    obtain ⟨t, rfl⟩ := hov
    refine ⟨"str", id, F.plainAttrs_str, slot, hty, typeIs_str _ _ _, fun a e => (by cases e), ?_⟩
    refine callWith_builtin rfl (evalArgs_plain (spliced_cons (he.at (kp_trans k k₁) fun v s₂ k₂ hv => spliced_nil ?_)))
    exact (hc _ v s₂ ⟨t, rfl⟩ (kp_trans (kp_trans k k₁) k₂) hv).use fun r s₃ k₃ hr => hQ r s₃ (kp_trans (kp_trans k₁ k₂) k₃) hr)

/-- l.append(e), l a plain list of the frame's -/
theorem st_append {s c : Shared} {L : Addr} {m : Str → Option Value} {o e : Expr} {apos pos epos : Pos} {rest : List Stmt} {D : Addr} {ys : List Value} {P : Value → Shared → Prop} {Q : Flow → Shared → Prop} {E : Value → Shared → Prop}
    (i : InCall s L m c) (hDL : D ≠ L) (hDs : s.heap.get? D = none) (ho : Ev prog w A c (eval o env) (fun v _ => v = .ref D)) (hD : c.heap.PlainList D ys.toArray) (hsz : ys.length ≤ sizeLine) (he : Ev prog w A c (eval e env) P)
    (h : ∀ v c₁ c₂, Keeps c c₁ → P v c₁ → InCall s L m c₂ → c₂.heap.PlainList D (ys ++ [v]).toArray → KeepsBut D c₁ c₂ → wpAny (model prog w) A (execs rest env) Q E c₂)
    (hbase : attributeBase o (Str.ofString "append") env (eval o env) = eval o env := by rfl) (hline : (apos.endLine == pos.line) = true := by decide) (htrees : backTo pos (starEach [e] env) = [(false, eval e env)] := by rfl)
    (hi : interactive env = false := by rfl) (hsw : swapsWith (.Call (.Attribute o (Str.ofString "append") apos) [e] [] pos) none epos.line env = pure false := by rfl) :
    wpAny (model prog w) A (execs (.Expr (.Call (.Attribute o (Str.ofString "append") apos) [e] [] pos) epos :: rest) env) Q E c := by
  refine wpAny_execs_cons (wpAny_Expr_any (wpAny_Call_method1_late hbase hline htrees (ho.use fun ov c₁ k₁ hov => ?_)) hi hsw)
  subst hov
  have hD₁ : c₁.heap.PlainList D ys.toArray := hD.at fun o e => kp_get k₁ e
  obtain ⟨n, hget⟩ := id hD₁
  refine ⟨"list", "list.append", F.plainAttrs_list, slot_list_append, F.type_list_append, ⟨_, hget, rfl⟩, fun a e => by cases e; exact ⟨_, hget, rfl⟩, ?_⟩
  refine callWith_builtin rfl (evalArgs_plain (spliced_cons (he.at k₁ fun v c₂ k₂ hv => spliced_nil ?_)))
  refine wpAny_list_append_plain (hsz := by simpa using hsz) (hD₁.at fun o e => kp_get k₂ e) fun h' hl' hs' => ?_
  have i₂ := InCall.kp i (kp_trans k₁ k₂)
  refine h v c₂ _ (kp_trans k₁ k₂) hv ⟨?_, i₂.ns.sameBut hs' (Ne.symm hDL), fun b o e => ?_, i₂.fresh⟩ (by simpa using hl') fun b o hb e => hs'.extBut b o hb e
  · obtain ⟨h₁, tk, e⟩ := i₂.same
    exact ⟨h', c₂.toks, by rw [e]⟩
  · exact hs'.extBut b o (fun e' => by subst e'; rw [hDs] at e; cases e) (i₂.keep b o e)
end
end Mine
end
section
open PySem PySem.W PyProof.Rows PySem.Calls
namespace Mine

/-- the order that the sort asks for -/
structure Ord (lt : Value → Value → Bool) : Prop where
  asym : ∀ x y, lt x y = true → lt y x = false
  trans : ∀ x y z, lt y x = false → lt z y = false → lt z x = false
def key (xs : Array Keyed) (i : Nat) : Value := match xs[i]? with
  | some p => p.1
  | none => .none
/-- rising from lo up to hi -/
def Seg (lt : Value → Value → Bool) (xs : Array Keyed) (lo hi : Nat) : Prop := ∀ i j, lo ≤ i → i ≤ j → j < hi → lt (key xs j) (key xs i) = false
/-- falling -/
def Fall (lt : Value → Value → Bool) (xs : Array Keyed) (lo hi : Nat) : Prop := ∀ i j, lo ≤ i → i ≤ j → j < hi → lt (key xs i) (key xs j) = false
theorem key_congr {xs ys : Array Keyed} {i j : Nat} (h : xs[i]? = ys[j]?) : key xs i = key ys j := by unfold key; rw [h]
theorem Ord.refl {lt : Value → Value → Bool} (O : Ord lt) (x : Value) : lt x x = false := by
  cases h : lt x x with
  | false => rfl
  | true => rw [O.asym x x h] at h; cases h

/-- what the comparisons answer, with the world as it is at s -/
def CmpOk (prog : Program) (w : World) (A : Around) (s : Shared) (lt : Value → Value → Bool) (P : Value → Prop) : Prop :=
  ∀ x y (E : Value → Shared → Prop) (Q : Bool → Shared → Prop), P x → P y → Q (lt x y) s → wpAny (model prog w) A (keyLt' oneType' x y) Q E s

structure TB (a₀ : Array Keyed) (st : SortSt) : Prop where
  perm : (arrOf st).Perm a₀
  kind : kindOf st = oneType'
  failed : failedOf st = none
theorem TB.size {a₀ : Array Keyed} {st : SortSt} (h : TB a₀ st) : (arrOf st).size = a₀.size := h.perm.size_eq
theorem TB.arr {a₀ : Array Keyed} {st : SortSt} (h : TB a₀ st) {xs : Array Keyed} (hp : xs.Perm (arrOf st)) : TB a₀ (setArr st xs) := ⟨hp.trans h.perm, h.kind, h.failed⟩
/-- all but [lo, hi) is as it was, and the runs that wait -/
structure Out (lo hi : Nat) (st st' : SortSt) : Prop where
  out : ∀ k, k < lo ∨ hi ≤ k → (arrOf st')[k]? = (arrOf st)[k]?
  pend : pendingOf st' = pendingOf st
theorem Out.refl (lo hi : Nat) (st : SortSt) : Out lo hi st st := ⟨fun _ _ => rfl, rfl⟩
theorem Out.trans {lo hi : Nat} {a b c : SortSt} (h : Out lo hi a b) (k : Out lo hi b c) : Out lo hi a c := ⟨fun i hi => (k.out i hi).trans (h.out i hi), k.pend.trans h.pend⟩
theorem Out.wide {lo hi lo' hi' : Nat} {a b : SortSt} (h : Out lo hi a b) (h1 : lo' ≤ lo) (h2 : hi ≤ hi') : Out lo' hi' a b := ⟨fun i hi => h.out i (by omega), h.pend⟩

section
variable {prog : Program} {w : World} {A : Around} {E : Value → Shared → Prop} {s : Shared} {a₀ : Array Keyed} {lt : Value → Value → Bool} {P : Value → Prop}

theorem ws_lt {st : SortSt} {x y : Keyed} {Q : Option Bool → SortSt → Prop} (C : CmpOk prog w A s lt P) (hk : kindOf st = oneType') (hx : P x.1) (hy : P y.1) (h : Q (some (lt x.1 y.1)) st) : wpS (model prog w) A E s (lt' x y) Q st := by
  rw [lt'_eq]
  refine wpS_bind (wpS_get ?_)
  rw [hk]
  refine wpS_bind (wpS_lift (wpAny_attempt (C _ _ _ _ hx hy ⟨rfl, ?_⟩)))
  exact wpS_pure h
theorem ws_elem {st : SortSt} {arr : Array Keyed} {i : Nat} {p : Keyed} {Q : Keyed → SortSt → Prop} (hi : arr[i]? = some p) (h : Q p st) : wpS (model prog w) A E s (elem' arr i) Q st := by
  rw [elem'_eq, hi]; exact wpS_pure h
theorem TB.at {st : SortSt} (B : TB a₀ st) (hP : ∀ p ∈ a₀.toList, P p.1) {i : Nat} (hi : i < a₀.size) : ∃ p, (arrOf st)[i]? = some p ∧ P p.1 ∧ p.1 = key (arrOf st) i := by
  have hi' : i < (arrOf st).size := by rw [B.size]; exact hi
  have hm : (arrOf st)[i] ∈ a₀.toList := (Array.perm_iff_toList_perm.mp B.perm).mem_iff.mp (by simp)
  exact ⟨(arrOf st)[i], getElem?_pos _ i hi', hP _ hm, by unfold key; rw [getElem?_pos _ i hi']⟩
theorem ws_ltAt {st : SortSt} {i j : Nat} {Q : Option Bool → SortSt → Prop} (C : CmpOk prog w A s lt P) (hP : ∀ p ∈ a₀.toList, P p.1) (B : TB a₀ st) (hi : i < a₀.size) (hj : j < a₀.size)
    (h : Q (some (lt (key (arrOf st) i) (key (arrOf st) j))) st) : wpS (model prog w) A E s (ltAt' i j) Q st := by
  obtain ⟨p, e1, p1, k1⟩ := B.at hP hi
  obtain ⟨q, e2, p2, k2⟩ := B.at hP hj
  rw [ltAt'_eq]
  refine wpS_bind (wpS_get ?_)
  show wpS _ _ _ _ (do let x ← elem' (arrOf st) i; let y ← elem' (arrOf st) j; lt' x y) Q st
  refine wpS_bind (ws_elem e1 (wpS_bind (ws_elem e2 ?_)))
  exact ws_lt C B.kind p1 p2 (by rw [k1, k2]; exact h)
theorem key_mirror {xs : Array Keyed} {i j : Nat} (hj : j ≤ xs.size) (k : Nat) : key (mirror xs i j ((j - i) / 2)) k = if i ≤ k ∧ k < j then key xs (i + j - 1 - k) else key xs k := by
  have e := getElem?_mirror_all (i := i) hj k
  split
  · rename_i h; rw [if_pos h] at e; exact key_congr e
  · rename_i h; rw [if_neg h] at e; exact key_congr e
/-- a slice turned round -/
theorem ws_rev {st : SortSt} {i j : Nat} {Q : Unit → SortSt → Prop} (B : TB a₀ st) (hj : j ≤ a₀.size)
    (h : ∀ st', TB a₀ st' → Out i j st st' → (∀ k, key (arrOf st') k = if i ≤ k ∧ k < j then key (arrOf st) (i + j - 1 - k) else key (arrOf st) k) → Q () st') :
    wpS (model prog w) A E s (reverseSlice' i j) Q st := by
  rw [reverseSlice'_eq]
  refine wpS_modify (h _ (B.arr (mirror_perm _ _ _ _)) ⟨fun k hk => ?_, rfl⟩ fun k => key_mirror (by rw [B.size]; exact hj) k)
  show (mirror (arrOf st) i j ((j - i) / 2))[k]? = _
  rw [getElem?_mirror_all (by rw [B.size]; exact hj), if_neg (by omega)]

/-- one item is moved down to its place -/
theorem seg_insert {xs ys : Array Keyed} {lo p q : Nat} (O : Ord lt) (h0 : lo ≤ p) (hpq : p ≤ q) (S : Seg lt xs lo q) (hlo : ∀ i, lo ≤ i → i < p → lt (key xs q) (key xs i) = false) (hhi : ∀ i, p ≤ i → i < q → lt (key xs i) (key xs q) = false)
    (gk : ∀ j, key ys j = if j = p then key xs q else if p < j ∧ j ≤ q then key xs (j - 1) else key xs j) : Seg lt ys lo (q + 1) := by
  have g1 : ∀ j, j < p → key ys j = key xs j := fun j hj => by rw [gk, if_neg (Nat.ne_of_lt hj), if_neg (fun c => absurd c.1 (Nat.lt_asymm hj))]
  have g2 : key ys p = key xs q := by rw [gk, if_pos rfl]
  have g3 : ∀ j, p ≤ j → j < q → key ys (j + 1) = key xs j := fun j h1 h2 => by rw [gk, if_neg (Nat.ne_of_gt (Nat.lt_succ_of_le h1)), if_pos ⟨Nat.lt_succ_of_le h1, h2⟩]; rfl
  clear gk
  intro i j h1 h2 h3
  rcases Nat.lt_trichotomy i p with hi | hi | hi
  · rw [g1 i hi]
    rcases Nat.lt_trichotomy j p with hj | hj | hj
    · rw [g1 j hj]; exact S i j h1 h2 (Nat.lt_of_lt_of_le hj hpq)
    · rw [hj, g2]; exact hlo i h1 hi
    · obtain ⟨j', rfl⟩ : ∃ j', j = j' + 1 := ⟨j - 1, (Nat.succ_pred_eq_of_pos (Nat.lt_of_le_of_lt (Nat.zero_le _) hj)).symm⟩
      rw [g3 j' (Nat.le_of_lt_succ hj) (Nat.lt_of_succ_lt_succ h3)]
      exact S i j' h1 (Nat.le_of_lt (Nat.lt_of_lt_of_le hi (Nat.le_of_lt_succ hj))) (Nat.lt_of_succ_lt_succ h3)
  · subst hi
    rw [g2]
    rcases Nat.eq_or_lt_of_le h2 with rfl | hj
    · rw [g2]; exact O.refl _
    · obtain ⟨j', rfl⟩ : ∃ j', j = j' + 1 := ⟨j - 1, (Nat.succ_pred_eq_of_pos (Nat.lt_of_le_of_lt (Nat.zero_le _) hj)).symm⟩
      rw [g3 j' (Nat.le_of_lt_succ hj) (Nat.lt_of_succ_lt_succ h3)]
      exact hhi j' (Nat.le_of_lt_succ hj) (Nat.lt_of_succ_lt_succ h3)
  · obtain ⟨i', rfl⟩ : ∃ i', i = i' + 1 := ⟨i - 1, (Nat.succ_pred_eq_of_pos (Nat.lt_of_le_of_lt (Nat.zero_le _) hi)).symm⟩
    obtain ⟨j', rfl⟩ : ∃ j', j = j' + 1 := ⟨j - 1, (Nat.succ_pred_eq_of_pos (Nat.lt_of_lt_of_le (Nat.succ_pos _) h2)).symm⟩
    have a := Nat.le_of_lt_succ hi
    have b := Nat.le_of_succ_le_succ h2
    have c := Nat.lt_of_succ_lt_succ h3
    rw [g3 i' a (Nat.lt_of_le_of_lt b c), g3 j' (Nat.le_trans a b) c]
    exact S i' j' (Nat.le_trans h0 a) b c

/-- the insertion sort of [lo, lo + n), its first ok sorted -/
theorem ws_binary {st : SortSt} {lo n ok : Nat} {Q : Bool → SortSt → Prop} (O : Ord lt) (C : CmpOk prog w A s lt P) (hP : ∀ p ∈ a₀.toList, P p.1) (hn : lo + n ≤ a₀.size) (hok : ok ≤ n) (B : TB a₀ st) (hs : Seg lt (arrOf st) lo (lo + ok))
    (h : ∀ st', TB a₀ st' → Out lo (lo + n) st st' → Seg lt (arrOf st') lo (lo + n) → Q true st') : wpS (model prog w) A E s (binarySort' lo n ok) Q st := by
  rw [binarySort'_eq]
  refine wpS_bind (wpS_mono (wpS_forRange (I := fun k c st' => c = (none, ()) ∧ TB a₀ st' ∧ Out lo (lo + n) st st' ∧ Seg lt (arrOf st') lo (lo + min k n))
    (Q := fun c st' => c = (none, ()) ∧ TB a₀ st' ∧ Out lo (lo + n) st st' ∧ Seg lt (arrOf st') lo (lo + n)) ?step ?fin ?init) ?post)
  case post =>
    rintro c st' ⟨rfl, B', o', s'⟩
    exact wpS_pure (h st' B' o' s')
  case init =>
    refine ⟨rfl, B, Out.refl _ _ _, fun i j h1 h2 h3 => ?_⟩
    by_cases h0 : ok = 0
    · have : i = j := by omega
      subst this; exact O.refl _
    · exact hs i j h1 h2 (by omega)
  case fin =>
    rintro c st' ⟨hc, B', o', s'⟩
    refine ⟨hc, B', o', ?_⟩
    rwa [show min (max (max ok 1) n) n = n by omega] at s'
  case step =>
    rintro k c st' hak hkn ⟨rfl, B', o', s'⟩
    rw [show min k n = k by omega] at s'
    refine wpS_bind (wpS_mono (wpS_forRange (I := fun x c st'' => st'' = st' ∧ ∃ l r, c = (none, l, r) ∧ l ≤ r ∧ r ≤ k ∧ r - l ≤ k - x ∧
        (∀ i, i < l → lt (key (arrOf st') (lo + k)) (key (arrOf st') (lo + i)) = false) ∧ (∀ i, r ≤ i → i < k → lt (key (arrOf st') (lo + i)) (key (arrOf st') (lo + k)) = false))
      (Q := fun c st'' => st'' = st' ∧ ∃ l r, c = (none, l, r) ∧ l ≤ k ∧
        (∀ i, i < l → lt (key (arrOf st') (lo + k)) (key (arrOf st') (lo + i)) = false) ∧ (∀ i, l ≤ i → i < k → lt (key (arrOf st') (lo + i)) (key (arrOf st') (lo + k)) = false)) ?istep ?ifin ?iinit) ?ipost)
    case iinit => exact ⟨rfl, 0, k, rfl, by omega, by omega, by omega, fun i hi => by omega, fun i h1 h2 => by omega⟩
    case ifin =>
      rintro c st'' ⟨rfl, l, r, rfl, hlr, hrk, hm, hlo, hhi⟩
      have : l = r := by omega
      subst this
      exact ⟨rfl, l, l, rfl, hrk, hlo, hhi⟩
    case istep =>
      rintro x c st'' _ hxk ⟨rfl, l, r, rfl, hlr, hrk, hm, hlo, hhi⟩
      dsimp only
      by_cases hge : l ≥ r
      · rw [if_pos hge]
        have : l = r := by omega
        subst this
        exact wpS_pure ⟨rfl, l, l, rfl, hrk, hlo, hhi⟩
      · rw [if_neg hge]
        refine wpS_bind (ws_ltAt C hP B' (by omega) (by omega) ?_)
        cases hless : lt (key (arrOf st'') (lo + k)) (key (arrOf st'') (lo + (l + r) / 2)) with
        | true =>
          refine wpS_pure ⟨rfl, l, (l + r) / 2, rfl, by omega, by omega, by omega, hlo, fun i h1 h2 => ?_⟩
          exact O.trans _ _ _ (O.asym _ _ hless) (s' (lo + (l + r) / 2) (lo + i) (by omega) (by omega) (by omega))
        | false =>
          refine wpS_pure ⟨rfl, (l + r) / 2 + 1, r, rfl, by omega, by omega, by omega, fun i h1 => ?_, hhi⟩
          exact O.trans _ _ _ (s' (lo + i) (lo + (l + r) / 2) (by omega) (by omega) (by omega)) hless
    case ipost =>
      rintro c st'' ⟨rfl, l, r, rfl, hlk, hlo, hhi⟩
      show wpS _ _ _ _ (do moveDown' (lo + k) (lo + l); pure (ForInStep.yield (none, ()))) _ _
      rw [moveDown'_eq]
      have hks : lo + k < (arrOf st'').size := by rw [B'.size]; omega
      have gb := getElem?_bubble hks (lo + k - (lo + l)) (by omega)
      have gk : ∀ j, key (bubble (arrOf st'') (lo + k) (lo + k - (lo + l))) j = if j = lo + l then key (arrOf st'') (lo + k) else if lo + l < j ∧ j ≤ lo + k then key (arrOf st'') (j - 1) else key (arrOf st'') j := by
        intro j
        have e := gb j
        rw [show lo + k - (lo + k - (lo + l)) = lo + l by omega] at e
        split
        · rename_i h1; rw [if_pos h1] at e; exact key_congr e
        · rename_i h1
          rw [if_neg h1] at e
          split
          · rename_i h2; rw [if_pos h2] at e; exact key_congr e
          · rename_i h2; rw [if_neg h2] at e; exact key_congr e
      refine wpS_bind (wpS_modify (wpS_pure ⟨rfl, B'.arr (bubble_perm _ _ _), o'.trans ⟨fun j hj => ?_, rfl⟩, ?_⟩))
      · show (bubble (arrOf st'') (lo + k) (lo + k - (lo + l)))[j]? = _
        rw [gb j, if_neg (by omega), if_neg (by omega)]
      · rw [show min (k + 1) n = k + 1 by omega]
        have hlo' : ∀ i, lo ≤ i → i < lo + l → lt (key (arrOf st'') (lo + k)) (key (arrOf st'') i) = false := fun i h1 h2 => by
          obtain ⟨i', rfl⟩ := Nat.exists_eq_add_of_le h1
          exact hlo i' (Nat.lt_of_add_lt_add_left h2)
        have hhi' : ∀ i, lo + l ≤ i → i < lo + k → lt (key (arrOf st'') i) (key (arrOf st'') (lo + k)) = false := fun i h1 h2 => by
          obtain ⟨i', rfl⟩ := Nat.exists_eq_add_of_le (Nat.le_trans (Nat.le_add_right _ _) h1)
          exact hhi i' (Nat.le_of_add_le_add_left h1) (Nat.lt_of_add_lt_add_left h2)
        exact seg_insert O (Nat.le_add_right _ _) (Nat.add_le_add_left hlk _) s' hlo' hhi' gk
end
end Mine
end
section
open PySem PySem.W PyProof.Rows PySem.Calls
namespace Mine
section
variable {prog : Program} {w : World} {A : Around} {E : Value → Shared → Prop} {s : Shared} {a₀ : Array Keyed} {lt : Value → Value → Bool} {P : Value → Prop}

theorem cut_at {α : Type} {F : α → Prop} {G : Prop} {D : α} (h1 : F D → G) (h2 : F D) : G := h1 h2

theorem Seg.one (O : Ord lt) (xs : Array Keyed) (lo : Nat) : Seg lt xs lo (lo + 1) := fun i j h1 h2 h3 => by
  have : i = j := by omega
  subst this; exact O.refl _
theorem Seg.more (O : Ord lt) {xs : Array Keyed} {lo n : Nat} (h0 : lo < n) (h : Seg lt xs lo n) (hn : lt (key xs n) (key xs (n - 1)) = false) : Seg lt xs lo (n + 1) := fun i j h1 h2 h3 => by
  by_cases hj : j < n
  · exact h i j h1 h2 hj
  · have : j = n := by omega
    subst this
    by_cases hi : i = j
    · subst hi; exact O.refl _
    · exact O.trans _ _ _ (h i (j - 1) h1 (by omega) (by omega)) hn
theorem Fall.more (O : Ord lt) {xs : Array Keyed} {lo n : Nat} (h0 : lo < n) (h : Fall lt xs lo n) (hn : lt (key xs (n - 1)) (key xs n) = false) : Fall lt xs lo (n + 1) := fun i j h1 h2 h3 => by
  by_cases hj : j < n
  · exact h i j h1 h2 hj
  · have : j = n := by omega
    subst this
    by_cases hi : i = j
    · subst hi; exact O.refl _
    · exact O.trans _ _ _ hn (h i (j - 1) h1 (by omega) (by omega))

theorem Fall.alike (O : Ord lt) {xs ys : Array Keyed} {lo hi : Nat} (h : Fall lt xs lo hi) (he : ∀ k, lo ≤ k → k < hi → lt (key ys k) (key xs k) = false ∧ lt (key xs k) (key ys k) = false) : Fall lt ys lo hi := fun i j h1 h2 h3 =>
  O.trans _ _ _ (O.trans _ _ _ (he j (by omega) h3).2 (h i j h1 h2 h3)) (he i h1 (by omega)).1
/-- the alike tail of a falling row turned round -/
theorem ws_revTail {st : SortSt} {lo m q : Nat} {Q : Unit → SortSt → Prop} (O : Ord lt) (B : TB a₀ st) (hm : lo + m ≤ a₀.size) (hq : q + 1 ≤ m) (F : Fall lt (arrOf st) lo (lo + m))
    (he : ∀ i, lo + m - (q + 1) ≤ i → i < lo + m → lt (key (arrOf st) (lo + m - 1)) (key (arrOf st) i) = false)
    (h : ∀ st', TB a₀ st' → Out lo (lo + m) st st' → Fall lt (arrOf st') lo (lo + m) → (∀ k, lo + m ≤ k → key (arrOf st') k = key (arrOf st) k) →
      lt (key (arrOf st') (lo + m - 1)) (key (arrOf st) (lo + m - 1)) = false → Q () st') :
    wpS (model prog w) A E s (reverseSlice' (lo + m - (q + 1)) (lo + m)) Q st := by
  refine ws_rev B hm fun st' B' o' k' => ?_
  have al : ∀ i j, lo + m - (q + 1) ≤ i → i < lo + m → lo + m - (q + 1) ≤ j → j < lo + m → lt (key (arrOf st) i) (key (arrOf st) j) = false := fun i j i1 i2 j1 j2 =>
    O.trans _ _ _ (he j j1 j2) (F i (lo + m - 1) (by omega) (by omega) (by omega))
  have al' : ∀ k, lo ≤ k → k < lo + m → lt (key (arrOf st') k) (key (arrOf st) k) = false ∧ lt (key (arrOf st) k) (key (arrOf st') k) = false := fun k h1 h2 => by
    rw [k']
    split
    · exact ⟨al _ _ (by omega) (by omega) (by omega) (by omega), al _ _ (by omega) (by omega) (by omega) (by omega)⟩
    · exact ⟨O.refl _, O.refl _⟩
  refine h st' B' (o'.wide (by omega) (Nat.le_refl _)) (F.alike O al') (fun k hk => ?_) (al' (lo + m - 1) (by omega) (by omega)).1
  rw [k', if_neg (by omega)]
theorem ws_countRun {st : SortSt} {lo nrem : Nat} {Q : Option Nat → SortSt → Prop} (O : Ord lt) (C : CmpOk prog w A s lt P) (hP : ∀ p ∈ a₀.toList, P p.1) (hn : lo + nrem ≤ a₀.size) (h1 : 1 ≤ nrem) (B : TB a₀ st)
    (h : ∀ m st', TB a₀ st' → Out lo (lo + nrem) st st' → 1 ≤ m → m ≤ nrem → Seg lt (arrOf st') lo (lo + m) → Q (some m) st') : wpS (model prog w) A E s (countRun' lo nrem) Q st := by
  rw [countRun'_eq]
  refine wpS_bind (wpS_mono (wpS_forRange (I := fun x c st' => st' = st ∧ c = (none, x) ∧ Seg lt (arrOf st) lo (lo + x) ∧ x ≤ nrem)
    (Q := fun c st' => st' = st ∧ ∃ n, c = (none, n) ∧ 1 ≤ n ∧ n ≤ nrem ∧ Seg lt (arrOf st) lo (lo + n) ∧ (n < nrem → lt (key (arrOf st) (lo + n)) (key (arrOf st) (lo + n - 1)) = true)) ?step ?fin ⟨rfl, rfl, Seg.one O _ _, h1⟩) ?post)
  case step =>
    rintro x c st' hx1 hx2 ⟨rfl, rfl, hs, hx⟩
    dsimp only
    refine wpS_bind (ws_ltAt (i := lo + x) (j := lo + x - 1) C hP B (by omega) (by omega) ?_)
    cases hl : lt (key (arrOf st') (lo + x)) (key (arrOf st') (lo + x - 1)) with
    | true => exact wpS_pure ⟨rfl, x, rfl, hx1, hx, hs, fun _ => hl⟩
    | false => exact wpS_pure ⟨rfl, rfl, (show Seg lt _ lo (lo + x + 1) from Seg.more O (by omega) hs hl), by omega⟩
  case fin =>
    rintro c st' ⟨rfl, rfl, hs, hx⟩
    have e : max 1 nrem = nrem := by omega
    rw [e] at hs ⊢
    exact ⟨rfl, nrem, rfl, h1, Nat.le_refl _, hs, fun h => absurd h (Nat.lt_irrefl _)⟩
  case post =>
    rintro c st' ⟨rfl, n, rfl, n1, n2, hs, hlast⟩
    dsimp only
    by_cases hnn : n = nrem
    · subst hnn
      rw [if_pos (by simp)]
      exact wpS_pure (h n st' B (Out.refl _ _ _) n1 (Nat.le_refl _) hs)
    have hl := hlast (by omega)
    rw [if_neg (by simpa using hnn)]
    apply cut_at (F := fun D : StateT SortSt Sem (Option Nat) => ∀ st2 : SortSt, TB a₀ st2 → Out lo (lo + nrem) st' st2 → Fall lt (arrOf st2) lo (lo + n + 1) → wpS (model prog w) A E s D Q st2)
    · intro desc
      rcases Nat.lt_or_ge 1 n with hgt | hle
      · rw [if_pos hgt]
        refine wpS_bind (ws_ltAt (i := lo) (j := lo + n - 1) C hP B (by omega) (by omega) ?_)
        cases hr : lt (key (arrOf st') lo) (key (arrOf st') (lo + n - 1)) with
        | true => exact wpS_pure (h n st' B (Out.refl _ _ _) n1 n2 hs)
        | false =>
          refine wpS_bind (ws_rev B (by omega) fun st2 B2 o2 k2 => ?_)
          replace o2 := o2.wide (lo' := lo) (hi' := lo + nrem) (Nat.le_refl _) (by omega)
          -- all of them are alike
          have eqv : ∀ i j, lo ≤ i → i < lo + n → lo ≤ j → j < lo + n → lt (key (arrOf st') i) (key (arrOf st') j) = false := fun i j i1 i2 j1 j2 =>
            O.trans _ _ _ (O.trans _ _ _ (hs j (lo + n - 1) j1 (by omega) (by omega)) hr) (hs lo i (Nat.le_refl _) i1 i2)
          have F2 : Fall lt (arrOf st2) lo (lo + n + 1) := by
            intro i j h1 h2 h3
            rw [k2, k2]
            by_cases hj : j < lo + n
            · rw [if_pos ⟨h1, by omega⟩, if_pos ⟨by omega, hj⟩]
              exact eqv _ _ (by omega) (by omega) (by omega) (by omega)
            · have : j = lo + n := by omega
              subst this
              rw [if_neg (show ¬ (lo ≤ lo + n ∧ lo + n < lo + n) by omega)]
              by_cases hi : i < lo + n
              · rw [if_pos ⟨h1, hi⟩]
                exact O.trans _ _ _ (O.asym _ _ hl) (eqv _ _ (by omega) (by omega) (by omega) (by omega))
              · have : i = lo + n := by omega
                subst this
                rw [if_neg (show ¬ (lo ≤ lo + n ∧ lo + n < lo + n) by omega)]; exact O.refl _
          exact desc st2 B2 o2 F2
      · rw [if_neg (by omega)]
        exact desc st' B (Out.refl _ _ _) (Fall.more O (by omega) (fun i j h1 h2 h3 => by
          have : i = j := by omega
          subst this; exact O.refl _) (O.asym _ _ hl))
    · intro st2 B2 o2 F2
      refine wpS_bind (wpS_lift (wpAny_rule ⟨rfl, ?_⟩))
      refine wpS_bind (wpS_mono (wpS_forRange (I := fun x c st3 => ∃ q, c = (none, x, q) ∧ x ≤ nrem ∧ TB a₀ st3 ∧ Out lo (lo + nrem) st' st3 ∧ Fall lt (arrOf st3) lo (lo + x) ∧ q + 1 ≤ x ∧
          ∀ i, lo + x - (q + 1) ≤ i → i < lo + x → lt (key (arrOf st3) (lo + x - 1)) (key (arrOf st3) i) = false)
        (Q := fun c st3 => ∃ m q, c = (none, m, q) ∧ 1 ≤ m ∧ m ≤ nrem ∧ TB a₀ st3 ∧ Out lo (lo + nrem) st' st3 ∧ Fall lt (arrOf st3) lo (lo + m) ∧ q + 1 ≤ m ∧
          ∀ i, lo + m - (q + 1) ≤ i → i < lo + m → lt (key (arrOf st3) (lo + m - 1)) (key (arrOf st3) i) = false) ?dstep ?dfin ?dinit) ?dpost)
      case dinit =>
        refine ⟨0, rfl, by omega, B2, o2, F2, by omega, fun i i1 i2 => ?_⟩
        have : i = lo + (n + 1) - 1 := by omega
        subst this; exact O.refl _
      case dfin =>
        rintro c st3 ⟨q, rfl, hx, B3, o3, F3, hq, he⟩
        have e : max (n + 1) nrem = nrem := by omega
        generalize max (n + 1) nrem = y at *
        subst e
        exact ⟨_, q, rfl, h1, Nat.le_refl _, B3, o3, F3, hq, he⟩
      case dstep =>
        rintro x c st3 hx1 hx2 ⟨q, rfl, hx, B3, o3, F3, hq, he⟩
        dsimp only
        refine wpS_bind (ws_ltAt (i := lo + x) (j := lo + x - 1) C hP B3 (by omega) (by omega) ?_)
        cases hsm : lt (key (arrOf st3) (lo + x)) (key (arrOf st3) (lo + x - 1)) with
        | true =>
          dsimp only
          rw [if_pos rfl]
          by_cases hq0 : q > 0
          · rw [if_pos hq0]
            refine wpS_bind (ws_revTail O B3 (by omega) hq F3 he fun st4 B4 o4 F4 k4 l4 => wpS_pure ⟨0, rfl, by omega, B4, o3.trans (o4.wide (Nat.le_refl _) (by omega)), ?_, by omega, fun i i1 i2 => ?_⟩)
            · refine Fall.more (n := lo + x) O (by omega) F4 ?_
              rw [k4 _ (Nat.le_refl _)]
              exact O.trans _ _ _ (O.asym _ _ hsm) l4
            · have : i = lo + (x + 1) - 1 := by omega
              subst this; exact O.refl _
          · rw [if_neg hq0]
            refine wpS_pure ⟨0, rfl, by omega, B3, o3, Fall.more (n := lo + x) O (by omega) F3 (O.asym _ _ hsm), by omega, fun i i1 i2 => ?_⟩
            have : i = lo + (x + 1) - 1 := by omega
            subst this; exact O.refl _
        | false =>
          dsimp only
          rw [if_neg (by decide)]
          refine wpS_bind (ws_ltAt (i := lo + x - 1) (j := lo + x) C hP B3 (by omega) (by omega) ?_)
          cases hla : lt (key (arrOf st3) (lo + x - 1)) (key (arrOf st3) (lo + x)) with
          | true => exact wpS_pure ⟨x, q, rfl, by omega, by omega, B3, o3, F3, hq, he⟩
          | false =>
            refine wpS_pure ⟨q + 1, rfl, by omega, B3, o3, Fall.more (n := lo + x) O (by omega) F3 hla, by omega, fun i i1 i2 => ?_⟩
            show lt (key (arrOf st3) (lo + (x + 1) - 1)) (key (arrOf st3) i) = false
            rw [show lo + (x + 1) - 1 = lo + x by omega]
            by_cases hi : i = lo + x
            · subst hi; exact O.refl _
            · exact O.trans _ _ _ (he i (by omega) (by omega)) hsm
      case dpost =>
        rintro c st3 ⟨m, q, rfl, m1, m2, B3, o3, F3, hq, he⟩
        dsimp only
        apply cut_at (F := fun D : StateT SortSt Sem (Option Nat) => ∀ st4 : SortSt, TB a₀ st4 → Out lo (lo + nrem) st' st4 → Fall lt (arrOf st4) lo (lo + m) → wpS (model prog w) A E s D Q st4)
        · intro fin
          by_cases hq0 : q > 0
          · rw [if_pos hq0]
            exact wpS_bind (ws_revTail O B3 (by omega) hq F3 he fun st4 B4 o4 F4 k4 l4 => fin st4 B4 (o3.trans (o4.wide (Nat.le_refl _) (by omega))) F4)
          · rw [if_neg hq0]
            exact fin st3 B3 o3 F3
        · intro st4 B4 o4 F4
          refine wpS_bind (ws_rev B4 (by omega) fun st5 B5 o5 k5 => ?_)
          have S5 : Seg lt (arrOf st5) lo (lo + m) := fun i j h1 h2 h3 => by
            rw [k5, k5, if_pos ⟨by omega, h3⟩, if_pos ⟨h1, by omega⟩]
            exact F4 _ _ (by omega) (by omega) (by omega)
          have o5' : Out lo (lo + nrem) st' st5 := o4.trans (o5.wide (Nat.le_refl _) (by omega))
          refine wpS_bind (wpS_mono (wpS_forRange (I := fun x c st6 => st6 = st5 ∧ c = (none, x) ∧ Seg lt (arrOf st5) lo (lo + x) ∧ x ≤ nrem)
            (Q := fun c st6 => st6 = st5 ∧ ∃ k, c = (none, k) ∧ 1 ≤ k ∧ k ≤ nrem ∧ Seg lt (arrOf st5) lo (lo + k)) ?_ ?_ ⟨rfl, rfl, S5, m2⟩) ?_)
          · rintro x c st6 hx1 hx2 ⟨rfl, rfl, hs6, hx⟩
            dsimp only
            refine wpS_bind (ws_ltAt (i := lo + x) (j := lo + x - 1) C hP B5 (by omega) (by omega) ?_)
            cases hl6 : lt (key (arrOf st6) (lo + x)) (key (arrOf st6) (lo + x - 1)) with
            | true => exact wpS_pure ⟨rfl, x, rfl, by omega, hx, hs6⟩
            | false => exact wpS_pure ⟨rfl, rfl, (show Seg lt _ lo (lo + x + 1) from Seg.more O (by omega) hs6 hl6), by omega⟩
          · rintro c st6 ⟨rfl, rfl, hs6, hx⟩
            have e : max m nrem = nrem := by omega
            rw [e] at hs6 ⊢
            exact ⟨rfl, nrem, rfl, h1, Nat.le_refl _, hs6⟩
          · rintro c st6 ⟨rfl, k, rfl, k1, k2, hs6⟩
            exact wpS_pure (h k st6 B5 o5' k1 k2 hs6)
end
end Mine
end
section
open PySem PySem.W PyProof.Rows PySem.Calls
namespace Mine
def gallop' : Bool → Keyed → Array Keyed → Nat → Nat → Nat → StateT SortSt Sem (Option Nat) := sortPriv% PySem.Builtin.gallop
section
variable {prog : Program} {w : World} {A : Around} {E : Value → Shared → Prop} {s : Shared} {a₀ : Array Keyed} {lt : Value → Value → Bool} {P : Value → Prop}

/-- the item lies before the place of k -/
def Bd (lt : Value → Value → Bool) (left : Bool) (k : Value) (x : Value) : Bool := if left then lt x k else !lt k x

theorem ws_beyond {st : SortSt} {left : Bool} {k p : Keyed} {arr : Array Keyed} {i : Nat} {Q : Option Bool → SortSt → Prop} (C : CmpOk prog w A s lt P) (hk : kindOf st = oneType') (hkey : P k.1) (e : arr[i]? = some p) (hp : P p.1)
    (h : Q (some (Bd lt left k.1 (key arr i))) st) : wpS (model prog w) A E s (elem' arr i >>= fun x => if left = true then lt' x k else lt' k x >>= fun r => pure (r.map fun x => !x)) Q st := by
  have hkp : key arr i = p.1 := by unfold key; rw [e]
  rw [hkp] at h
  refine wpS_bind (ws_elem e ?_)
  cases left with
  | true => rw [if_pos rfl]; exact ws_lt C hk hp hkey h
  | false => rw [if_neg (by decide)]; exact wpS_bind (ws_lt C hk hkey hp (wpS_pure h))
theorem ws_gallop {st : SortSt} {left : Bool} {k : Keyed} {arr : Array Keyed} {base n hint : Nat} {Q : Option Nat → SortSt → Prop} (C : CmpOk prog w A s lt P) (hk : kindOf st = oneType') (hkey : P k.1)
    (harr : ∀ i, i < n → ∃ p, arr[base + i]? = some p ∧ P p.1) (hh : hint < n) (mono : ∀ i j, i ≤ j → j < n → Bd lt left k.1 (key arr (base + j)) = true → Bd lt left k.1 (key arr (base + i)) = true)
    (h : ∀ m, m ≤ n → (∀ i, i < m → Bd lt left k.1 (key arr (base + i)) = true) → (∀ i, m ≤ i → i < n → Bd lt left k.1 (key arr (base + i)) = false) → Q (some m) st) :
    wpS (model prog w) A E s (gallop' left k arr base n hint) Q st := by
  generalize hB : (fun i => Bd lt left k.1 (key arr (base + i))) = b
  have eB : ∀ i, Bd lt left k.1 (key arr (base + i)) = b i := fun i => congrFun hB i
  simp only [eB] at mono h
  have bd : ∀ (i : Nat) (Q' : Option Bool → SortSt → Prop), i < n → Q' (some (b i)) st → wpS (model prog w) A E s (elem' arr (base + i) >>= fun x => if left = true then lt' x k else lt' k x >>= fun r => pure (r.map fun x => !x)) Q' st := by
    intro i Q' hi hQ
    obtain ⟨p, e, hp⟩ := harr i hi
    exact ws_beyond C hk hkey e hp (by rw [eB]; exact hQ)
  · refine wpS_bind (bd hint _ hh ?_)
    dsimp only
    apply cut_at (F := fun T : Nat → Nat → StateT SortSt Sem (Option Nat) => ∀ lo hi, lo ≤ hi → hi ≤ n → (∀ i, i < lo → b i = true) → (∀ i, hi ≤ i → i < n → b i = false) → wpS (model prog w) A E s (T lo hi) Q st)
    · intro tail
      cases hr : b hint with
      | true =>
        rw [if_pos rfl]
        refine wpS_bind (wpS_mono (wpS_forRange (I := fun x c st' => st' = st ∧ ∃ l o, c = (none, l, o) ∧ l < o ∧ x + 1 ≤ o ∧ hint + l < n ∧ b (hint + l) = true)
          (Q := fun c st' => st' = st ∧ ∃ l o, c = (none, l, o) ∧ l < o ∧ hint + l < n ∧ b (hint + l) = true ∧ (n - hint ≤ o ∨ b (hint + o) = false)) ?_ ?_ ⟨rfl, 0, 1, rfl, by omega, by omega, by omega, hr⟩) ?_)
        · rintro x c st' _ hx ⟨rfl, l, o, rfl, h1, h2, h3, h4⟩
          dsimp only
          by_cases hm : o ≥ n - hint
          · rw [if_pos hm]; exact wpS_pure ⟨rfl, l, o, rfl, h1, h3, h4, Or.inl hm⟩
          · rw [if_neg hm]
            refine wpS_bind (bd (hint + o) _ (by omega) ?_)
            cases hmo : b (hint + o) with
            | false => exact wpS_pure ⟨rfl, l, o, rfl, h1, h3, h4, Or.inr hmo⟩
            | true => exact wpS_pure ⟨rfl, o, 2 * o + 1, rfl, by omega, by omega, by omega, hmo⟩
        · rintro c st' ⟨rfl, l, o, rfl, h1, h2, h3, h4⟩
          exact ⟨rfl, l, o, rfl, h1, h3, h4, Or.inl (by omega)⟩
        · rintro c st' ⟨rfl, l, o, rfl, h1, h3, h4, h5⟩
          dsimp only
          generalize e1 : hint + l + 1 = lo'
          generalize e2 : hint + min o (n - hint) = hi'
          exact tail lo' hi' (by omega) (by omega) (fun i hi => mono i (hint + l) (by omega) h3 h4) (fun i i1 i2 => by
            rcases h5 with h5 | h5
            · omega
            · rcases Nat.lt_or_ge o (n - hint) with h6 | h6
              · cases hbi : b i with
                | false => rfl
                | true => rw [mono (hint + o) i (by omega) i2 hbi] at h5; cases h5
              · omega)
      | false =>
        rw [if_neg (by decide)]
        refine wpS_bind (wpS_mono (wpS_forRange (I := fun x c st' => st' = st ∧ ∃ l o, c = (none, l, o) ∧ l < o ∧ x + 1 ≤ o ∧ l ≤ hint ∧ b (hint - l) = false)
          (Q := fun c st' => st' = st ∧ ∃ l o, c = (none, l, o) ∧ l < o ∧ l ≤ hint ∧ b (hint - l) = false ∧ (hint + 1 ≤ o ∨ b (hint - o) = true)) ?_ ?_ ⟨rfl, 0, 1, rfl, by omega, by omega, by omega, hr⟩) ?_)
        · rintro x c st' _ hx ⟨rfl, l, o, rfl, h1, h2, h3, h4⟩
          dsimp only
          by_cases hm : o ≥ hint + 1
          · rw [if_pos hm]; exact wpS_pure ⟨rfl, l, o, rfl, h1, h3, h4, Or.inl hm⟩
          · rw [if_neg hm]
            refine wpS_bind (bd (hint - o) _ (by omega) ?_)
            cases hmo : b (hint - o) with
            | true => exact wpS_pure ⟨rfl, l, o, rfl, h1, h3, h4, Or.inr hmo⟩
            | false => exact wpS_pure ⟨rfl, o, 2 * o + 1, rfl, by omega, by omega, by omega, hmo⟩
        · rintro c st' ⟨rfl, l, o, rfl, h1, h2, h3, h4⟩
          exact ⟨rfl, l, o, rfl, h1, h3, h4, Or.inl (by omega)⟩
        · rintro c st' ⟨rfl, l, o, rfl, h1, h3, h4, h5⟩
          dsimp only
          generalize e1 : hint + 1 - min o (hint + 1) = lo'
          generalize e2 : hint - l = hi'
          exact tail lo' hi' (by omega) (by omega) (fun i hi => by
            rcases h5 with h5 | h5
            · omega
            · rcases Nat.lt_or_ge o (hint + 1) with h6 | h6
              · exact mono i (hint - o) (by omega) (by omega) h5
              · omega) (fun i i1 i2 => by
            cases hbi : b i with
            | false => rfl
            | true => rw [mono (hint - l) i (by omega) i2 hbi] at h4; cases h4)
    · intro lo hi h1 h2 h3 h4
      refine wpS_bind (wpS_mono (wpS_forRange (I := fun x c st' => st' = st ∧ ∃ lo hi, c = (none, lo, hi) ∧ lo ≤ hi ∧ hi ≤ n ∧ hi - lo ≤ n - x ∧ (∀ i, i < lo → b i = true) ∧ (∀ i, hi ≤ i → i < n → b i = false))
        (Q := fun c st' => st' = st ∧ ∃ hi, c = (none, hi, hi) ∧ hi ≤ n ∧ (∀ i, i < hi → b i = true) ∧ (∀ i, hi ≤ i → i < n → b i = false)) ?_ ?_ ⟨rfl, lo, hi, rfl, h1, h2, by omega, h3, h4⟩) ?_)
      · rintro x c st' _ hx ⟨rfl, lo, hi, rfl, g1, g2, g3, g4, g5⟩
        dsimp only
        by_cases hge : lo ≥ hi
        · rw [if_pos hge]
          have : lo = hi := by omega
          subst this
          exact wpS_pure ⟨rfl, lo, rfl, g2, g4, g5⟩
        · rw [if_neg hge]
          refine wpS_bind (bd (lo + (hi - lo) / 2) _ (by omega) ?_)
          cases hm : b (lo + (hi - lo) / 2) with
          | true => exact wpS_pure ⟨rfl, _, hi, rfl, by omega, by omega, by omega, fun i hi' => mono i _ (by omega) (by omega) hm, g5⟩
          | false =>
            refine wpS_pure ⟨rfl, lo, _, rfl, by omega, by omega, by omega, g4, fun i i1 i2 => ?_⟩
            cases hbi : b i with
            | false => rfl
            | true => rw [mono _ i i1 i2 hbi] at hm; cases hm
      · rintro c st' ⟨rfl, lo, hi, rfl, g1, g2, g3, g4, g5⟩
        have : lo = hi := by omega
        subst this
        exact ⟨rfl, lo, rfl, g2, g4, g5⟩
      · rintro c st' ⟨rfl, m, rfl, g2, g4, g5⟩
        exact wpS_pure (h m g2 g4 g5)
end
end Mine
end
section
open PySem PySem.W PyProof.Rows PySem.Calls
namespace Mine
section
variable {α : Type} {R : α → α → Prop} {A B : List α}

/-- out holds the first ia of A and the first ib of B, in order, and nothing that waits comes before it -/
structure MInv (R : α → α → Prop) (A B out : List α) (ia ib : Nat) : Prop where
  la : ia ≤ A.length
  lb : ib ≤ B.length
  perm : out.Perm (A.take ia ++ B.take ib)
  pw : out.Pairwise R
  ca : ∀ p ∈ out, ∀ q ∈ A.drop ia, R p q
  cb : ∀ p ∈ out, ∀ q ∈ B.drop ib, R p q
def Res (R : α → α → Prop) (A B r : List α) : Prop := r.Perm (A ++ B) ∧ r.Pairwise R

theorem MInv.symm {out : List α} {ia ib : Nat} (h : MInv R A B out ia ib) : MInv R B A out ib ia :=
  ⟨h.lb, h.la, h.perm.trans List.perm_append_comm, h.pw, h.cb, h.ca⟩
theorem Res.symm {r : List α} (h : Res R A B r) : Res R B A r := ⟨h.1.trans List.perm_append_comm, h.2⟩

theorem MInv.takes {out : List α} {ia ib : Nat} (h : MInv R A B out ia ib) (hA : A.Pairwise R) {k : Nat} (hk : ia + k ≤ A.length) (hc : ∀ z ∈ (A.drop ia).take k, ∀ q ∈ B.drop ib, R z q) :
    MInv R A B (out ++ (A.drop ia).take k) (ia + k) ib := by
  have e : A.take (ia + k) = A.take ia ++ (A.drop ia).take k := by rw [List.take_add]
  refine ⟨hk, h.lb, ?_, ?_, ?_, ?_⟩
  · rw [e, List.append_assoc]
    exact (List.Perm.append_right _ h.perm).trans (by
      rw [List.append_assoc]
      exact List.Perm.append_left _ List.perm_append_comm)
  · refine List.pairwise_append.mpr ⟨h.pw, (hA.drop).take, fun p hp q hq => h.ca p hp q (List.mem_of_mem_take hq)⟩
  · intro p hp q hq
    rcases List.mem_append.mp hp with hp | hp
    · refine h.ca p hp q ?_
      rw [← List.drop_drop] at hq
      exact List.mem_of_mem_drop hq
    · have hd : (A.drop ia).Pairwise R := hA.drop
      rw [← List.take_append_drop k (A.drop ia)] at hd
      rw [← List.drop_drop] at hq
      exact (List.pairwise_append.mp hd).2.2 p hp q hq
  · intro p hp q hq
    rcases List.mem_append.mp hp with hp | hp
    · exact h.cb p hp q hq
    · exact hc p hp q hq
theorem take1 {A : List α} {i : Nat} {p : α} (h : A[i]? = some p) : (A.drop i).take 1 = [p] := by
  obtain ⟨hi, e⟩ := List.getElem?_eq_some_iff.mp h
  rw [List.drop_eq_getElem_cons hi, e]; rfl
theorem MInv.take {out : List α} {ia ib : Nat} (h : MInv R A B out ia ib) (hA : A.Pairwise R) {p : α} (hp : A[ia]? = some p) (hc : ∀ q ∈ B.drop ib, R p q) :
    MInv R A B (out ++ [p]) (ia + 1) ib := by
  obtain ⟨hi, e⟩ := List.getElem?_eq_some_iff.mp hp
  have := h.takes hA (k := 1) (by omega) (by rw [take1 hp]; intro z hz; rw [List.mem_singleton] at hz; subst hz; exact hc)
  rwa [take1 hp] at this
theorem MInv.fin {out : List α} {ia ib : Nat} (h : MInv R A B out ia ib) (hA : A.Pairwise R) (hB : B.Pairwise R) (hc : ∀ p ∈ A.drop ia, ∀ q ∈ B.drop ib, R p q) : Res R A B (out ++ A.drop ia ++ B.drop ib) := by
  refine ⟨?_, ?_⟩
  · have e1 := List.take_append_drop ia A
    have e2 := List.take_append_drop ib B
    have : (A ++ B).Perm (A.take ia ++ B.take ib ++ (A.drop ia ++ B.drop ib)) := by
      conv => lhs; rw [← e1, ← e2]
      rw [List.append_assoc, List.append_assoc]
      refine List.Perm.append_left _ ?_
      rw [← List.append_assoc, ← List.append_assoc]
      exact List.Perm.append_right _ List.perm_append_comm
    rw [List.append_assoc]
    exact (List.Perm.append_right _ h.perm).trans this.symm
  · refine List.pairwise_append.mpr ⟨List.pairwise_append.mpr ⟨h.pw, hA.drop, h.ca⟩, hB.drop, fun p hp q hq => ?_⟩
    rcases List.mem_append.mp hp with hp | hp
    · exact h.cb p hp q hq
    · exact hc p hp q hq
theorem MInv.start (R : α → α → Prop) (A B : List α) : MInv R A B [] 0 0 := ⟨by omega, by omega, by simp, .nil, fun _ h => by simp at h, fun _ h => by simp at h⟩

theorem mem_drop_iff {A : List α} {i : Nat} {q : α} : q ∈ A.drop i ↔ ∃ j, i ≤ j ∧ A[j]? = some q := by
  constructor
  · intro h
    obtain ⟨k, hk⟩ := List.getElem?_of_mem h
    rw [List.getElem?_drop] at hk
    exact ⟨i + k, by omega, hk⟩
  · rintro ⟨j, hj, e⟩
    refine List.mem_of_getElem? (i := j - i) ?_
    rw [List.getElem?_drop, show i + (j - i) = j by omega]; exact e
theorem mem_take_drop {A : List α} {i k : Nat} {q : α} (h : q ∈ (A.drop i).take k) : ∃ j, j < k ∧ A[i + j]? = some q := by
  obtain ⟨j, hj⟩ := List.getElem?_of_mem h
  rw [List.getElem?_take] at hj
  split at hj
  · rename_i h1
    rw [List.getElem?_drop] at hj
    exact ⟨j, h1, hj⟩
  · cases hj
theorem pw_get {A : List α} (h : A.Pairwise R) {i j : Nat} {p q : α} (hij : i < j) (hp : A[i]? = some p) (hq : A[j]? = some q) : R p q := by
  obtain ⟨h1, rfl⟩ := List.getElem?_eq_some_iff.mp hp
  obtain ⟨h2, rfl⟩ := List.getElem?_eq_some_iff.mp hq
  exact List.pairwise_iff_getElem.mp h i j h1 h2 hij
end
end Mine
end
section
open PySem PySem.W PyProof.Rows PySem.Calls
namespace Mine
def mergeLo' : Array Keyed → Array Keyed → StateT SortSt Sem (Array Keyed) := sortPriv% PySem.Builtin.mergeLo
/-- p may stand before q -/
def RK (lt : Value → Value → Bool) (p q : Keyed) : Prop := lt q.1 p.1 = false
/-- all but the gallop's mark is as it was -/
structure SameS (st st' : SortSt) : Prop where
  kind : kindOf st' = kindOf st
  arr : arrOf st' = arrOf st
  pend : pendingOf st' = pendingOf st
  failed : failedOf st' = failedOf st
theorem SameS.refl (st : SortSt) : SameS st st := ⟨rfl, rfl, rfl, rfl⟩
theorem SameS.trans {a b c : SortSt} (h : SameS a b) (k : SameS b c) : SameS a c := ⟨k.kind.trans h.kind, k.arr.trans h.arr, k.pend.trans h.pend, k.failed.trans h.failed⟩

section
variable {prog : Program} {w : World} {A : Around} {E : Value → Shared → Prop} {s : Shared} {a₀ : Array Keyed} {lt : Value → Value → Bool} {P : Value → Prop}

theorem RK.trans (O : Ord lt) {p q r : Keyed} (h : RK lt p q) (k : RK lt q r) : RK lt p r := O.trans _ _ _ h k
theorem RK.of (O : Ord lt) {p q : Keyed} (h : lt p.1 q.1 = true) : RK lt p q := O.asym _ _ h
theorem key_of {xs : Array Keyed} {i : Nat} {p : Keyed} (h : xs.toList[i]? = some p) : key xs i = p.1 := by
  rw [Array.getElem?_toList] at h
  unfold key; rw [h]
theorem at_of {xs : Array Keyed} {i : Nat} (h : i < xs.size) : ∃ p, xs.toList[i]? = some p ∧ xs[i]? = some p ∧ p ∈ xs.toList := by
  refine ⟨xs[i], ?_, getElem?_pos _ i h, by simp⟩
  rw [Array.getElem?_toList]; exact getElem?_pos _ i h
theorem bd_mono (O : Ord lt) {left : Bool} {k : Value} {arr : Array Keyed} {base n : Nat} (hpw : arr.toList.Pairwise (RK lt)) (hn : base + n ≤ arr.size) :
    ∀ i j, i ≤ j → j < n → Bd lt left k (key arr (base + j)) = true → Bd lt left k (key arr (base + i)) = true := by
  intro i j hij hj hb
  rcases Nat.eq_or_lt_of_le hij with rfl | hlt
  · exact hb
  obtain ⟨p, hp, _, _⟩ := at_of (xs := arr) (i := base + i) (by omega)
  obtain ⟨q, hq, _, _⟩ := at_of (xs := arr) (i := base + j) (by omega)
  have hr : RK lt p q := pw_get hpw (by omega) hp hq
  rw [key_of hp]
  rw [key_of hq] at hb
  unfold Bd at hb ⊢
  cases left with
  | true =>
    simp only [if_true] at hb ⊢
    cases hh : lt p.1 k with
    | true => rfl
    | false => rw [O.trans _ _ _ hh hr] at hb; cases hb
  | false =>
    simp only [Bool.false_eq_true, if_false, Bool.not_eq_true'] at hb ⊢
    exact O.trans _ _ _ hr hb
theorem ws_setGallop {st : SortSt} {g : Nat} {Q : Unit → SortSt → Prop} (h : ∀ st', SameS st st' → Q () st') : wpS (model prog w) A E s ((sortPriv% PySem.Builtin.setMinGallop) g) Q st :=
  wpS_modify (h _ ⟨rfl, rfl, rfl, rfl⟩)
theorem ext_tl (xs : Array Keyed) (i : Nat) : (xs.extract i xs.size).toList = xs.toList.drop i := by
  rw [Array.toList_extract]
  show (xs.toList.drop i).take (xs.size - i) = _
  exact List.take_of_length_le (by simp)
theorem ext_tk (xs : Array Keyed) (i k : Nat) : (xs.extract i (i + k)).toList = (xs.toList.drop i).take k := by
  rw [Array.toList_extract]
  show (xs.toList.drop i).take (i + k - i) = _
  rw [show i + k - i = k by omega]

theorem ws_pos {α : Type} {c : Prop} [Decidable c] {t e : StateT SortSt Sem α} {st : SortSt} {Q : α → SortSt → Prop} (hc : c) (h : wpS (model prog w) A E s t Q st) : wpS (model prog w) A E s (if c then t else e) Q st := by rw [if_pos hc]; exact h
theorem ws_neg {α : Type} {c : Prop} [Decidable c] {t e : StateT SortSt Sem α} {st : SortSt} {Q : α → SortSt → Prop} (hc : ¬ c) (h : wpS (model prog w) A E s e Q st) : wpS (model prog w) A E s (if c then t else e) Q st := by rw [if_neg hc]; exact h

theorem ws_mergeLo {st : SortSt} {a b : Array Keyed} {Q : Array Keyed → SortSt → Prop} (O : Ord lt) (C : CmpOk prog w A s lt P) (hk : kindOf st = oneType') (hPa : ∀ p ∈ a.toList, P p.1) (hPb : ∀ p ∈ b.toList, P p.1)
    (ha : a.toList.Pairwise (RK lt)) (hb : b.toList.Pairwise (RK lt)) (na : 1 ≤ a.size) (nb : 1 ≤ b.size) (h0 : ∀ p, b.toList[0]? = some p → ∀ q ∈ a.toList, RK lt p q)
    (hl : ∀ q, a.toList[a.size - 1]? = some q → ∀ p ∈ b.toList, RK lt p q) (h : ∀ r st', SameS st st' → Res (RK lt) a.toList b.toList r.toList → Q r st') :
    wpS (model prog w) A E s (mergeLo' a b) Q st := by
  have dn : ∀ (out : Array Keyed) (ia ib : Nat), MInv (RK lt) a.toList b.toList out.toList ia ib → ia = a.size ∨ ib = b.size → Res (RK lt) a.toList b.toList (out ++ a.extract ia a.size ++ b.extract ib b.size).toList := by
    intro out ia ib M hc
    rw [Array.toList_append, Array.toList_append, ext_tl, ext_tl]
    refine M.fin ha hb fun p hp q hq => ?_
    rcases hc with rfl | rfl
    · rw [List.drop_of_length_le (Nat.le_of_eq Array.length_toList)] at hp; cases hp
    · rw [List.drop_of_length_le (Nat.le_of_eq Array.length_toList)] at hq; cases hq
  have dl : ∀ (out : Array Keyed) (ia ib : Nat), MInv (RK lt) a.toList b.toList out.toList ia ib → ia + 1 = a.size → Res (RK lt) a.toList b.toList (out ++ b.extract ib b.size ++ a.extract ia a.size).toList := by
    intro out ia ib M hc
    rw [Array.toList_append, Array.toList_append, ext_tl, ext_tl]
    refine (M.symm.fin hb ha fun p hp q hq => ?_).symm
    obtain ⟨j, hj, hq⟩ := mem_drop_iff.mp hq
    have : j < a.size := by simpa using (List.getElem?_eq_some_iff.mp hq).1
    have : j = a.size - 1 := by omega
    subst this
    exact hl q hq p (List.mem_of_mem_drop hp)
  refine wpS_bind (wpS_lift (wpAny_rule ⟨rfl, ?_⟩))
  dsimp only
  obtain ⟨b0, eb0, eb0', mb0⟩ := at_of (xs := b) (i := 0) (by omega)
  refine wpS_bind (ws_elem eb0' ?_)
  have M0 : MInv (RK lt) a.toList b.toList #[b0].toList 0 1 := (((MInv.start (RK lt) a.toList b.toList).symm).take hb eb0 (h0 b0 eb0)).symm
  by_cases hb1 : 1 = b.size
  · refine ws_pos (by simpa using hb1) ?_
    exact wpS_pure (h _ _ (SameS.refl _) (dn _ _ _ M0 (Or.inr hb1)))
  refine ws_neg (by simpa using hb1) ?_
  by_cases ha1 : 0 + 1 = a.size
  · refine ws_pos (by simpa using ha1) ?_
    exact wpS_pure (h _ _ (SameS.refl _) (dl _ _ _ M0 ha1))
  refine ws_neg (by simpa using ha1) ?_
  refine wpS_bind (wpS_get ?_)
  refine wpS_bind (wpS_mono (wpS_forRange (I := fun x c st' => SameS st st' ∧ ∃ out ia ib g, c = (none, out, ia, ib, g) ∧ MInv (RK lt) a.toList b.toList out.toList ia ib ∧ ia + 1 < a.size ∧ ib < b.size ∧ x + 1 ≤ ia + ib)
    (Q := fun c st' => SameS st st' ∧ ∃ r d, c = (some r, d) ∧ Res (RK lt) a.toList b.toList r.toList) ?_ ?_ ⟨SameS.refl _, _, 0, 1, _, rfl, M0, by omega, by omega, by omega⟩) ?_)
  · rintro x c st' _ hx ⟨S', out, ia, ib, g, rfl, M, i1, i2, hn⟩
    dsimp only
    -- one by one
    refine wpS_bind (wpS_mono (wpS_forRange (I := fun y c st' => SameS st st' ∧ ∃ out ia ib ac bc, c = (none, out, ia, ib, ac, bc) ∧ MInv (RK lt) a.toList b.toList out.toList ia ib ∧ ia + 1 < a.size ∧ ib < b.size ∧ x + 1 + y ≤ ia + ib)
      (Q := fun c st' => SameS st st' ∧ ((∃ r d, c = (some r, d) ∧ Res (RK lt) a.toList b.toList r.toList) ∨ ∃ out ia ib ac bc, c = (none, out, ia, ib, ac, bc) ∧ MInv (RK lt) a.toList b.toList out.toList ia ib ∧ ia + 1 < a.size ∧ ib < b.size ∧ x + 2 ≤ ia + ib))
      ?_ ?_ ⟨S', out, ia, ib, 0, 0, rfl, M, i1, i2, by omega⟩) ?_)
    · clear M i1 i2 hn
      rintro y c st' _ hy ⟨S', out, ia, ib, ac, bc, rfl, M, i1, i2, hn⟩
      dsimp only
      obtain ⟨p, ep, ep', mp⟩ := at_of (xs := b) (i := ib) (by omega)
      obtain ⟨q, eq, eq', mq⟩ := at_of (xs := a) (i := ia) (by omega)
      refine wpS_bind (ws_elem ep' (wpS_bind (ws_elem eq' (wpS_bind (ws_lt C (S'.kind.trans hk) (hPb p mp) (hPa q mq) ?_)))))
      cases hw : lt p.1 q.1 with
      | true =>
        dsimp only
        refine ws_pos rfl ?_
        have M' : MInv (RK lt) a.toList b.toList (out.push p).toList ia (ib + 1) := by
          rw [Array.toList_push]
          refine (M.symm.take hb ep fun z hz => ?_).symm
          obtain ⟨j, hj, ez⟩ := mem_drop_iff.mp hz
          rcases Nat.eq_or_lt_of_le hj with rfl | hj
          · rw [eq] at ez; cases ez; exact RK.of O hw
          · exact RK.trans O (RK.of O hw) (pw_get ha hj eq ez)
        refine wpS_bind (ws_elem ep' ?_)
        by_cases he : ib + 1 = b.size
        · refine ws_pos (by simpa using he) ?_
          exact wpS_pure ⟨S', Or.inl ⟨_, _, rfl, dn _ _ _ M' (Or.inr he)⟩⟩
        refine ws_neg (by simpa using he) ?_
        split
        · exact wpS_pure ⟨S', Or.inr ⟨_, _, _, _, _, rfl, M', i1, by omega, by omega⟩⟩
        · exact wpS_pure ⟨S', _, _, _, _, _, rfl, M', i1, by omega, by omega⟩
      | false =>
        dsimp only
        refine ws_neg (by decide) ?_
        have M' : MInv (RK lt) a.toList b.toList (out.push q).toList (ia + 1) ib := by
          rw [Array.toList_push]
          refine M.take ha eq fun z hz => ?_
          obtain ⟨j, hj, ez⟩ := mem_drop_iff.mp hz
          rcases Nat.eq_or_lt_of_le hj with rfl | hj
          · rw [ep] at ez; cases ez; exact hw
          · exact RK.trans O (show RK lt q p from hw) (pw_get hb hj ep ez)
        refine wpS_bind (ws_elem eq' ?_)
        by_cases he : ia + 1 + 1 = a.size
        · refine ws_pos (by simpa using he) ?_
          exact wpS_pure ⟨S', Or.inl ⟨_, _, rfl, dl _ _ _ M' he⟩⟩
        refine ws_neg (by simpa using he) ?_
        split
        · exact wpS_pure ⟨S', Or.inr ⟨_, _, _, _, _, rfl, M', by omega, i2, by omega⟩⟩
        · exact wpS_pure ⟨S', _, _, _, _, _, rfl, M', by omega, i2, by omega⟩
    · rintro c st' ⟨S', out, ia, ib, ac, bc, rfl, M, i1, i2, hn⟩
      exact ⟨S', Or.inr ⟨_, _, _, _, _, rfl, M, i1, i2, by omega⟩⟩
    clear M i1 i2 hn
    rintro c st2 ⟨S2, ⟨r, d, rfl, hr⟩ | ⟨out, ia, ib, ac, bc, rfl, M, i1, i2, hn⟩⟩
    · exact wpS_pure ⟨S2, r, _, rfl, hr⟩
    dsimp only
    refine wpS_bind (wpS_lift (wpAny_rule ⟨rfl, ?_⟩))
    -- by gallops
    refine wpS_bind (wpS_mono (wpS_forRange (I := fun y c st' => SameS st st' ∧ ∃ out ia ib g ac bc, c = (none, out, ia, ib, g, ac, bc) ∧ MInv (RK lt) a.toList b.toList out.toList ia ib ∧ ia + 1 < a.size ∧ ib < b.size ∧ x + 2 ≤ ia + ib)
      (Q := fun c st' => SameS st st' ∧ ((∃ r d, c = (some r, d) ∧ Res (RK lt) a.toList b.toList r.toList) ∨ ∃ out ia ib g ac bc, c = (none, out, ia, ib, g, ac, bc) ∧ MInv (RK lt) a.toList b.toList out.toList ia ib ∧ ia + 1 < a.size ∧ ib < b.size ∧ x + 2 ≤ ia + ib))
      ?_ ?_ ⟨S2, out, ia, ib, _, _, _, rfl, M, i1, i2, hn⟩) ?_)
    · clear M i1 i2 hn
      rintro y c st2 _ hy ⟨S2, out, ia, ib, g, ac, bc, rfl, M, i1, i2, hn⟩
      obtain ⟨post, hpost⟩ : ∃ post : ForInStep (Option (Array Keyed) × Array Keyed × Nat × Nat × Nat × Nat × Nat) → SortSt → Prop, post = fun r st' => match r with
        | .done c => SameS st st' ∧ ((∃ r d, c = (some r, d) ∧ Res (RK lt) a.toList b.toList r.toList) ∨ ∃ out ia ib g ac bc, c = (none, out, ia, ib, g, ac, bc) ∧ MInv (RK lt) a.toList b.toList out.toList ia ib ∧ ia + 1 < a.size ∧ ib < b.size ∧ x + 2 ≤ ia + ib)
        | .yield c => SameS st st' ∧ ∃ out ia ib g ac bc, c = (none, out, ia, ib, g, ac, bc) ∧ MInv (RK lt) a.toList b.toList out.toList ia ib ∧ ia + 1 < a.size ∧ ib < b.size ∧ x + 2 ≤ ia + ib := ⟨_, rfl⟩
      refine wpS_mono (Q := post) ?_ fun r st' hr => by
        rw [hpost] at hr; cases r <;> exact hr
      dsimp only
      apply cut_at (F := fun T : Nat → StateT SortSt Sem (ForInStep (Option (Array Keyed) × Array Keyed × Nat × Nat × Nat × Nat × Nat)) => ∀ g', wpS (model prog w) A E s (T g') post st2)
      · intro tail
        by_cases hg : g > 1
        · refine ws_pos hg ?_
          generalize g - 1 = g'
          exact tail g'
        · refine ws_neg hg ?_
          exact tail g
      intro g'
      refine wpS_bind (ws_setGallop fun st3 S3 => ?_)
      have S3 := S2.trans S3
      have K3 := S3.kind.trans hk
      obtain ⟨p, ep, ep', mp⟩ := at_of (xs := b) (i := ib) (by omega)
      refine wpS_bind (ws_elem ep' (wpS_bind (ws_gallop C K3 (hPb p mp) (fun i hi => ?_) (by omega) (bd_mono O ha (by omega)) fun k hk1 hk2 hk3 => ?_)))
      · obtain ⟨q, _, eq', mq⟩ := at_of (xs := a) (i := ia + i) (by omega)
        exact ⟨q, eq', hPa q mq⟩
      dsimp only
      -- what a's left ones are to p
      have hgt : ∀ j q, ia + k ≤ j → a.toList[j]? = some q → RK lt p q := fun j q hj eq => by
        have hj' : j < a.size := by simpa using (List.getElem?_eq_some_iff.mp eq).1
        have := hk3 (j - ia) (by omega) (by omega)
        rw [show ia + (j - ia) = j by omega, key_of eq] at this
        unfold Bd at this
        simp only [Bool.false_eq_true, if_false, Bool.not_eq_false'] at this
        exact RK.of O this
      have Mk : MInv (RK lt) a.toList b.toList (out ++ a.extract ia (ia + k)).toList (ia + k) ib := by
        rw [Array.toList_append, ext_tk]
        refine M.takes ha (by rw [Array.length_toList]; omega) fun z hz q hq => ?_
        obtain ⟨j, hj, ez⟩ := mem_take_drop hz
        have hz' := hk2 j hj
        rw [key_of ez] at hz'
        unfold Bd at hz'
        simp only [Bool.false_eq_true, if_false, Bool.not_eq_true'] at hz'
        obtain ⟨i, hi, eq⟩ := mem_drop_iff.mp hq
        rcases Nat.eq_or_lt_of_le hi with rfl | hi
        · rw [ep] at eq; cases eq; exact hz'
        · exact RK.trans O (show RK lt z p from hz') (pw_get hb hi ep eq)
      apply cut_at (F := fun T : Array Keyed → Nat → StateT SortSt Sem (ForInStep (Option (Array Keyed) × Array Keyed × Nat × Nat × Nat × Nat × Nat)) => ∀ out' ia', MInv (RK lt) a.toList b.toList out'.toList ia' ib → ia' + 1 < a.size → x + 2 ≤ ia' + ib → ia + k ≤ ia' → wpS (model prog w) A E s (T out' ia') post st3)
      · intro tail
        by_cases hk0 : k > 0
        · refine ws_pos hk0 ?_
          obtain ⟨out', ho⟩ : ∃ out', out' = out ++ a.extract ia (ia + k) := ⟨_, rfl⟩
          obtain ⟨ia', hia'⟩ : ∃ ia', ia' = ia + k := ⟨_, rfl⟩
          have Mk : MInv (RK lt) a.toList b.toList out'.toList ia' ib := by rw [ho, hia']; exact Mk
          rw [← ho, ← hia']
          by_cases e1 : ia' + 1 = a.size
          · refine ws_pos (by simpa using e1) ?_
            refine wpS_pure ?_
            rw [hpost]
            exact ⟨S3, Or.inl ⟨_, _, rfl, dl _ _ _ Mk e1⟩⟩
          refine ws_neg (by simpa using e1) ?_
          by_cases e2 : ia' = a.size
          · refine ws_pos (by simpa using e2) ?_
            refine wpS_pure ?_
            rw [hpost]
            exact ⟨S3, Or.inl ⟨_, _, rfl, dn _ _ _ Mk (Or.inl e2)⟩⟩
          refine ws_neg (by simpa using e2) ?_
          exact tail out' ia' Mk (by omega) (by omega) (by omega)
        · refine ws_neg hk0 ?_
          exact tail out ia M i1 hn (by omega)
      clear M Mk i1 hn
      intro out ia₂ M i1 hn hle
      refine wpS_bind (ws_elem ep' ?_)
      have M' : MInv (RK lt) a.toList b.toList (out.push p).toList ia₂ (ib + 1) := by
        rw [Array.toList_push]
        refine (M.symm.take hb ep fun z hz => ?_).symm
        obtain ⟨j, hj, ez⟩ := mem_drop_iff.mp hz
        exact hgt j z (by omega) ez
      by_cases e1 : ib + 1 = b.size
      · refine ws_pos (by simpa using e1) ?_
        refine wpS_pure ?_
        rw [hpost]
        exact ⟨S3, Or.inl ⟨_, _, rfl, dn _ _ _ M' (Or.inr e1)⟩⟩
      refine ws_neg (by simpa using e1) ?_
      obtain ⟨q, eq, eq', mq⟩ := at_of (xs := a) (i := ia₂) (by omega)
      refine wpS_bind (ws_elem eq' (wpS_bind (ws_gallop C K3 (hPa q mq) (fun i hi => ?_) (by omega) (bd_mono O hb (by omega)) fun k₂ gk1 gk2 gk3 => ?_)))
      · obtain ⟨z, _, ez', mz⟩ := at_of (xs := b) (i := ib + 1 + i) (by omega)
        exact ⟨z, ez', hPb z mz⟩
      dsimp only
      have hge : ∀ j z, ib + 1 + k₂ ≤ j → b.toList[j]? = some z → RK lt q z := fun j z hj ez => by
        have hj' : j < b.size := by simpa using (List.getElem?_eq_some_iff.mp ez).1
        have := gk3 (j - (ib + 1)) (by omega) (by omega)
        rw [show ib + 1 + (j - (ib + 1)) = j by omega, key_of ez] at this
        exact this
      have Mk : MInv (RK lt) a.toList b.toList (out.push p ++ b.extract (ib + 1) (ib + 1 + k₂)).toList ia₂ (ib + 1 + k₂) := by
        rw [Array.toList_append, ext_tk]
        refine (M'.symm.takes hb (by rw [Array.length_toList]; omega) fun z hz u hu => ?_).symm
        obtain ⟨j, hj, ez⟩ := mem_take_drop hz
        have hz' := gk2 j hj
        rw [key_of ez] at hz'
        have hz' : RK lt z q := RK.of O hz'
        obtain ⟨i, hi, eu⟩ := mem_drop_iff.mp hu
        rcases Nat.eq_or_lt_of_le hi with rfl | hi
        · rw [eq] at eu; cases eu; exact hz'
        · exact RK.trans O hz' (pw_get ha hi eq eu)
      apply cut_at (F := fun T : Array Keyed → Nat → StateT SortSt Sem (ForInStep (Option (Array Keyed) × Array Keyed × Nat × Nat × Nat × Nat × Nat)) => ∀ out' ib', MInv (RK lt) a.toList b.toList out'.toList ia₂ ib' → ib' < b.size → x + 2 ≤ ia₂ + ib' → ib + 1 + k₂ ≤ ib' → wpS (model prog w) A E s (T out' ib') post st3)
      · intro tail
        by_cases hk0 : k₂ > 0
        · refine ws_pos hk0 ?_
          obtain ⟨out', ho⟩ : ∃ out', out' = out.push p ++ b.extract (ib + 1) (ib + 1 + k₂) := ⟨_, rfl⟩
          obtain ⟨ib', hib'⟩ : ∃ ib', ib' = ib + 1 + k₂ := ⟨_, rfl⟩
          have Mk : MInv (RK lt) a.toList b.toList out'.toList ia₂ ib' := by rw [ho, hib']; exact Mk
          rw [← ho, ← hib']
          by_cases e2 : ib' = b.size
          · refine ws_pos (by simpa using e2) ?_
            refine wpS_pure ?_
            rw [hpost]
            exact ⟨S3, Or.inl ⟨_, _, rfl, dn _ _ _ Mk (Or.inr e2)⟩⟩
          refine ws_neg (by simpa using e2) ?_
          exact tail out' ib' Mk (by omega) (by omega) (by omega)
        · refine ws_neg hk0 ?_
          obtain ⟨out', ho⟩ : ∃ out', out' = out.push p := ⟨_, rfl⟩
          obtain ⟨ib', hib'⟩ : ∃ ib', ib' = ib + 1 := ⟨_, rfl⟩
          have M' : MInv (RK lt) a.toList b.toList out'.toList ia₂ ib' := by rw [ho, hib']; exact M'
          rw [← ho, ← hib']
          exact tail out' ib' M' (by omega) (by omega) (by omega)
      clear M M' Mk i2 hn e1
      intro out ib₂ M i2 hn hle2
      refine wpS_bind (ws_elem eq' ?_)
      have M' : MInv (RK lt) a.toList b.toList (out.push q).toList (ia₂ + 1) ib₂ := by
        rw [Array.toList_push]
        refine M.take ha eq fun z hz => ?_
        obtain ⟨j, hj, ez⟩ := mem_drop_iff.mp hz
        exact hge j z (by omega) ez
      by_cases e1 : ia₂ + 1 + 1 = a.size
      · refine ws_pos (by simpa using e1) ?_
        refine wpS_pure ?_
        rw [hpost]
        exact ⟨S3, Or.inl ⟨_, _, rfl, dl _ _ _ M' e1⟩⟩
      refine ws_neg (by simpa using e1) ?_
      split
      · refine wpS_pure ?_
        rw [hpost]
        exact ⟨S3, Or.inr ⟨_, _, _, _, _, _, rfl, M', by omega, i2, by omega⟩⟩
      · refine wpS_pure ?_
        rw [hpost]
        exact ⟨S3, _, _, _, _, _, _, rfl, M', by omega, i2, by omega⟩
    · rintro c st' ⟨S', out, ia, ib, g, ac, bc, rfl, M, i1, i2, hn⟩
      exact ⟨S', Or.inr ⟨_, _, _, _, _, _, rfl, M, i1, i2, hn⟩⟩
    clear M i1 i2 hn
    rintro c st3 ⟨S3, ⟨r, d, rfl, hr⟩ | ⟨out, ia, ib, g, ac, bc, rfl, M, i1, i2, hn⟩⟩
    · exact wpS_pure ⟨S3, r, _, rfl, hr⟩
    dsimp only
    refine wpS_bind (ws_setGallop fun st4 S4 => wpS_pure ⟨S3.trans S4, _, _, _, _, rfl, M, i1, i2, by omega⟩)
  · rintro c st' ⟨S', out, ia, ib, g, rfl, M, i1, i2, hn⟩
    omega
  · rintro c st' ⟨S', r, d, rfl, hr⟩
    exact wpS_pure (h r st' S' hr)
end
end Mine
end
section
open PySem PySem.W PyProof.Rows PySem.Calls
namespace Mine
section
variable {α : Type} {R : α → α → Prop} {A B : List α}
/-- the same from the end: out, read backwards, holds what lies behind the first na of A and the first nb of B -/
structure ZInv (R : α → α → Prop) (A B out : List α) (na nb : Nat) : Prop where
  la : na ≤ A.length
  lb : nb ≤ B.length
  inv : MInv (fun p q => R q p) A.reverse B.reverse out (A.length - na) (B.length - nb)
theorem ZInv.symm {out : List α} {na nb : Nat} (h : ZInv R A B out na nb) : ZInv R B A out nb na := ⟨h.lb, h.la, h.inv.symm⟩
theorem rev_drop {A : List α} {n : Nat} (h : n ≤ A.length) : A.reverse.drop (A.length - n) = (A.take n).reverse := by
  rw [List.drop_reverse, show A.length - (A.length - n) = n by omega]
theorem ZInv.takes {out : List α} {na nb i : Nat} (h : ZInv R A B out na nb) (hA : A.Pairwise R) (hi : i ≤ na) (hc : ∀ z ∈ (A.drop i).take (na - i), ∀ q ∈ B.take nb, R q z) :
    ZInv R A B (out ++ ((A.drop i).take (na - i)).reverse) i nb := by
  have e : (A.reverse.drop (A.length - na)).take (na - i) = ((A.drop i).take (na - i)).reverse := by
    rw [rev_drop h.la, List.take_reverse, List.length_take, Nat.min_eq_left h.la, show na - (na - i) = i by omega, List.drop_take]
  have := h.la
  have M := h.inv.takes (List.pairwise_reverse.mpr hA) (k := na - i) (by rw [List.length_reverse]; omega) (by
    rw [e, rev_drop h.lb]
    intro z hz q hq
    exact hc z (by simpa using hz) q (by simpa using hq))
  rw [e, show A.length - na + (na - i) = A.length - i by omega] at M
  exact ⟨by omega, h.lb, M⟩
theorem ZInv.take {out : List α} {na nb : Nat} {p : α} (h : ZInv R A B out (na + 1) nb) (hA : A.Pairwise R) (hp : A[na]? = some p) (hc : ∀ q ∈ B.take nb, R q p) :
    ZInv R A B (out ++ [p]) na nb := by
  have e : (A.drop na).take (na + 1 - na) = [p] := by rw [show na + 1 - na = 1 by omega]; exact take1 hp
  have := h.takes hA (i := na) (by omega) (by rw [e]; intro z hz; rw [List.mem_singleton] at hz; subst hz; exact hc)
  rwa [e] at this
theorem ZInv.take' {out : List α} {na nb : Nat} {p : α} (h : ZInv R A B out na nb) (hA : A.Pairwise R) (h1 : 1 ≤ na) (hp : A[na - 1]? = some p) (hc : ∀ q ∈ B.take nb, R q p) :
    ZInv R A B (out ++ [p]) (na - 1) nb := by
  obtain ⟨n, rfl⟩ : ∃ n, na = n + 1 := ⟨na - 1, by omega⟩
  rw [show n + 1 - 1 = n by omega] at hp ⊢
  exact h.take hA hp hc
theorem ZInv.fin {out : List α} {na nb : Nat} (h : ZInv R A B out na nb) (hA : A.Pairwise R) (hB : B.Pairwise R) (hc : ∀ p ∈ A.take na, ∀ q ∈ B.take nb, R p q) : Res R A B (A.take na ++ B.take nb ++ out.reverse) := by
  have := h.inv.symm.fin (List.pairwise_reverse.mpr hB) (List.pairwise_reverse.mpr hA) (by
    rw [rev_drop h.la, rev_drop h.lb]
    intro p hp q hq
    exact hc q (by simpa using hq) p (by simpa using hp))
  rw [rev_drop h.la, rev_drop h.lb] at this
  have e : A.take na ++ B.take nb ++ out.reverse = (out ++ (B.take nb).reverse ++ (A.take na).reverse).reverse := by simp
  rw [e]
  refine ⟨(List.reverse_perm _).trans (this.1.trans ?_), List.pairwise_reverse.mpr this.2⟩
  exact ((List.reverse_perm B).append (List.reverse_perm A)).trans List.perm_append_comm
theorem ZInv.start (R : α → α → Prop) (A B : List α) : ZInv R A B [] A.length B.length := ⟨Nat.le_refl _, Nat.le_refl _, by rw [Nat.sub_self, Nat.sub_self]; exact MInv.start _ _ _⟩
theorem mem_take_iff {A : List α} {n : Nat} {q : α} : q ∈ A.take n ↔ ∃ j, j < n ∧ A[j]? = some q := by
  constructor
  · intro h
    obtain ⟨k, hk⟩ := List.getElem?_of_mem h
    rw [List.getElem?_take] at hk
    split at hk
    · rename_i h1; exact ⟨k, h1, hk⟩
    · cases hk
  · rintro ⟨j, hj, e⟩
    refine List.mem_of_getElem? (i := j) ?_
    rw [List.getElem?_take, if_pos hj]; exact e
end

def mergeHi' : Array Keyed → Array Keyed → StateT SortSt Sem (Array Keyed) := sortPriv% PySem.Builtin.mergeHi
section
variable {prog : Program} {w : World} {A : Around} {E : Value → Shared → Prop} {s : Shared} {a₀ : Array Keyed} {lt : Value → Value → Bool} {P : Value → Prop}
theorem ext_hd (xs : Array Keyed) (n : Nat) : (xs.extract 0 n).toList = xs.toList.take n := by
  rw [Array.toList_extract]
  show (xs.toList.drop 0).take (n - 0) = _
  simp
theorem ext_rv (xs : Array Keyed) (i n : Nat) : (xs.extract i n).reverse.toList = ((xs.toList.drop i).take (n - i)).reverse := by
  rw [Array.toList_reverse, Array.toList_extract]

theorem ws_mergeHi {st : SortSt} {a b : Array Keyed} {Q : Array Keyed → SortSt → Prop} (O : Ord lt) (C : CmpOk prog w A s lt P) (hk : kindOf st = oneType') (hPa : ∀ p ∈ a.toList, P p.1) (hPb : ∀ p ∈ b.toList, P p.1)
    (ha : a.toList.Pairwise (RK lt)) (hb : b.toList.Pairwise (RK lt)) (na : 1 ≤ a.size) (nb : 1 ≤ b.size) (h0 : ∀ p, b.toList[0]? = some p → ∀ q ∈ a.toList, RK lt p q)
    (hl : ∀ q, a.toList[a.size - 1]? = some q → ∀ p ∈ b.toList, RK lt p q) (h : ∀ r st', SameS st st' → Res (RK lt) a.toList b.toList r.toList → Q r st') :
    wpS (model prog w) A E s (mergeHi' a b) Q st := by
  have dn : ∀ (out : Array Keyed) (na nb : Nat), ZInv (RK lt) a.toList b.toList out.toList na nb → na = 0 ∨ nb = 0 → Res (RK lt) a.toList b.toList (a.extract 0 na ++ b.extract 0 nb ++ out.reverse).toList := by
    intro out na nb M hc
    rw [Array.toList_append, Array.toList_append, ext_hd, ext_hd, Array.toList_reverse]
    refine M.fin ha hb fun p hp q hq => ?_
    rcases hc with rfl | rfl
    · rw [List.take_zero] at hp; cases hp
    · rw [List.take_zero] at hq; cases hq
  have df : ∀ (out : Array Keyed) (na nb : Nat), ZInv (RK lt) a.toList b.toList out.toList na nb → nb = 1 → Res (RK lt) a.toList b.toList (b.extract 0 nb ++ a.extract 0 na ++ out.reverse).toList := by
    intro out na nb M hc
    rw [Array.toList_append, Array.toList_append, ext_hd, ext_hd, Array.toList_reverse]
    refine (M.symm.fin hb ha fun p hp q hq => ?_).symm
    obtain ⟨j, hj, hp⟩ := mem_take_iff.mp hp
    have : j = 0 := by omega
    subst this
    exact h0 p hp q (List.mem_of_mem_take hq)
  refine wpS_bind (wpS_lift (wpAny_rule ⟨rfl, ?_⟩))
  dsimp only
  obtain ⟨al, eal, eal', mal⟩ := at_of (xs := a) (i := a.size - 1) (by omega)
  refine wpS_bind (ws_elem eal' ?_)
  have M0 : ZInv (RK lt) a.toList b.toList #[al].toList (a.size - 1) b.size := by
    have Z := ZInv.start (RK lt) a.toList b.toList
    have e : a.toList.length = a.size - 1 + 1 := by rw [Array.length_toList]; omega
    rw [e, Array.length_toList] at Z
    exact Z.take ha eal fun q hq => hl al eal q (List.mem_of_mem_take hq)
  by_cases ha1 : a.size - 1 = 0
  · refine ws_pos (by simpa using ha1) ?_
    exact wpS_pure (h _ _ (SameS.refl _) (dn _ _ _ M0 (Or.inl ha1)))
  refine ws_neg (by simpa using ha1) ?_
  by_cases hb1 : b.size = 1
  · refine ws_pos (by simpa using hb1) ?_
    exact wpS_pure (h _ _ (SameS.refl _) (df _ _ _ M0 hb1))
  refine ws_neg (by simpa using hb1) ?_
  refine wpS_bind (wpS_get ?_)
  refine wpS_bind (wpS_mono (wpS_forRange (I := fun x c st' => SameS st st' ∧ ∃ na nb out g, c = (none, na, nb, out, g) ∧ ZInv (RK lt) a.toList b.toList out.toList na nb ∧ 1 ≤ na ∧ na ≤ a.size ∧ 2 ≤ nb ∧ nb ≤ b.size ∧ na + nb + x + 1 ≤ a.size + b.size)
    (Q := fun c st' => SameS st st' ∧ ∃ r d, c = (some r, d) ∧ Res (RK lt) a.toList b.toList r.toList) ?_ ?_ ⟨SameS.refl _, _, _, _, _, rfl, M0, by omega, by omega, by omega, by omega, by omega⟩) ?_)
  · clear M0 na nb
    rintro x c st' _ hx ⟨S', na, nb, out, g, rfl, M, i1, j1, i2, j2, hn⟩
    dsimp only
    -- one by one
    refine wpS_bind (wpS_mono (wpS_forRange (I := fun y c st' => SameS st st' ∧ ∃ na nb out ac bc, c = (none, na, nb, out, ac, bc) ∧ ZInv (RK lt) a.toList b.toList out.toList na nb ∧ 1 ≤ na ∧ na ≤ a.size ∧ 2 ≤ nb ∧ nb ≤ b.size ∧ na + nb + x + 1 + y ≤ a.size + b.size)
      (Q := fun c st' => SameS st st' ∧ ((∃ r d, c = (some r, d) ∧ Res (RK lt) a.toList b.toList r.toList) ∨ ∃ na nb out ac bc, c = (none, na, nb, out, ac, bc) ∧ ZInv (RK lt) a.toList b.toList out.toList na nb ∧ 1 ≤ na ∧ na ≤ a.size ∧ 2 ≤ nb ∧ nb ≤ b.size ∧ na + nb + x + 2 ≤ a.size + b.size))
      ?_ ?_ ⟨S', na, nb, out, 0, 0, rfl, M, i1, j1, i2, j2, by omega⟩) ?_)
    · clear M i1 i2 j1 j2 hn
      rintro y c st' _ hy ⟨S', na, nb, out, ac, bc, rfl, M, i1, j1, i2, j2, hn⟩
      dsimp only
      obtain ⟨p, ep, ep', mp⟩ := at_of (xs := b) (i := nb - 1) (by omega)
      obtain ⟨q, eq, eq', mq⟩ := at_of (xs := a) (i := na - 1) (by omega)
      refine wpS_bind (ws_elem ep' (wpS_bind (ws_elem eq' (wpS_bind (ws_lt C (S'.kind.trans hk) (hPb p mp) (hPa q mq) ?_)))))
      cases hw : lt p.1 q.1 with
      | true =>
        dsimp only
        refine ws_pos rfl ?_
        have M' : ZInv (RK lt) a.toList b.toList (out.push q).toList (na - 1) nb := by
          rw [Array.toList_push]
          refine M.take' ha i1 eq fun z hz => ?_
          obtain ⟨j, hj, ez⟩ := mem_take_iff.mp hz
          by_cases hjn : j = nb - 1
          · subst hjn; rw [ep] at ez; cases ez; exact RK.of O hw
          · exact RK.trans O (pw_get hb (by omega) ez ep) (RK.of O hw)
        refine wpS_bind (ws_elem eq' ?_)
        by_cases he : na - 1 = 0
        · refine ws_pos (by simpa using he) ?_
          exact wpS_pure ⟨S', Or.inl ⟨_, _, rfl, dn _ _ _ M' (Or.inl he)⟩⟩
        refine ws_neg (by simpa using he) ?_
        split
        · exact wpS_pure ⟨S', Or.inr ⟨_, _, _, _, _, rfl, M', by omega, by omega, i2, j2, by omega⟩⟩
        · exact wpS_pure ⟨S', _, _, _, _, _, rfl, M', by omega, by omega, i2, j2, by omega⟩
      | false =>
        dsimp only
        refine ws_neg (by decide) ?_
        have M' : ZInv (RK lt) a.toList b.toList (out.push p).toList na (nb - 1) := by
          rw [Array.toList_push]
          refine (M.symm.take' hb (by omega) ep fun z hz => ?_).symm
          obtain ⟨j, hj, ez⟩ := mem_take_iff.mp hz
          by_cases hjn : j = na - 1
          · subst hjn; rw [eq] at ez; cases ez; exact hw
          · exact RK.trans O (pw_get ha (by omega) ez eq) (show RK lt q p from hw)
        refine wpS_bind (ws_elem ep' ?_)
        by_cases he : nb - 1 = 1
        · refine ws_pos (by simpa using he) ?_
          exact wpS_pure ⟨S', Or.inl ⟨_, _, rfl, df _ _ _ M' he⟩⟩
        refine ws_neg (by simpa using he) ?_
        split
        · exact wpS_pure ⟨S', Or.inr ⟨_, _, _, _, _, rfl, M', i1, j1, by omega, by omega, by omega⟩⟩
        · exact wpS_pure ⟨S', _, _, _, _, _, rfl, M', i1, j1, by omega, by omega, by omega⟩
    · rintro c st' ⟨S', na, nb, out, ac, bc, rfl, M, i1, j1, i2, j2, hn⟩
      exact ⟨S', Or.inr ⟨_, _, _, _, _, rfl, M, i1, j1, i2, j2, by omega⟩⟩
    clear M i1 i2 j1 j2 hn
    rintro c st2 ⟨S2, ⟨r, d, rfl, hr⟩ | ⟨na, nb, out, ac, bc, rfl, M, i1, j1, i2, j2, hn⟩⟩
    · exact wpS_pure ⟨S2, r, _, rfl, hr⟩
    dsimp only
    refine wpS_bind (wpS_lift (wpAny_rule ⟨rfl, ?_⟩))
    -- by gallops
    refine wpS_bind (wpS_mono (wpS_forRange (I := fun y c st' => SameS st st' ∧ ∃ na nb out g ac bc, c = (none, na, nb, out, g, ac, bc) ∧ ZInv (RK lt) a.toList b.toList out.toList na nb ∧ 1 ≤ na ∧ na ≤ a.size ∧ 2 ≤ nb ∧ nb ≤ b.size ∧ na + nb + x + 2 ≤ a.size + b.size)
      (Q := fun c st' => SameS st st' ∧ ((∃ r d, c = (some r, d) ∧ Res (RK lt) a.toList b.toList r.toList) ∨ ∃ na nb out g ac bc, c = (none, na, nb, out, g, ac, bc) ∧ ZInv (RK lt) a.toList b.toList out.toList na nb ∧ 1 ≤ na ∧ na ≤ a.size ∧ 2 ≤ nb ∧ nb ≤ b.size ∧ na + nb + x + 2 ≤ a.size + b.size))
      ?_ ?_ ⟨S2, na, nb, out, _, _, _, rfl, M, i1, j1, i2, j2, hn⟩) ?_)
    · clear M i1 i2 j1 j2 hn
      rintro y c st2 _ hy ⟨S2, na, nb, out, g, ac, bc, rfl, M, i1, j1, i2, j2, hn⟩
      obtain ⟨post, hpost⟩ : ∃ post : ForInStep (Option (Array Keyed) × Nat × Nat × Array Keyed × Nat × Nat × Nat) → SortSt → Prop, post = fun r st' => match r with
        | .done c => SameS st st' ∧ ((∃ r d, c = (some r, d) ∧ Res (RK lt) a.toList b.toList r.toList) ∨ ∃ na nb out g ac bc, c = (none, na, nb, out, g, ac, bc) ∧ ZInv (RK lt) a.toList b.toList out.toList na nb ∧ 1 ≤ na ∧ na ≤ a.size ∧ 2 ≤ nb ∧ nb ≤ b.size ∧ na + nb + x + 2 ≤ a.size + b.size)
        | .yield c => SameS st st' ∧ ∃ na nb out g ac bc, c = (none, na, nb, out, g, ac, bc) ∧ ZInv (RK lt) a.toList b.toList out.toList na nb ∧ 1 ≤ na ∧ na ≤ a.size ∧ 2 ≤ nb ∧ nb ≤ b.size ∧ na + nb + x + 2 ≤ a.size + b.size := ⟨_, rfl⟩
      refine wpS_mono (Q := post) ?_ fun r st' hr => by
        rw [hpost] at hr; cases r <;> exact hr
      dsimp only
      apply cut_at (F := fun T : Nat → StateT SortSt Sem (ForInStep (Option (Array Keyed) × Nat × Nat × Array Keyed × Nat × Nat × Nat)) => ∀ g', wpS (model prog w) A E s (T g') post st2)
      · intro tail
        by_cases hg : g > 1
        · refine ws_pos hg ?_
          generalize g - 1 = g'
          exact tail g'
        · refine ws_neg hg ?_
          exact tail g
      intro g'
      refine wpS_bind (ws_setGallop fun st3 S3 => ?_)
      have S3 := S2.trans S3
      have K3 := S3.kind.trans hk
      obtain ⟨p, ep, ep', mp⟩ := at_of (xs := b) (i := nb - 1) (by omega)
      refine wpS_bind (ws_elem ep' (wpS_bind (ws_gallop C K3 (hPb p mp) (fun i hi => ?_) (by omega) (bd_mono O ha (by omega)) fun m hm1 hm2 hm3 => ?_)))
      · obtain ⟨q, _, eq', mq⟩ := at_of (xs := a) (i := 0 + i) (by omega)
        exact ⟨q, eq', hPa q mq⟩
      dsimp only
      have hle : ∀ j q, j < m → a.toList[j]? = some q → RK lt q p := fun j q hj eq => by
        have := hm2 j hj
        rw [Nat.zero_add, key_of eq] at this
        unfold Bd at this
        simp only [Bool.false_eq_true, if_false, Bool.not_eq_true'] at this
        exact this
      have Mk : ZInv (RK lt) a.toList b.toList (out ++ (a.extract m na).reverse).toList m nb := by
        rw [Array.toList_append, ext_rv]
        refine M.takes ha (by omega) fun z hz q hq => ?_
        obtain ⟨j, hj, ez⟩ := mem_take_drop hz
        have hz' := hm3 (m + j) (by omega) (by omega)
        rw [Nat.zero_add, key_of ez] at hz'
        unfold Bd at hz'
        simp only [Bool.false_eq_true, if_false, Bool.not_eq_false'] at hz'
        have hz' : RK lt p z := RK.of O hz'
        obtain ⟨i, hi, eq⟩ := mem_take_iff.mp hq
        by_cases hin : i = nb - 1
        · subst hin; rw [ep] at eq; cases eq; exact hz'
        · exact RK.trans O (pw_get hb (by omega) eq ep) hz'
      obtain ⟨k, hk0⟩ : ∃ k, k = na - m := ⟨_, rfl⟩
      rw [← hk0]
      apply cut_at (F := fun T : Array Keyed → Nat → StateT SortSt Sem (ForInStep (Option (Array Keyed) × Nat × Nat × Array Keyed × Nat × Nat × Nat)) => ∀ out' na', ZInv (RK lt) a.toList b.toList out'.toList na' nb → 1 ≤ na' → na' ≤ na → na' ≤ m → wpS (model prog w) A E s (T out' na') post st3)
      · intro tail
        by_cases hkk : k > 0
        · refine ws_pos hkk ?_
          obtain ⟨out', ho⟩ : ∃ out', out' = out ++ (a.extract m na).reverse := ⟨_, rfl⟩
          rw [← ho] at Mk ⊢
          obtain ⟨na', hna'⟩ : ∃ na', na' = m := ⟨_, rfl⟩
          have Mk : ZInv (RK lt) a.toList b.toList out'.toList na' nb := by rw [hna']; exact Mk
          rw [← hna']
          by_cases e1 : na' = 0
          · refine ws_pos (by simpa using e1) ?_
            refine wpS_pure ?_
            rw [hpost]
            exact ⟨S3, Or.inl ⟨_, _, rfl, dn _ _ _ Mk (Or.inl e1)⟩⟩
          refine ws_neg (by simpa using e1) ?_
          exact tail out' na' Mk (by omega) (by omega) (by omega)
        · refine ws_neg hkk ?_
          exact tail out na M i1 (by omega) (by omega)
      clear M Mk i1
      intro out na₂ M i1 hle1 hle2
      refine wpS_bind (ws_elem ep' ?_)
      have M' : ZInv (RK lt) a.toList b.toList (out.push p).toList na₂ (nb - 1) := by
        rw [Array.toList_push]
        refine (M.symm.take' hb (by omega) ep fun z hz => ?_).symm
        obtain ⟨j, hj, ez⟩ := mem_take_iff.mp hz
        exact hle j z (by omega) ez
      by_cases e1 : nb - 1 = 1
      · refine ws_pos (by simpa using e1) ?_
        refine wpS_pure ?_
        rw [hpost]
        exact ⟨S3, Or.inl ⟨_, _, rfl, df _ _ _ M' e1⟩⟩
      refine ws_neg (by simpa using e1) ?_
      obtain ⟨q, eq, eq', mq⟩ := at_of (xs := a) (i := na₂ - 1) (by omega)
      refine wpS_bind (ws_elem eq' (wpS_bind (ws_gallop C K3 (hPa q mq) (fun i hi => ?_) (by omega) (bd_mono O hb (by omega)) fun m₂ gm1 gm2 gm3 => ?_)))
      · obtain ⟨z, _, ez', mz⟩ := at_of (xs := b) (i := 0 + i) (by omega)
        exact ⟨z, ez', hPb z mz⟩
      dsimp only
      have hlt : ∀ j z, j < m₂ → b.toList[j]? = some z → RK lt z q := fun j z hj ez => by
        have := gm2 j hj
        rw [Nat.zero_add, key_of ez] at this
        exact RK.of O this
      have Mk : ZInv (RK lt) a.toList b.toList (out.push p ++ (b.extract m₂ (nb - 1)).reverse).toList na₂ m₂ := by
        rw [Array.toList_append, ext_rv]
        refine (M'.symm.takes hb (by omega) fun z hz u hu => ?_).symm
        obtain ⟨j, hj, ez⟩ := mem_take_drop hz
        have hz' := gm3 (m₂ + j) (by omega) (by omega)
        rw [Nat.zero_add, key_of ez] at hz'
        have hz' : RK lt q z := hz'
        obtain ⟨i, hi, eu⟩ := mem_take_iff.mp hu
        by_cases hin : i = na₂ - 1
        · subst hin; rw [eq] at eu; cases eu; exact hz'
        · exact RK.trans O (pw_get ha (by omega) eu eq) hz'
      obtain ⟨k₂, hk2⟩ : ∃ k, k = nb - 1 - m₂ := ⟨_, rfl⟩
      rw [← hk2]
      apply cut_at (F := fun T : Array Keyed → Nat → StateT SortSt Sem (ForInStep (Option (Array Keyed) × Nat × Nat × Array Keyed × Nat × Nat × Nat)) => ∀ out' nb', ZInv (RK lt) a.toList b.toList out'.toList na₂ nb' → 2 ≤ nb' → nb' ≤ nb - 1 → nb' ≤ m₂ → wpS (model prog w) A E s (T out' nb') post st3)
      · intro tail
        by_cases hkk : k₂ > 0
        · refine ws_pos hkk ?_
          obtain ⟨out', ho⟩ : ∃ out', out' = out.push p ++ (b.extract m₂ (nb - 1)).reverse := ⟨_, rfl⟩
          rw [← ho] at Mk ⊢
          obtain ⟨nb', hnb'⟩ : ∃ nb', nb' = m₂ := ⟨_, rfl⟩
          have Mk : ZInv (RK lt) a.toList b.toList out'.toList na₂ nb' := by rw [hnb']; exact Mk
          rw [← hnb']
          by_cases e2 : nb' = 1
          · refine ws_pos (by simpa using e2) ?_
            refine wpS_pure ?_
            rw [hpost]
            exact ⟨S3, Or.inl ⟨_, _, rfl, df _ _ _ Mk e2⟩⟩
          refine ws_neg (by simpa using e2) ?_
          by_cases e3 : nb' = 0
          · refine ws_pos (by simpa using e3) ?_
            refine wpS_pure ?_
            rw [hpost]
            exact ⟨S3, Or.inl ⟨_, _, rfl, dn _ _ _ Mk (Or.inr e3)⟩⟩
          refine ws_neg (by simpa using e3) ?_
          exact tail out' nb' Mk (by omega) (by omega) (by omega)
        · refine ws_neg hkk ?_
          obtain ⟨out', ho⟩ : ∃ out', out' = out.push p := ⟨_, rfl⟩
          obtain ⟨nb', hnb'⟩ : ∃ nb', nb' = nb - 1 := ⟨_, rfl⟩
          have M' : ZInv (RK lt) a.toList b.toList out'.toList na₂ nb' := by rw [ho, hnb']; exact M'
          rw [← ho, ← hnb']
          exact tail out' nb' M' (by omega) (by omega) (by omega)
      clear M M' Mk i2 e1
      intro out nb₂ M i2 hle3 hle4
      refine wpS_bind (ws_elem eq' ?_)
      have M' : ZInv (RK lt) a.toList b.toList (out.push q).toList (na₂ - 1) nb₂ := by
        rw [Array.toList_push]
        refine M.take' ha i1 eq fun z hz => ?_
        obtain ⟨j, hj, ez⟩ := mem_take_iff.mp hz
        exact hlt j z (by omega) ez
      by_cases e1 : na₂ - 1 = 0
      · refine ws_pos (by simpa using e1) ?_
        refine wpS_pure ?_
        rw [hpost]
        exact ⟨S3, Or.inl ⟨_, _, rfl, dn _ _ _ M' (Or.inl e1)⟩⟩
      refine ws_neg (by simpa using e1) ?_
      split
      · refine wpS_pure ?_
        rw [hpost]
        exact ⟨S3, Or.inr ⟨_, _, _, _, _, _, rfl, M', by omega, by omega, i2, by omega, by omega⟩⟩
      · refine wpS_pure ?_
        rw [hpost]
        exact ⟨S3, _, _, _, _, _, _, rfl, M', by omega, by omega, i2, by omega, by omega⟩
    · rintro c st' ⟨S', na, nb, out, g, ac, bc, rfl, M, i1, j1, i2, j2, hn⟩
      exact ⟨S', Or.inr ⟨_, _, _, _, _, _, rfl, M, i1, j1, i2, j2, hn⟩⟩
    clear M i1 i2 j1 j2 hn
    rintro c st3 ⟨S3, ⟨r, d, rfl, hr⟩ | ⟨na, nb, out, g, ac, bc, rfl, M, i1, j1, i2, j2, hn⟩⟩
    · exact wpS_pure ⟨S3, r, _, rfl, hr⟩
    dsimp only
    refine wpS_bind (ws_setGallop fun st4 S4 => wpS_pure ⟨S3.trans S4, _, _, _, _, rfl, M, i1, j1, i2, j2, by omega⟩)
  · rintro c st' ⟨S', na, nb, out, g, rfl, M, i1, j1, i2, j2, hn⟩
    omega
  · rintro c st' ⟨S', r, d, rfl, hr⟩
    exact wpS_pure (h r st' S' hr)
end
end Mine
end
section
open PySem PySem.W PyProof.Rows PySem.Calls
namespace Mine
section
variable {α : Type}
theorem fold_get : ∀ (m : List α) (n : Nat) (xs : Array α) (o : Nat), o + n + m.length ≤ xs.size → ∀ k : Nat,
    ((m.zipIdx n).foldl (fun a (p, j) => a.setIfInBounds (o + j) p) xs)[k]? = if o + n ≤ k ∧ k < o + n + m.length then m[k - (o + n)]? else xs[k]?
  | [], n, xs, o, _, k => by
    simp only [List.zipIdx_nil, List.foldl_nil, List.length_nil]
    rw [if_neg (by omega)]
  | p :: m, n, xs, o, h, k => by
    rw [List.length_cons] at h
    rw [List.zipIdx_cons, List.foldl_cons, fold_get m (n + 1) _ o (by rw [Array.size_setIfInBounds]; omega) k, List.length_cons]
    by_cases h1 : k = o + n
    · subst h1
      rw [if_neg (by omega), if_pos (by omega), Nat.sub_self, Array.getElem?_setIfInBounds_self_of_lt (by omega)]
      rfl
    · by_cases h2 : o + n ≤ k ∧ k < o + n + (m.length + 1)
      · rw [if_pos (by omega), if_pos h2, show k - (o + n) = k - (o + (n + 1)) + 1 by omega, List.getElem?_cons_succ]
      · rw [if_neg (by omega), if_neg h2, Array.getElem?_setIfInBounds_ne (Ne.symm h1)]
end
section
variable {prog : Program} {w : World} {A : Around} {E : Value → Shared → Prop} {s : Shared} {a₀ : Array Keyed} {lt : Value → Value → Bool} {P : Value → Prop}
theorem bd_monoS (O : Ord lt) {left : Bool} {k : Value} {arr : Array Keyed} {base n : Nat} (hs : Seg lt arr base (base + n)) :
    ∀ i j, i ≤ j → j < n → Bd lt left k (key arr (base + j)) = true → Bd lt left k (key arr (base + i)) = true := by
  intro i j hij hj hb
  have hr := hs (base + i) (base + j) (by omega) (by omega) (by omega)
  unfold Bd at hb ⊢
  cases left with
  | true =>
    simp only [if_true] at hb ⊢
    cases hh : lt (key arr (base + i)) k with
    | true => rfl
    | false => rw [O.trans _ _ _ hh hr] at hb; cases hb
  | false =>
    simp only [Bool.false_eq_true, if_false, Bool.not_eq_true'] at hb ⊢
    exact O.trans _ _ _ hr hb
theorem ext_get {xs : Array Keyed} {lo hi j : Nat} (h : hi ≤ xs.size) : (xs.extract lo hi).toList[j]? = if j < hi - lo then xs[lo + j]? else none := by
  rw [Array.getElem?_toList, Array.getElem?_extract, Nat.min_eq_left h]
theorem seg_pw {xs : Array Keyed} {lo hi : Nat} (h : hi ≤ xs.size) (hs : Seg lt xs lo hi) : (xs.extract lo hi).toList.Pairwise (RK lt) := by
  rw [List.pairwise_iff_getElem]
  intro i j hi' hj' hij
  have e : ∀ (k : Nat) (hk : k < (xs.extract lo hi).toList.length), k < hi - lo ∧ xs[lo + k]? = some (xs.extract lo hi).toList[k] := by
    intro k hk
    have e := List.getElem?_eq_getElem hk
    rw [ext_get h] at e
    split at e
    · rename_i h1; exact ⟨h1, e⟩
    · cases e
  have ei := e i hi'
  have ej := e j hj'
  have := hs (lo + i) (lo + j) (by omega) (by omega) (by omega)
  unfold key at this
  rw [ei.2, ej.2] at this
  exact this
theorem mem_ext {xs : Array Keyed} {lo hi : Nat} (h : hi ≤ xs.size) {p : Keyed} (hp : p ∈ (xs.extract lo hi).toList) : ∃ j, lo ≤ j ∧ j < hi ∧ xs[j]? = some p := by
  obtain ⟨k, hk⟩ := List.getElem?_of_mem hp
  rw [ext_get h] at hk
  split at hk
  · rename_i h1; exact ⟨lo + k, by omega, by omega, hk⟩
  · cases hk
theorem key_at {xs : Array Keyed} {i : Nat} {p : Keyed} (h : xs[i]? = some p) : key xs i = p.1 := by unfold key; rw [h]

/-- F is xs with [lo, hi) laid anew by r: rising from sa up to e -/
theorem seg_merge {xs F : Array Keyed} {r : List Keyed} {sa lo sb hi e : Nat} (O : Ord lt) (h1 : sa ≤ lo) (h2 : lo ≤ sb) (h3 : sb ≤ hi) (h4 : hi ≤ e) (S1 : Seg lt xs sa sb) (S2 : Seg lt xs sb e)
    (c1 : ∀ i j, sa ≤ i → i < lo → sb ≤ j → j < e → lt (key xs j) (key xs i) = false) (c2 : ∀ i j, sa ≤ i → i < sb → hi ≤ j → j < e → lt (key xs j) (key xs i) = false)
    (gF : ∀ j : Nat, F[j]? = if lo ≤ j ∧ j < hi then r[j - lo]? else xs[j]?) (hrl : r.length = hi - lo) (hmem : ∀ p ∈ r, ∃ j, lo ≤ j ∧ j < hi ∧ xs[j]? = some p) (hr : r.Pairwise (RK lt)) : Seg lt F sa e := by
  have kF : ∀ j, ¬ (lo ≤ j ∧ j < hi) → key F j = key xs j := fun j hj => key_congr (by rw [gF, if_neg hj])
  have kM : ∀ j, lo ≤ j → j < hi → ∃ p, r[j - lo]? = some p ∧ key F j = p.1 ∧ ∃ j', lo ≤ j' ∧ j' < hi ∧ key xs j' = p.1 := by
    intro j j1 j2
    have hl : j - lo < r.length := by rw [hrl]; exact Nat.sub_lt_sub_right j1 j2
    refine ⟨r[j - lo], List.getElem?_eq_getElem hl, key_at (by rw [gF, if_pos ⟨j1, j2⟩]; exact List.getElem?_eq_getElem hl), ?_⟩
    obtain ⟨j', a1, a2, a3⟩ := hmem _ (List.getElem_mem hl)
    exact ⟨j', a1, a2, key_at a3⟩
  clear gF hrl hmem
  intro i j i1 i2 i3
  rcases Nat.lt_or_ge i lo with iz | iz
  · rw [kF i (fun q => absurd q.1 (Nat.not_le.mpr iz))]
    rcases Nat.lt_or_ge j lo with jz | jz
    · rw [kF j (fun q => absurd q.1 (Nat.not_le.mpr jz))]; exact S1 i j i1 i2 (Nat.lt_of_lt_of_le jz h2)
    · rcases Nat.lt_or_ge j hi with jm | jm
      · obtain ⟨p, _, e', j', a1, a2, a3⟩ := kM j jz jm
        rw [e', ← a3]
        rcases Nat.lt_or_ge j' sb with hj' | hj'
        · exact S1 i j' i1 (Nat.le_trans (Nat.le_of_lt iz) a1) hj'
        · exact c1 i j' i1 iz hj' (Nat.lt_of_lt_of_le a2 h4)
      · rw [kF j (fun q => absurd q.2 (Nat.not_lt.mpr jm))]; exact c1 i j i1 iz (Nat.le_trans h3 jm) i3
  · rcases Nat.lt_or_ge i hi with im | im
    · obtain ⟨p, ep, e', i', a1, a2, a3⟩ := kM i iz im
      rcases Nat.lt_or_ge j hi with jm | jm
      · obtain ⟨q, eq, e'', j', b1, b2, b3⟩ := kM j (Nat.le_trans iz i2) jm
        rw [e', e'']
        rcases Nat.eq_or_lt_of_le i2 with rfl | hlt
        · rw [ep] at eq; cases eq; exact O.refl _
        · exact pw_get hr (Nat.sub_lt_sub_right iz hlt) ep eq
      · rw [kF j (fun q => absurd q.2 (Nat.not_lt.mpr jm)), e', ← a3]
        rcases Nat.lt_or_ge i' sb with hi' | hi'
        · exact c2 i' j (Nat.le_trans h1 a1) hi' jm i3
        · exact S2 i' j hi' (Nat.le_of_lt (Nat.lt_of_lt_of_le a2 jm)) i3
    · have jm := Nat.le_trans im i2
      rw [kF i (fun q => absurd q.2 (Nat.not_lt.mpr im)), kF j (fun q => absurd q.2 (Nat.not_lt.mpr jm))]
      exact S2 i j (Nat.le_trans h3 im) i2 i3
theorem fold_perm {xs F : Array Keyed} {r : List Keyed} {lo sb hi : Nat} (h2 : lo ≤ sb) (h3 : sb ≤ hi) (h5 : hi ≤ xs.size) (gF : ∀ j : Nat, F[j]? = if lo ≤ j ∧ j < hi then r[j - lo]? else xs[j]?) (hrl : r.length = hi - lo)
    (hr : r.Perm ((xs.extract lo sb).toList ++ (xs.extract sb hi).toList)) : F.Perm xs := by
  have hL : F.toList = xs.toList.take lo ++ r ++ xs.toList.drop hi := by
    apply List.ext_getElem?
    intro j
    rw [Array.getElem?_toList, gF]
    have l1 : (xs.toList.take lo).length = lo := by rw [List.length_take, Array.length_toList]; exact Nat.min_eq_left (Nat.le_trans h2 (Nat.le_trans h3 h5))
    have l2 : (xs.toList.take lo ++ r).length = hi := by rw [List.length_append, l1, hrl]; exact Nat.add_sub_cancel' (Nat.le_trans h2 h3)
    rcases Nat.lt_or_ge j lo with j1 | j1
    · rw [if_neg (fun q => absurd q.1 (Nat.not_le.mpr j1)), List.getElem?_append_left (by rw [l2]; exact Nat.lt_of_lt_of_le j1 (Nat.le_trans h2 h3)), List.getElem?_append_left (by rw [l1]; exact j1), List.getElem?_take, if_pos j1, Array.getElem?_toList]
    · rcases Nat.lt_or_ge j hi with j2 | j2
      · rw [if_pos ⟨j1, j2⟩, List.getElem?_append_left (by rw [l2]; exact j2), List.getElem?_append_right (by rw [l1]; exact j1), l1]
      · rw [if_neg (fun q => absurd q.2 (Nat.not_lt.mpr j2)), List.getElem?_append_right (by rw [l2]; exact j2), l2, List.getElem?_drop, Array.getElem?_toList, Nat.add_sub_cancel' j2]
  have hO : xs.toList = xs.toList.take lo ++ ((xs.extract lo sb).toList ++ (xs.extract sb hi).toList) ++ xs.toList.drop hi := by
    have e1 : (xs.extract lo sb).toList ++ (xs.extract sb hi).toList = (xs.toList.drop lo).take (hi - lo) := by
      rw [Array.toList_extract, Array.toList_extract]
      show (xs.toList.drop lo).take (sb - lo) ++ (xs.toList.drop sb).take (hi - sb) = _
      rw [show hi - lo = (sb - lo) + (hi - sb) by omega, List.take_add, List.drop_drop, Nat.add_sub_cancel' h2]
    rw [e1]
    have e2 : xs.toList.drop hi = (xs.toList.drop lo).drop (hi - lo) := by
      rw [List.drop_drop, Nat.add_sub_cancel' (Nat.le_trans h2 h3)]
    rw [e2, List.append_assoc, List.take_append_drop, List.take_append_drop]
  rw [Array.perm_iff_toList_perm, hL]
  conv => rhs; rw [hO]
  exact List.Perm.append_right _ (List.Perm.append_left _ hr)
theorem ws_set {st x : SortSt} {Q : PUnit → SortSt → Prop} (h : Q ⟨⟩ x) : wpS (model prog w) A E s (set x : StateT SortSt Sem PUnit) Q st := by
  unfold wpS; rw [StateT.run_set]; exact wpAny_pure ⟨rfl, h⟩
theorem ws_mergeAt {st : SortSt} {i sa na pw sb nb pw' : Nat} {Q : Bool → SortSt → Prop} (O : Ord lt) (C : CmpOk prog w A s lt P) (hP : ∀ p ∈ a₀.toList, P p.1) (B : TB a₀ st)
    (hi : (pendingOf st)[i]? = some (sa, na, pw)) (hi1 : (pendingOf st)[i + 1]? = some (sb, nb, pw')) (hsb : sb = sa + na) (hend : sb + nb ≤ a₀.size) (n1 : 1 ≤ na) (n2 : 1 ≤ nb)
    (S1 : Seg lt (arrOf st) sa sb) (S2 : Seg lt (arrOf st) sb (sb + nb))
    (h : ∀ st', TB a₀ st' → pendingOf st' = ((pendingOf st).setIfInBounds i (sa, na + nb, pw)).eraseIdxIfInBounds (i + 1) → (∀ k, k < sa ∨ sb + nb ≤ k → (arrOf st')[k]? = (arrOf st)[k]?) → Seg lt (arrOf st') sa (sb + nb) → Q true st') :
    wpS (model prog w) A E s (mergeAt' i) Q st := by
  refine wpS_bind (wpS_get ?_)
  dsimp only
  rw [hi, hi1]
  dsimp only
  obtain ⟨st1, hst1⟩ : ∃ st1, st1 = setPending st (((pendingOf st).setIfInBounds i (sa, na + nb, pw)).eraseIdxIfInBounds (i + 1)) := ⟨_, rfl⟩
  have q1 : arrOf st1 = arrOf st := by rw [hst1]
  have q2 : pendingOf st1 = ((pendingOf st).setIfInBounds i (sa, na + nb, pw)).eraseIdxIfInBounds (i + 1) := by rw [hst1]
  have B1 : TB a₀ st1 := ⟨by rw [q1]; exact B.perm, by rw [hst1]; exact B.kind, by rw [hst1]; exact B.failed⟩
  refine wpS_bind (ws_set ?_)
  change wpS _ _ _ _ _ _ (setPending st (((pendingOf st).setIfInBounds i (sa, na + nb, pw)).eraseIdxIfInBounds (i + 1)))
  rw [← hst1]
  have hsz := B.size
  have hna : sb ≤ a₀.size := Nat.le_trans (Nat.le_add_right _ _) hend
  have hsb0 : sb < a₀.size := Nat.lt_of_lt_of_le (Nat.lt_add_of_pos_right n2) hend
  have hsbp : 1 ≤ sb := by rw [hsb]; exact Nat.le_trans n1 (Nat.le_add_left _ _)
  have hsb1 : sb - 1 < sb := Nat.sub_lt hsbp Nat.zero_lt_one
  have hat : ∀ j, j < a₀.size → ∃ p, (arrOf st)[j]? = some p ∧ P p.1 := fun j hj => by
    obtain ⟨p, e, hp, _⟩ := B.at hP hj
    exact ⟨p, e, hp⟩
  obtain ⟨pb, epb, hpb⟩ := hat sb hsb0
  refine wpS_bind (ws_elem epb (wpS_bind (ws_gallop C B1.kind hpb (fun j hj => hat _ (Nat.lt_of_lt_of_le (Nat.add_lt_add_left hj _) (hsb ▸ hna))) n1 (bd_monoS O (by rw [← hsb]; exact S1)) fun k hk1 hk2 hk3 => ?_)))
  dsimp only
  -- a's first k stand before b
  have c1 : ∀ i j, sa ≤ i → i < sa + k → sb ≤ j → j < sb + nb → lt (key (arrOf st) j) (key (arrOf st) i) = false := by
    intro i j i1 i2 j1 j2
    obtain ⟨i', rfl⟩ := Nat.exists_eq_add_of_le i1
    have := hk2 i' (Nat.lt_of_add_lt_add_left i2)
    rw [← key_at epb] at this
    unfold Bd at this
    simp only [Bool.false_eq_true, if_false, Bool.not_eq_true'] at this
    exact O.trans _ _ _ this (S2 sb j (Nat.le_refl _) j1 j2)
  by_cases hk0 : na - k = 0
  · rw [if_pos (by simpa using hk0)]
    refine wpS_pure (h st1 B1 q2 (fun j hj => by rw [q1]) ?_)
    rw [q1]
    intro i j i1 i2 i3
    rcases Nat.lt_or_ge j sb with hj | hj
    · exact S1 i j i1 i2 hj
    · rcases Nat.lt_or_ge i sb with hi' | hi'
      · exact c1 i j i1 (Nat.lt_of_lt_of_le hi' (by rw [hsb]; exact Nat.add_le_add_left (Nat.le_of_sub_eq_zero hk0) _)) hj i3
      · exact S2 i j hi' i2 i3
  rw [if_neg (by simpa using hk0)]
  have hkn : k < na := Nat.lt_of_sub_ne_zero hk0
  have hlo : sa + k < sb := by rw [hsb]; exact Nat.add_lt_add_left hkn _
  obtain ⟨pa, epa, hpa⟩ := hat (sb - 1) (Nat.lt_trans hsb1 hsb0)
  rw [show sa + k + (na - k) - 1 = sb - 1 by rw [Nat.add_assoc, Nat.add_sub_cancel' hk1, ← hsb]]
  refine wpS_bind (ws_elem epa (wpS_bind (ws_gallop C B1.kind hpa (fun j hj => hat _ (Nat.lt_of_lt_of_le (Nat.add_lt_add_left hj _) hend)) (Nat.sub_lt n2 Nat.zero_lt_one) (bd_monoS O S2) fun m hm1 hm2 hm3 => ?_)))
  dsimp only
  -- what lies behind b's first m stands behind a
  have c2 : ∀ i j, sa ≤ i → i < sb → sb + m ≤ j → j < sb + nb → lt (key (arrOf st) j) (key (arrOf st) i) = false := by
    intro i j i1 i2 j1 j2
    obtain ⟨j', rfl⟩ := Nat.exists_eq_add_of_le (Nat.le_trans (Nat.le_add_right sb m) j1)
    have := hm3 j' (Nat.le_of_add_le_add_left j1) (Nat.lt_of_add_lt_add_left j2)
    rw [← key_at epa] at this
    exact O.trans _ _ _ (S1 i (sb - 1) i1 (Nat.le_sub_one_of_lt i2) hsb1) this
  by_cases hm0 : m = 0
  · rw [if_pos (by simpa using hm0)]
    refine wpS_pure (h st1 B1 q2 (fun j hj => by rw [q1]) ?_)
    rw [q1]
    intro i j i1 i2 i3
    rcases Nat.lt_or_ge j sb with hj | hj
    · exact S1 i j i1 i2 hj
    · rcases Nat.lt_or_ge i sb with hi' | hi'
      · exact c2 i j i1 hi' (by rw [hm0]; exact hj) i3
      · exact S2 i j hi' i2 i3
  rw [if_neg (by simpa using hm0)]
  obtain ⟨x, hx⟩ : ∃ x, x = (arrOf st).extract (sa + k) sb := ⟨_, rfl⟩
  obtain ⟨y, hy⟩ : ∃ y, y = (arrOf st).extract sb (sb + m) := ⟨_, rfl⟩
  rw [← hx, ← hy]
  have hme : sb + m ≤ sb + nb := Nat.add_le_add_left hm1 _
  have hmA : sb + m ≤ (arrOf st).size := by rw [hsz]; exact Nat.le_trans hme hend
  have hnA : sb ≤ (arrOf st).size := by rw [hsz]; exact hna
  have hxs : x.size = sb - (sa + k) := by rw [hx, Array.size_extract, Nat.min_eq_left hnA]
  have hys : y.size = m := by rw [hy, Array.size_extract, Nat.min_eq_left hmA, Nat.add_sub_cancel_left]
  have hPx : ∀ p ∈ x.toList, ∃ j, sa + k ≤ j ∧ j < sb ∧ (arrOf st)[j]? = some p := by rw [hx]; intro p hp; exact mem_ext hnA hp
  have hPy : ∀ p ∈ y.toList, ∃ j, sb ≤ j ∧ j < sb + m ∧ (arrOf st)[j]? = some p := by rw [hy]; intro p hp; exact mem_ext hmA hp
  have wx : x.toList.Pairwise (RK lt) := by rw [hx]; exact seg_pw hnA fun i j i1 i2 i3 => S1 i j (Nat.le_trans (Nat.le_add_right _ _) i1) i2 i3
  have wy : y.toList.Pairwise (RK lt) := by rw [hy]; exact seg_pw hmA fun i j i1 i2 i3 => S2 i j i1 i2 (Nat.lt_of_lt_of_le i3 hme)
  have PP : ∀ p j, (arrOf st)[j]? = some p → j < a₀.size → P p.1 := fun p j e hj => by
    obtain ⟨p', e', hp'⟩ := hat j hj
    rw [e] at e'; cases e'; exact hp'
  have hfst : ∀ p, y.toList[0]? = some p → ∀ q ∈ x.toList, RK lt p q := by
    intro p hp q hq
    obtain ⟨j, j1, j2, ej⟩ := hPx q hq
    have hp' : (arrOf st)[sb]? = some p := by
      rw [hy, ext_get hmA, if_pos (by rw [Nat.add_sub_cancel_left]; exact Nat.pos_of_ne_zero hm0)] at hp
      exact hp
    obtain ⟨j', rfl⟩ := Nat.exists_eq_add_of_le (Nat.le_trans (Nat.le_add_right sa k) j1)
    have := hk3 j' (Nat.le_of_add_le_add_left j1) (Nat.lt_of_add_lt_add_left (hsb ▸ j2))
    rw [key_at ej] at this
    rw [epb] at hp'; cases hp'
    unfold Bd at this
    simp only [Bool.false_eq_true, if_false, Bool.not_eq_false'] at this
    exact RK.of O this
  have hlst : ∀ q, x.toList[x.size - 1]? = some q → ∀ p ∈ y.toList, RK lt p q := by
    intro q hq p hp
    obtain ⟨j, j1, j2, ej⟩ := hPy p hp
    rw [hxs] at hq
    have hq' : (arrOf st)[sb - 1]? = some q := by
      rw [hx, ext_get hnA, if_pos (Nat.sub_lt (Nat.sub_pos_of_lt hlo) Nat.zero_lt_one), ← Nat.add_sub_assoc (Nat.sub_pos_of_lt hlo), Nat.add_sub_cancel' (Nat.le_of_lt hlo)] at hq
      exact hq
    obtain ⟨j', rfl⟩ := Nat.exists_eq_add_of_le j1
    have := hm2 j' (Nat.lt_of_add_lt_add_left j2)
    rw [key_at ej] at this
    rw [epa] at hq'; cases hq'
    exact RK.of O this
  have fin : ∀ (r : Array Keyed) (st2 : SortSt), SameS st1 st2 → Res (RK lt) x.toList y.toList r.toList → Q true (setArr st2 (r.toList.zipIdx.foldl (fun a (p, j) => a.setIfInBounds (sa + k + j) p) (arrOf st2))) := by
    intro r st2 S2' hr
    have e2 : arrOf st2 = arrOf st := S2'.arr.trans q1
    have hle : sa + k ≤ sb + m := Nat.le_trans (Nat.le_of_lt hlo) (Nat.le_add_right _ _)
    have hrl : r.toList.length = sb + m - (sa + k) := by
      rw [hr.1.length_eq, List.length_append, Array.length_toList, Array.length_toList, hxs, hys, Nat.sub_add_comm (Nat.le_of_lt hlo)]
    obtain ⟨F, hF⟩ : ∃ F, F = r.toList.zipIdx.foldl (fun a (p, j) => a.setIfInBounds (sa + k + j) p) (arrOf st2) := ⟨_, rfl⟩
    have gF : ∀ j : Nat, F[j]? = if sa + k ≤ j ∧ j < sb + m then r.toList[j - (sa + k)]? else (arrOf st)[j]? := by
      intro j
      have := fold_get r.toList 0 (arrOf st2) (sa + k) (by rw [Nat.add_zero, hrl, Nat.add_sub_cancel' hle, e2]; exact hmA) j
      rw [← hF, hrl, e2, Nat.add_zero, Nat.add_sub_cancel' hle] at this
      exact this
    have hPF : F.Perm (arrOf st) := fold_perm (Nat.le_of_lt hlo) (Nat.le_add_right _ _) hmA gF hrl (by rw [← hx, ← hy]; exact hr.1)
    rw [← hF]
    refine h (setArr st2 F) ⟨hPF.trans B.perm, S2'.kind.trans B1.kind, S2'.failed.trans B1.failed⟩ (S2'.pend.trans q2) (fun j hj => ?_) ?_
    · show F[j]? = _
      rw [gF, if_neg]
      rintro ⟨a1, a2⟩
      rcases hj with hj | hj
      · exact absurd (Nat.le_trans (Nat.le_add_right _ _) a1) (Nat.not_le.mpr hj)
      · exact absurd (Nat.lt_of_lt_of_le a2 hme) (Nat.not_lt.mpr hj)
    · refine seg_merge O (Nat.le_add_right _ _) (Nat.le_of_lt hlo) (Nat.le_add_right _ _) hme S1 S2 c1 c2 gF hrl (fun p hp => ?_) hr.2
      rcases List.mem_append.mp (hr.1.mem_iff.mp hp) with hm | hm
      · obtain ⟨j', a1, a2, a3⟩ := hPx _ hm
        exact ⟨j', a1, Nat.lt_of_lt_of_le a2 (Nat.le_add_right _ _), a3⟩
      · obtain ⟨j', a1, a2, a3⟩ := hPy _ hm
        exact ⟨j', Nat.le_trans (Nat.le_of_lt hlo) a1, a2, a3⟩
  have hfail : ∀ st2, SameS st1 st2 → failedOf st2 = none := fun st2 S => S.failed.trans B1.failed
  by_cases hle : na - k ≤ m
  · rw [if_pos hle]
    refine wpS_bind (ws_mergeLo O C B1.kind (fun p hp => ?_) (fun p hp => ?_) wx wy (by rw [hxs]; exact Nat.sub_pos_of_lt hlo) (by rw [hys]; exact Nat.pos_of_ne_zero hm0) hfst hlst fun r st2 S' hr => ?_)
    · obtain ⟨j, j1, j2, ej⟩ := hPx p hp; exact PP p j ej (Nat.lt_trans j2 hsb0)
    · obtain ⟨j, j1, j2, ej⟩ := hPy p hp; exact PP p j ej (Nat.lt_of_lt_of_le j2 (Nat.le_trans hme hend))
    refine wpS_bind (wpS_modify (wpS_bind (wpS_get (wpS_pure ?_))))
    have := fin r st2 S' hr
    show Q (failedOf st2).isNone _
    rw [hfail st2 S']; exact this
  · rw [if_neg hle]
    refine wpS_bind (ws_mergeHi O C B1.kind (fun p hp => ?_) (fun p hp => ?_) wx wy (by rw [hxs]; exact Nat.sub_pos_of_lt hlo) (by rw [hys]; exact Nat.pos_of_ne_zero hm0) hfst hlst fun r st2 S' hr => ?_)
    · obtain ⟨j, j1, j2, ej⟩ := hPx p hp; exact PP p j ej (Nat.lt_trans j2 hsb0)
    · obtain ⟨j, j1, j2, ej⟩ := hPy p hp; exact PP p j ej (Nat.lt_of_lt_of_le j2 (Nat.le_trans hme hend))
    refine wpS_bind (wpS_modify (wpS_bind (wpS_get (wpS_pure ?_))))
    have := fin r st2 S' hr
    show Q (failedOf st2).isNone _
    rw [hfail st2 S']; exact this
end
end Mine
end
section
open PySem PySem.W PyProof.Rows PySem.Calls
namespace Mine
/-- sorted runs, side by side from lo up to hi -/
def Runs (lt : Value → Value → Bool) (xs : Array Keyed) : List (Nat × Nat × Nat) → Nat → Nat → Prop
  | [], lo, hi => lo = hi
  | (st, n, _) :: r, lo, hi => st = lo ∧ 1 ≤ n ∧ Seg lt xs lo (lo + n) ∧ Runs lt xs r (lo + n) hi
section
variable {prog : Program} {w : World} {A : Around} {E : Value → Shared → Prop} {s : Shared} {a₀ : Array Keyed} {lt : Value → Value → Bool} {P : Value → Prop}
theorem runs_le {xs : Array Keyed} : ∀ {l : List (Nat × Nat × Nat)} {lo hi : Nat}, Runs lt xs l lo hi → lo + l.length ≤ hi
  | [], lo, hi, h => by simp only [Runs] at h; simp [h]
  | (st, n, _) :: r, lo, hi, h => by
    obtain ⟨_, h1, _, h2⟩ := h
    have := runs_le h2
    rw [List.length_cons]; omega
theorem runs_app {xs : Array Keyed} : ∀ {l l' : List (Nat × Nat × Nat)} {lo hi : Nat}, Runs lt xs (l ++ l') lo hi ↔ ∃ mid, Runs lt xs l lo mid ∧ Runs lt xs l' mid hi
  | [], l', lo, hi => by simp [Runs]
  | (st, n, _) :: r, l', lo, hi => by
    simp only [List.cons_append, Runs]
    rw [runs_app]
    constructor
    · rintro ⟨h1, h2, h3, mid, h4, h5⟩; exact ⟨mid, ⟨h1, h2, h3, h4⟩, h5⟩
    · rintro ⟨mid, ⟨h1, h2, h3, h4⟩, h5⟩; exact ⟨h1, h2, h3, mid, h4, h5⟩
theorem seg_congr {xs ys : Array Keyed} {lo hi : Nat} (hk : ∀ k, lo ≤ k → k < hi → key ys k = key xs k) (h : Seg lt xs lo hi) : Seg lt ys lo hi := fun i j h1 h2 h3 => by
  rw [hk i h1 (by omega), hk j (by omega) h3]; exact h i j h1 h2 h3
theorem runs_congr {xs ys : Array Keyed} : ∀ {l : List (Nat × Nat × Nat)} {lo hi : Nat}, (∀ k, lo ≤ k → k < hi → key ys k = key xs k) → Runs lt xs l lo hi → Runs lt ys l lo hi
  | [], lo, hi, _, h => h
  | (st, n, _) :: r, lo, hi, hk, h => by
    obtain ⟨h1, h2, h3, h4⟩ := h
    have := runs_le h4
    exact ⟨h1, h2, seg_congr (fun k k1 k2 => hk k k1 (by omega)) h3, runs_congr (fun k k1 k2 => hk k (by omega) k2) h4⟩
theorem runs_alike {xs : Array Keyed} : ∀ {l l' : List (Nat × Nat × Nat)} {lo hi : Nat}, l.map (fun x => (x.1, x.2.1)) = l'.map (fun x => (x.1, x.2.1)) → Runs lt xs l lo hi → Runs lt xs l' lo hi
  | [], [], lo, hi, _, h => h
  | [], _ :: _, _, _, e, _ => by simp at e
  | _ :: _, [], _, _, e, _ => by simp at e
  | (st, n, p) :: r, (st', n', p') :: r', lo, hi, e, h => by
    simp only [List.map_cons, List.cons.injEq, Prod.mk.injEq] at e
    obtain ⟨⟨rfl, rfl⟩, e⟩ := e
    obtain ⟨h1, h2, h3, h4⟩ := h
    exact ⟨h1, h2, h3, runs_alike e h4⟩

theorem lt_of_ite {c : Prop} [Decidable c] {a b n : Nat} (h1 : a + 1 < n) (h2 : b + 1 < n) : (if c then a else b) + 1 < n := by
  split
  · exact h1
  · exact h2
theorem ws_mergeRuns {st : SortSt} {i hi : Nat} {Q : Bool → SortSt → Prop} (O : Ord lt) (C : CmpOk prog w A s lt P) (hP : ∀ p ∈ a₀.toList, P p.1) (B : TB a₀ st) (R : Runs lt (arrOf st) (pendingOf st).toList 0 hi) (hhi : hi ≤ a₀.size)
    (hi' : i + 1 < (pendingOf st).size) (h : ∀ st', TB a₀ st' → Runs lt (arrOf st') (pendingOf st').toList 0 hi → (pendingOf st').size + 1 = (pendingOf st).size → (∀ k, hi ≤ k → (arrOf st')[k]? = (arrOf st)[k]?) → Q true st') : wpS (model prog w) A E s (mergeAt' i) Q st := by
  generalize hl : (pendingOf st).toList = l at R
  have hlen : l.length = (pendingOf st).size := by rw [← hl, Array.length_toList]
  obtain ⟨sa, na, pw, ea⟩ : ∃ sa na pw, l[i]? = some (sa, na, pw) := ⟨_, _, _, List.getElem?_eq_getElem (by omega)⟩
  obtain ⟨sb, nb, pw', eb⟩ : ∃ sb nb pw', l[i + 1]? = some (sb, nb, pw') := ⟨_, _, _, List.getElem?_eq_getElem (by omega)⟩
  have hsplit : l = l.take i ++ (sa, na, pw) :: (sb, nb, pw') :: l.drop (i + 2) := by
    obtain ⟨h1, e1⟩ := List.getElem?_eq_some_iff.mp ea
    obtain ⟨h2, e2⟩ := List.getElem?_eq_some_iff.mp eb
    conv => lhs; rw [← List.take_append_drop i l, List.drop_eq_getElem_cons h1, e1, List.drop_eq_getElem_cons h2, e2]
  have hti : (l.take i).length = i := by rw [List.length_take]; omega
  have R0 := R
  rw [hsplit] at R
  obtain ⟨mid, R1, ⟨rfl, n1, s1, rfl, n2, s2, R2⟩⟩ := runs_app.mp R
  have := runs_le R2
  refine ws_mergeAt O C hP B (sa := sa) (na := na) (pw := pw) (sb := sa + na) (nb := nb) (pw' := pw') ?_ ?_ rfl (by omega) n1 n2 s1 s2 fun st' B' hp' hk' hs' => ?_
  · rw [← Array.getElem?_toList, hl]; exact ea
  · rw [← Array.getElem?_toList, hl]; exact eb
  have hl' : (pendingOf st').toList = l.take i ++ (sa, na + nb, pw) :: l.drop (i + 2) := by
    rw [hp', Array.toList_eraseIdxIfInBounds, Array.toList_setIfInBounds, hl]
    conv => lhs; rw [hsplit]
    rw [List.set_append_right _ _ (by omega), hti, Nat.sub_self, List.set_cons_zero, List.eraseIdx_append_of_length_le (by omega), hti, show i + 1 - i = 1 by omega]
    rfl
  refine h st' B' ?_ ?_ fun k hk => hk' k (by omega)
  · rw [hl', runs_app]
    refine ⟨sa, runs_congr (fun k k1 k2 => key_congr (hk' k (by omega))) R1, rfl, by omega, ?_, ?_⟩
    · rw [← Nat.add_assoc]; exact hs'
    · rw [← Nat.add_assoc]; exact runs_congr (fun k k1 k2 => key_congr (hk' k (by omega))) R2
  · have e1 := congrArg List.length hl'
    have e2 := congrArg List.length hsplit
    rw [Array.length_toList, List.length_append, List.length_cons] at e1
    rw [hlen, List.length_append, List.length_cons, List.length_cons] at e2
    omega

theorem ws_sortRuns {st : SortSt} {Q : Unit → SortSt → Prop} (O : Ord lt) (C : CmpOk prog w A s lt P) (hP : ∀ p ∈ a₀.toList, P p.1) (B : TB a₀ st) (hp : pendingOf st = #[])
    (h : ∀ st', TB a₀ st' → Seg lt (arrOf st') 0 a₀.size → Q () st') : wpS (model prog w) A E s sortRuns' Q st := by
  rw [sortRuns'_eq]
  refine wpS_bind (wpS_get ?_)
  dsimp only
  rw [B.size]
  generalize minRun' a₀.size a₀.size 0 = mr
  refine wpS_bind (wpS_mono (wpS_forRange (I := fun x c st' => TB a₀ st' ∧ ∃ lo, c = (none, lo) ∧ lo ≤ a₀.size ∧ (x ≤ lo ∨ lo = a₀.size) ∧ Runs lt (arrOf st') (pendingOf st').toList 0 lo)
    (Q := fun c st' => TB a₀ st' ∧ c = (none, a₀.size) ∧ Runs lt (arrOf st') (pendingOf st').toList 0 a₀.size) ?step ?fin ⟨B, 0, rfl, by omega, by omega, by rw [hp]; rfl⟩) ?post)
  case fin =>
    rintro c st' ⟨B', lo, rfl, h1, h2, R'⟩
    have : lo = a₀.size := by omega
    subst this
    exact ⟨B', rfl, R'⟩
  case step =>
    rintro x c st' _ hx ⟨B', lo, rfl, h1, h2, R'⟩
    dsimp only
    by_cases hge : lo ≥ a₀.size
    · rw [if_pos hge]
      have : lo = a₀.size := by omega
      subst this
      exact wpS_pure ⟨B', rfl, R'⟩
    rw [if_neg hge]
    refine wpS_bind (ws_countRun O C hP (by omega) (by omega) B' fun m st2 B2 o2 m1 m2 s2 => ?_)
    dsimp only
    have R2 : Runs lt (arrOf st2) (pendingOf st2).toList 0 lo := by
      rw [o2.pend]
      exact runs_congr (fun k k1 k2 => key_congr (o2.out k (by omega))) R'
    obtain ⟨post, hpost⟩ : ∃ post : ForInStep (Option Unit × Nat) → SortSt → Prop, post = fun r st' => match r with
      | .done c => TB a₀ st' ∧ c = (none, a₀.size) ∧ Runs lt (arrOf st') (pendingOf st').toList 0 a₀.size
      | .yield c => TB a₀ st' ∧ ∃ lo, c = (none, lo) ∧ lo ≤ a₀.size ∧ (x + 1 ≤ lo ∨ lo = a₀.size) ∧ Runs lt (arrOf st') (pendingOf st').toList 0 lo := ⟨_, rfl⟩
    refine wpS_mono (Q := post) ?_ fun r st' hr => by
      rw [hpost] at hr; cases r <;> exact hr
    apply cut_at (F := fun T : Nat → StateT SortSt Sem (ForInStep (Option Unit × Nat)) => ∀ n st3, TB a₀ st3 → Runs lt (arrOf st3) (pendingOf st3).toList 0 lo → 1 ≤ n → lo + n ≤ a₀.size → Seg lt (arrOf st3) lo (lo + n) → wpS (model prog w) A E s (T n) post st3)
    · intro tail
      by_cases hlt : m < mr
      · rw [if_pos hlt]
        refine wpS_bind (wpS_lift (wpAny_rule ⟨rfl, ?_⟩))
        refine wpS_bind (ws_binary O C hP (by omega) (by omega) B2 s2 fun st3 B3 o3 s3 => ?_)
        simp only [Bool.not_true, Bool.false_eq_true, if_false]
        have R3 : Runs lt (arrOf st3) (pendingOf st3).toList 0 lo := by
          rw [o3.pend]
          exact runs_congr (fun k k1 k2 => key_congr (o3.out k (by omega))) R2
        obtain ⟨n, hn⟩ : ∃ n, n = min (a₀.size - lo) mr := ⟨_, rfl⟩
        rw [← hn] at s3 ⊢
        exact tail n st3 B3 R3 (by omega) (by omega) s3
      · rw [if_neg hlt]
        exact tail m st2 B2 R2 m1 (by omega) s2
    clear s2 R2 B2 o2
    intro n st3 B3 R3 n1 n2 s3
    have ending : ∀ st4 : SortSt, TB a₀ st4 → Runs lt (arrOf st4) (pendingOf st4).toList 0 lo → Seg lt (arrOf st4) lo (lo + n) →
        wpS (model prog w) A E s (do modify fun s => setPending s ((pendingOf s).push (lo, n, 0)); pure (ForInStep.yield (none, lo + n))) post st4 := by
      intro st4 B4 R4 s4
      refine wpS_bind (wpS_modify (wpS_pure ?_))
      rw [hpost]
      refine ⟨⟨B4.perm, B4.kind, B4.failed⟩, lo + n, rfl, n2, by omega, ?_⟩
      show Runs lt (arrOf st4) ((pendingOf st4).push (lo, n, 0)).toList 0 (lo + n)
      rw [Array.toList_push, runs_app]
      exact ⟨lo, R4, rfl, n1, s4, rfl⟩
    refine wpS_bind (wpS_get ?_)
    cases hbk : (pendingOf st3).back? with
    | none => exact ending st3 B3 R3 s3
    | some run =>
      obtain ⟨s1, m1, p1⟩ := run
      dsimp only
      generalize power' a₀.size (2 * s1 + m1) (2 * s1 + m1 + m1 + n) a₀.size = pw
      refine wpS_bind (wpS_mono (wpS_forRange (I := fun _ c st' => c = (none, ()) ∧ TB a₀ st' ∧ Runs lt (arrOf st') (pendingOf st').toList 0 lo ∧ Seg lt (arrOf st') lo (lo + n))
        (Q := fun c st' => c = (none, ()) ∧ TB a₀ st' ∧ Runs lt (arrOf st') (pendingOf st').toList 0 lo ∧ Seg lt (arrOf st') lo (lo + n)) ?_ (fun _ _ hh => hh) ⟨rfl, B3, R3, s3⟩) ?_)
      · rintro y c st4 _ hy ⟨rfl, B4, R4, s4⟩
        refine wpS_bind (wpS_get ?_)
        by_cases h1 : (pendingOf st4).size > 1
        · rw [if_pos h1]
          obtain ⟨t1, t2, older, ho⟩ : ∃ t1 t2 older, (pendingOf st4)[(pendingOf st4).size - 2]? = some (t1, t2, older) := ⟨_, _, _, getElem?_pos _ _ (by omega)⟩
          rw [ho]
          dsimp only
          by_cases hold : older ≤ pw
          · rw [if_pos hold]; exact wpS_pure ⟨rfl, B4, R4, s4⟩
          rw [if_neg hold]
          refine wpS_bind (ws_mergeRuns O C hP B4 R4 (by omega) (by omega) fun st5 B5 R5 _ k5 => ?_)
          exact wpS_pure ⟨rfl, B5, R5, seg_congr (fun k k1 k2 => key_congr (k5 k k1)) s4⟩
        · rw [if_neg h1]; exact wpS_pure ⟨rfl, B4, R4, s4⟩
      · rintro c st4 ⟨rfl, B4, R4, s4⟩
        dsimp only
        refine wpS_bind (wpS_modify ?_)
        refine ending _ ⟨B4.perm, B4.kind, B4.failed⟩ ?_ s4
        show Runs lt (arrOf st4) ((pendingOf st4).modify ((pendingOf st4).size - 1) fun x => (x.1, x.2.1, pw)).toList 0 lo
        refine runs_alike ?_ R4
        apply List.ext_getElem?
        intro j
        rw [Array.toList_modify, List.getElem?_map, List.getElem?_map, List.getElem?_modify]
        cases hj : (pendingOf st4).toList[j]? with
        | none => rfl
        | some r => by_cases e : (pendingOf st4).size - 1 = j <;> simp [e]
  case post =>
    rintro c st' ⟨B', rfl, R'⟩
    dsimp only
    refine wpS_bind (wpS_mono (wpS_forRange (I := fun x c st' => c = (none, ()) ∧ TB a₀ st' ∧ Runs lt (arrOf st') (pendingOf st').toList 0 a₀.size ∧ ((pendingOf st').size ≤ 1 ∨ (pendingOf st').size + x ≤ a₀.size))
      (Q := fun c st' => c = (none, ()) ∧ TB a₀ st' ∧ Runs lt (arrOf st') (pendingOf st').toList 0 a₀.size ∧ (pendingOf st').size ≤ 1) ?_ ?_ ⟨rfl, B', R', ?_⟩) ?_)
    · rintro x c st4 _ hx ⟨rfl, B4, R4, hs4⟩
      refine wpS_bind (wpS_get ?_)
      by_cases h1 : (pendingOf st4).size ≤ 1
      · rw [if_pos h1]; exact wpS_pure ⟨rfl, B4, R4, h1⟩
      rw [if_neg h1]
      refine wpS_bind (ws_mergeRuns O C hP B4 R4 (Nat.le_refl _) (lt_of_ite (by omega) (by omega)) fun st5 B5 R5 e5 k5 => ?_)
      exact wpS_pure ⟨rfl, B5, R5, by omega⟩
    · rintro c st4 ⟨rfl, B4, R4, hs4⟩
      exact ⟨rfl, B4, R4, by omega⟩
    · have := runs_le R'
      rw [Array.length_toList] at this
      omega
    · rintro c st4 ⟨rfl, B4, R4, hs4⟩
      refine wpS_pure (h st4 B4 ?_)
      generalize hl : (pendingOf st4).toList = l at R4
      have hll : l.length ≤ 1 := by rw [← hl, Array.length_toList]; exact hs4
      match l, hll, R4 with
      | [], _, R4 =>
        have : 0 = a₀.size := R4
        intro i j _ _ hj; omega
      | [(t1, t2, t3)], _, R4 =>
        obtain ⟨rfl, _, s4, e⟩ := R4
        have e : 0 + t2 = a₀.size := e
        rw [e] at s4; exact s4
      | _ :: _ :: _, hll, _ => simp at hll
end
end Mine
end
section
open PySem PySem.W PyProof.Rows PySem.Calls PySem.SeqAt
open AutoSeq1 (wpAny_loadPart')
open MeetsSeq MeetsSeq2 MeetsSeq3 SeqRoads2
namespace Mine
/-- the order of two rows of ints -/
def lexLt : List Int → List Int → Bool
  | _, [] => false
  | [], _ :: _ => true
  | x :: xs, y :: ys => if x == y then lexLt xs ys else decide (x < y)

theorem lt_loopAt (l b : Addr) (items items2 : Array Value) (n n2 : Nat) (dd dd2 : Option Addr) (sl sl2 : Array (Option Value)) (ns ms : List Int) (hn : Paired IsI ns items.toList) (hm : Paired IsI ms items2.toList) (k : Nat) :
    ∀ i : Nat, items.size - i = k → i ≤ items.size → i ≤ items2.size → Meets (Builtin.«list.__eq__.loop» ⟨[.ref l, .ref b, rawInt i, rawInt 0], []⟩)
      (fun A R s => s.heap.get? l = some { cls := .type "list", dict := dd, data := .seq items n, slots := sl } ∧ s.heap.get? b = some { cls := .type "list", dict := dd2, data := .seq items2 n2, slots := sl2 } ∧
        R (.ok (.ret (.bool (lexLt (ns.drop i) (ms.drop i))))) s) := by
  have ln : ns.length = items.size := by rw [hn.length, Array.length_toList]
  have lm : ms.length = items2.size := by rw [hm.length, Array.length_toList]
  induction k with
  | zero =>
    intro i hk h1 h2 prog w A R s h
    obtain ⟨hp, g, d, tk, os⟩ := s; obtain ⟨hl, hb, h⟩ := h
    wp_walk using wpAny_loadPart' hl, wpAny_loadPart' hb
    have hi1 : items[((i : Nat) : Int).toNat]? = none := by simp; omega
    rw [List.drop_of_length_le (by omega)] at h
    rw [hi1]
    wp_walk using wpAny_loadPart' hl, wpAny_loadPart' hb
    show R (.ok (.ret (.bool (decide (items.size < items2.size))))) _
    have e : decide (items.size < items2.size) = lexLt [] (ms.drop i) := by
      cases hd : ms.drop i with
      | nil =>
        have := congrArg List.length hd
        rw [List.length_drop, List.length_nil] at this
        exact decide_eq_false (by omega)
      | cons y ys =>
        have := congrArg List.length hd
        rw [List.length_drop, List.length_cons] at this
        exact decide_eq_true (by omega)
    rw [e]; exact h
  | succ k ih =>
    intro i hk h1 h2 prog w A R s h
    obtain ⟨hp, g, d, tk, os⟩ := s; obtain ⟨hl, hb, h⟩ := h
    wp_walk using wpAny_loadPart' hl, wpAny_loadPart' hb
    have hlt : i < items.size := by omega
    have hi1 : items[((i : Nat) : Int).toNat]? = some items[i] := by simp [hlt]
    obtain ⟨x, ex, t, hx⟩ := paired_get (i := i) (v := items[i]) hn (by simp [hlt])
    rw [hi1]
    have dx : ns.drop i = x :: ns.drop (i + 1) := by
      obtain ⟨q1, q2⟩ := List.getElem?_eq_some_iff.mp ex
      rw [List.drop_eq_getElem_cons q1, q2]
    by_cases h3 : i < items2.size
    · have hi2 : items2[((i : Nat) : Int).toNat]? = some items2[i] := by simp [h3]
      obtain ⟨y, ey, u, hy⟩ := paired_get (i := i) (v := items2[i]) hm (by simp [h3])
      have dy : ms.drop i = y :: ms.drop (i + 1) := by
        obtain ⟨q1, q2⟩ := List.getElem?_eq_some_iff.mp ey
        rw [List.drop_eq_getElem_cons q1, q2]
      rw [hi2]
      rw [dx, dy] at h
      rw [hx, hy]
      have hc : ((i : Int) + 1) = ((i + 1 : Nat) : Int) := by push_cast; rfl
      refine wpAny_bind (EqAt.int_int x t y u prog w _ _ ?_)
      cases hxy : (x == y) with
      | true =>
        wp_walk
        rw [hc]
        exact ⟨plainId_quiet plain_eq_loop _, codeAny_builtin entry_eq_loop (by
          rw [Around.under_plainId plain_eq_loop _]
          refine ih (i + 1) (by omega) (by omega) (by omega) prog w A R _ ⟨hl, hb, ?_⟩
          unfold lexLt at h
          rw [hxy] at h
          exact h)⟩
      | false =>
        wp_walk using wpAny_loadPart' hl, wpAny_loadPart' hb
        rw [hi1, hi2]
        unfold lexLt at h
        rw [hxy] at h
        dsimp only
        rw [hx, hy]
        exact wpAny_bind (lt_int (wpAny_pure h))
    · have hi2 : items2[((i : Nat) : Int).toNat]? = none := by simp; omega
      rw [hi2]
      wp_walk using wpAny_loadPart' hl, wpAny_loadPart' hb
      show R (.ok (.ret (.bool (decide (items.size < items2.size))))) _
      rw [List.drop_of_length_le (l := ms) (by omega)] at h
      have e : decide (items.size < items2.size) = false := decide_eq_false (by omega)
      rw [e, ]
      have : lexLt (ns.drop i) [] = false := by cases ns.drop i <;> rfl
      rw [this] at h; exact h

theorem list_ltAt (l b : Addr) (items items2 : Array Value) (n n2 : Nat) (dd dd2 : Option Addr) (sl sl2 : Array (Option Value)) (ns ms : List Int) (hn : Paired IsI ns items.toList) (hm : Paired IsI ms items2.toList) :
    Meets (Builtin.«list.__lt__» ⟨[.ref l, .ref b], []⟩)
      (fun A R s => s.heap.get? l = some { cls := .type "list", dict := dd, data := .seq items n, slots := sl } ∧ s.heap.get? b = some { cls := .type "list", dict := dd2, data := .seq items2 n2, slots := sl2 } ∧
        R (.ok (.ret (.bool (lexLt ns ms)))) s) := by
  intro prog w A R s h
  obtain ⟨hp, g, d, tk, os⟩ := s; obtain ⟨hl, hb, h⟩ := h
  have f3 := AutoSeq1.sub_list_list
  wp_walk using wpAny_loadPart' hl, wpAny_loadPart' hb
  exact ⟨plainId_quiet plain_eq_loop _, codeAny_builtin entry_eq_loop (by
    rw [Around.under_plainId plain_eq_loop _]
    exact lt_loopAt l b items items2 n n2 dd dd2 sl sl2 ns ms hn hm _ 0 rfl (Nat.zero_le _) (Nat.zero_le _) prog w A R _ ⟨hl, hb, by simpa using h⟩)⟩

section
variable {prog : Program} {w : World} {A : Around} {s : Shared}
/-- v is a list of these ints at h -/
def RowAt (h : Heap) (ns : List Int) (v : Value) : Prop := ∃ l vs, v = .ref l ∧ h.IsList l vs ∧ Paired IsI ns vs.toList
theorem lt_rows {ns ms : List Int} {x y : Value} {Q : Bool → Shared → Prop} {E : Value → Shared → Prop} (hu : A.units < cLine) (hx : RowAt s.heap ns x) (hy : RowAt s.heap ms y) (h : Q (lexLt ns ms) s) :
    wpAny (model prog w) A (keyLt' oneType' x y) Q E s := by
  obtain ⟨l, vs, rfl, hl, hn⟩ := hx
  obtain ⟨b, us, rfl, hb, hm⟩ := hy
  obtain ⟨⟨cls, dd, data, sl⟩, ho, hc, n, hd⟩ := id hl
  obtain ⟨⟨cls2, dd2, data2, sl2⟩, ho2, hc2, n2, hd2⟩ := id hb
  simp only at hc hd hc2 hd2
  subst hc hd hc2 hd2
  rw [keyLt'_oneType, oneLt'_eq]
  simp only [if_true]
  refine wpAny_bind (wpAny_cRoomFor hu ?_)
  refine wpAny_bind (wpAny_callSpecialIfBound?_slot (T := "list") ⟨_, ho, rfl⟩ F.slot_list_lt (call_meets F.slot_list_lt ⟨_, ho, rfl⟩ F.entry_list_lt (F.args_list_lt_2 _ _) (list_ltAt l b vs us n n2 dd dd2 sl sl2 ns ms hn hm) ⟨ho, ho2, ?_⟩))
  exact wpAny_truthy_bool h
end
end Mine
end
section
open PySem PySem.W PyProof.Rows PySem.Calls PySem.SeqAt
namespace Mine

theorem lex_asym : ∀ (x y : List Int), lexLt x y = true → lexLt y x = false
  | [], [], h => rfl
  | _ :: _, [], h => by simp [lexLt] at h
  | [], _ :: _, h => rfl
  | a :: x, b :: y, h => by
    unfold lexLt at h ⊢
    by_cases hab : a = b
    · subst hab; simp only [beq_self_eq_true, if_true] at h ⊢; exact lex_asym x y h
    · have hba : ¬ b = a := fun e => hab e.symm
      simp only [beq_eq_false_iff_ne.mpr hab, beq_eq_false_iff_ne.mpr hba, Bool.false_eq_true, if_false, decide_eq_true_eq, decide_eq_false_iff_not] at h ⊢
      omega
theorem lex_trans : ∀ (x y z : List Int), lexLt y x = false → lexLt z y = false → lexLt z x = false
  | [], y, z, _, _ => by cases z <;> rfl
  | _ :: _, [], z, h, _ => by simp [lexLt] at h
  | _ :: _, _ :: _, [], _, h => by simp [lexLt] at h
  | a :: x, b :: y, c :: z, h, k => by
    unfold lexLt at h k ⊢
    by_cases hba : b = a
    · subst hba
      simp only [beq_self_eq_true, if_true] at h
      by_cases hcb : c = b
      · subst hcb; simp only [beq_self_eq_true, if_true] at k ⊢; exact lex_trans x y z h k
      · simpa [hcb] using k
    · simp only [beq_eq_false_iff_ne.mpr hba, Bool.false_eq_true, if_false, decide_eq_false_iff_not] at h
      by_cases hcb : c = b
      · subst hcb
        simp only [beq_eq_false_iff_ne.mpr hba, Bool.false_eq_true, if_false, decide_eq_false_iff_not]; omega
      · simp only [beq_eq_false_iff_ne.mpr hcb, Bool.false_eq_true, if_false, decide_eq_false_iff_not] at k
        have hca : ¬ c = a := by omega
        simp only [beq_eq_false_iff_ne.mpr hca, Bool.false_eq_true, if_false, decide_eq_false_iff_not]; omega
theorem lex_anti : ∀ (x y : List Int), lexLt x y = false → lexLt y x = false → x = y
  | [], [], _, _ => rfl
  | _ :: _, [], _, h => by simp [lexLt] at h
  | [], _ :: _, h, _ => by simp [lexLt] at h
  | a :: x, b :: y, h, k => by
    unfold lexLt at h k
    by_cases hab : a = b
    · subst hab; simp only [beq_self_eq_true, if_true] at h k; rw [lex_anti x y h k]
    · have hba : ¬ b = a := fun e => hab e.symm
      simp only [beq_eq_false_iff_ne.mpr hab, beq_eq_false_iff_ne.mpr hba, Bool.false_eq_true, if_false, decide_eq_false_iff_not] at h k
      omega
/-- rising rows -/
def Rising (rows : List (List Int)) : Prop := rows.Pairwise fun p q => lexLt q p = false
theorem rising_eq : ∀ {a b : List (List Int)}, a.Perm b → Rising a → Rising b → a = b
  | [], b, h, _, _ => h.nil_eq
  | x :: a, [], h, _, _ => absurd h.symm.nil_eq (by simp)
  | x :: a, y :: b, h, ha, hb => by
    obtain ⟨hx, ha'⟩ := List.pairwise_cons.mp ha
    obtain ⟨hy, hb'⟩ := List.pairwise_cons.mp hb
    have hr : ∀ z : List Int, lexLt z z = false := fun z => by
      cases e : lexLt z z with
      | false => rfl
      | true => rw [lex_asym z z e] at e; cases e
    have e : x = y := by
      have m1 : x ∈ y :: b := h.mem_iff.mp (.head _)
      have m2 : y ∈ x :: a := h.mem_iff.mpr (.head _)
      refine lex_anti x y ?_ ?_
      · rcases List.mem_cons.mp m1 with rfl | m
        · exact hr _
        · exact hy x m
      · rcases List.mem_cons.mp m2 with rfl | m
        · exact hr _
        · exact hx y m
    subst e
    rw [rising_eq ((List.perm_cons x).mp h) ha' hb']

/-- the ints that a list holds -/
def rowOf (h : Heap) : Value → List Int
  | .ref l => match h.get? l with
    | some o => match o.data with
      | .seq items _ => items.toList.map numOf
      | _ => []
    | none => []
  | _ => []
theorem row_eq {h : Heap} {ns : List Int} {v : Value} (r : RowAt h ns v) : rowOf h v = ns := by
  obtain ⟨l, vs, rfl, ⟨o, e, _, n, hd⟩, hp⟩ := r
  unfold rowOf
  simp only [e, hd]
  generalize vs.toList = us at hp
  induction hp with
  | nil => rfl
  | cons h1 _ ih => obtain ⟨t, rfl⟩ := h1; rw [List.map_cons, ih]; rfl
theorem RowAt.keeps {h h' : Heap} {ns : List Int} {v : Value} (r : RowAt h ns v) (k : ∀ b o, h.get? b = some o → h'.get? b = some o) : RowAt h' ns v := by
  obtain ⟨l, vs, rfl, hl, hp⟩ := r
  exact ⟨l, vs, rfl, hl.at fun o e => k _ o e, hp⟩

section
variable {prog : Program} {w : World} {A : Around} {E : Value → Shared → Prop} {s : Shared}
theorem rows_ord (h : Heap) : Ord (fun x y => lexLt (rowOf h x) (rowOf h y)) := ⟨fun x y => lex_asym _ _, fun x y z => lex_trans _ _ _⟩
theorem paired_mem {α : Type} {F : α → Value → Prop} {as : List α} {vs : List Value} (h : Paired F as vs) : ∀ v ∈ vs, ∃ a, F a v := by
  intro v hv
  obtain ⟨i, hi⟩ := List.getElem?_of_mem hv
  obtain ⟨a, _, ha⟩ := paired_get h hi
  exact ⟨a, ha⟩

theorem rows_map {h : Heap} {rows : List (List Int)} {vs : List Value} (hI : Paired (RowAt h) rows vs) : rows = vs.map (rowOf h) := by
  induction hI with
  | nil => rfl
  | cons h1 _ ih => rw [List.map_cons, row_eq h1, ← ih]
theorem sort_rows {a : Addr} {vs : List Value} {rows : List (List Int)} {n : Nat} {h₀ : Heap} {P : PySem.Fin → Shared → Prop} (ho : s.heap.get? a = some (seqObj "list" vs.toArray n)) (ha0 : h₀.get? a = none) (hk : ∀ b o, h₀.get? b = some o → s.heap.get? b = some o)
    (hI : Paired (RowAt h₀) rows vs) (hsz : vs.length ≤ 1048576) (hu : A.units < cLine)
    (h : ∀ (out : List Value) (rows' : List (List Int)), Paired (RowAt h₀) rows' out → rows'.Perm rows → Rising rows' → P (.done (.ret .none)) { s with heap := sortedHeap s.heap a vs out.toArray }) :
    wpAny (model prog w) A (Builtin.«list.sort» ⟨[.ref a], []⟩) P E s := by
  rw [list_sort_plain]
  have ha : a < s.heap.objs.size := Heap.lt_size ho
  refine wpAny_bind (listItems_at ho rfl ?_)
  refine wpAny_bind (listUpdate_at ho rfl ?_ (by rw [List.size_toArray, sizeLine_eq]; omega) (Nat.zero_le _))
  obtain ⟨e1, ho1⟩ : ∃ e1, (s.heap.update a (Obj.mapSeq fun _ => #[])).get? a = some (seqObj "list" #[] e1) := ⟨_, get?_update_seq ho (fun _ => #[])⟩
  have s1 := Heap.SameBut.update s.heap a (Obj.mapSeq fun _ => (#[] : Array Value))
  refine wpAny_bind (seqEpoch_at ho1 rfl ?_)
  refine wpAny_bind (wpAny_newTuple ?_ (by show vs.length ≤ _; rw [sizeLine_eq]; omega))
  refine wpAny_bind (wpAny_newList ?_ (Nat.zero_le _))
  refine wpAny_holding ?_
  obtain ⟨H, hH⟩ : ∃ H, H = ((s.heap.update a (Obj.mapSeq fun _ => (#[] : Array Value))).push (seqObj "tuple" vs.toArray 0)).push (seqObj "list" #[] 0) := ⟨_, rfl⟩
  have ho6 : H.get? a = some (seqObj "list" #[] e1) := by rw [hH]; exact Heap.get?_push_of_some _ (Heap.get?_push_of_some _ ho1)
  have k6 : ∀ b o, h₀.get? b = some o → H.get? b = some o := fun b o e => by
    rw [hH]
    refine Heap.get?_push_of_some _ (Heap.get?_push_of_some _ (s1.extBut b o (fun e' => ?_) (hk b o e)))
    subst e'; rw [ha0] at e; cases e
  show wpAny (model prog w) A _ P E { s with heap := ((s.heap.update a (Obj.mapSeq fun _ => #[])).push (seqObj "tuple" vs.toArray 0)).push (seqObj "list" #[] 0) }
  rw [← hH]
  dsimp only
  have hvl : vs.toArray.size = vs.length := by simp
  have fin : ∀ st' : SortSt, (arrOf st').Perm (pairsOf vs) → Seg (fun x y => lexLt (rowOf h₀ x) (rowOf h₀ y)) (arrOf st') 0 (pairsOf vs).size →
      P (.done (.ret .none)) { s with heap := H.update a (Obj.mapSeq fun _ => (arrOf st').map (·.2)) } := by
    intro st' hp hs
    have hl : (arrOf st').toList.Perm (vs.zip vs) := by rw [← pairsOf_toList]; exact Array.perm_iff_toList_perm.mp hp
    have hfs : ∀ p ∈ (arrOf st').toList, p.1 = p.2 := fun p hp' => by
      have := hl.mem_iff.mp hp'
      obtain ⟨i, hi⟩ := List.getElem?_of_mem this
      rw [List.getElem?_zip_eq_some] at hi
      have := hi.1.symm.trans hi.2
      injection this
    have hov : ((arrOf st').map (·.2)).toList.Perm vs := by
      rw [Array.toList_map]
      have := hl.map Prod.snd
      rwa [List.map_snd_zip (Nat.le_refl _)] at this
    have hrv : rows = vs.map (rowOf h₀) := rows_map hI
    have hrow : ∀ v ∈ ((arrOf st').map (·.2)).toList, RowAt h₀ (rowOf h₀ v) v := fun v hv => by
      obtain ⟨ns, hr⟩ := paired_mem hI v (hov.mem_iff.mp hv)
      rw [row_eq hr]; exact hr
    have hpw : Rising (((arrOf st').map (·.2)).toList.map (rowOf h₀)) := by
      unfold Rising
      rw [Array.toList_map, List.map_map]
      rw [List.pairwise_map]
      have hsz2 : (pairsOf vs).size = (arrOf st').size := hp.size_eq.symm
      rw [hsz2] at hs
      have w := seg_pw (Nat.le_refl _) hs
      rw [ext_tl, List.drop_zero] at w
      refine w.imp_of_mem fun {p q} hp' hq' hpq => ?_
      show lexLt (rowOf h₀ q.2) (rowOf h₀ p.2) = false
      rw [← hfs p hp', ← hfs q hq']; exact hpq
    have := h ((arrOf st').map (·.2)).toList (((arrOf st').map (·.2)).toList.map (rowOf h₀)) (paired_of (by rw [List.length_map]) fun j y r hy hr => ?_) (by rw [hrv]; exact hov.map _) hpw
    · unfold sortedHeap at this
      rw [hH]
      rw [Array.toArray_toList] at this
      exact this
    · rw [List.getElem?_map, hy] at hr
      cases hr
      exact hrow y (List.mem_of_getElem? hy)
  by_cases h2 : vs.toArray.size < 2
  · rw [if_pos h2, if_pos h2]
    refine wpAny_bind (wpAny_pure ?_)
    rw [StateT.run_pure]
    refine wpAny_bind (wpAny_pure ?_)
    dsimp only
    refine wpAny_bind (seqEpoch_at ho6 rfl ?_)
    refine wpAny_bind (listUpdate_at ho6 rfl ?_ (Nat.zero_le _) (by rw [Array.size_map]; show (pairsOf vs).size ≤ _; rw [pairsOf_size, sizeLine_eq]; omega))
    simp only [bne_self_eq_false, Bool.false_eq_true, if_false]
    refine wpAny_pure (fin (SortSt.mk' general' (vs.toArray.zip vs.toArray) #[] 7 none) (Array.Perm.refl _) ?_)
    intro i j _ hij hj
    have : i = j := by rw [pairsOf_size] at hj; omega
    subst this; exact (rows_ord h₀).refl _
  · rw [if_neg h2, if_neg h2]
    refine wpAny_bind (kas_kind (T := .type "list") (by omega) (fun v hv => ?_) (by decide) (by decide) ?_)
    · obtain ⟨ns, l, us, rfl, hl, _⟩ := paired_mem hI v hv
      intro A Q E s' kk q
      obtain ⟨o, e, hc, _⟩ := hl
      exact wpAny_typeOf (T := "list") ⟨o, kk _ _ (k6 _ _ e), hc⟩ q
    have C : CmpOk prog w A { s with heap := H } (fun x y => lexLt (rowOf h₀ x) (rowOf h₀ y)) (fun v => ∃ ns, RowAt h₀ ns v) := by
      rintro x y E Q ⟨ns, hx⟩ ⟨ms, hy⟩ hq
      dsimp only at hq
      rw [row_eq hx, row_eq hy] at hq
      exact lt_rows hu (hx.keeps k6) (hy.keeps k6) hq
    refine wpAny_bind (wpAny_mono (ws_sortRuns (a₀ := pairsOf vs) (st := SortSt.mk' oneType' (vs.toArray.zip vs.toArray) #[] 7 none)
      (Q := fun _ st' => TB (pairsOf vs) st' ∧ Seg (fun x y => lexLt (rowOf h₀ x) (rowOf h₀ y)) (arrOf st') 0 (pairsOf vs).size) (rows_ord h₀) C ?_ ⟨Array.Perm.refl _, rfl, rfl⟩ rfl fun st' a1 a2 => ⟨a1, a2⟩) ?_ fun _ _ e => e)
    · intro p hp
      rw [pairsOf_toList] at hp
      exact paired_mem hI _ (List.of_mem_zip hp).1
    rintro ⟨⟨⟩, st'⟩ s' ⟨rfl, hB, hs⟩
    dsimp only
    refine wpAny_bind (seqEpoch_at ho6 rfl ?_)
    refine wpAny_bind (listUpdate_at ho6 rfl ?_ (Nat.zero_le _) (by refine Nat.le_trans (Nat.le_of_eq ((Array.size_map ..).trans (hB.perm.size_eq.trans (pairsOf_size _)))) ?_; rw [sizeLine_eq]; omega))
    rw [hB.failed]
    simp only [bne_self_eq_false, Bool.false_eq_true, if_false]
    exact wpAny_pure (fin st' hB.perm hs)
end
end Mine
end
section
open PySem PySem.W PyProof.Rows PySem.Calls PySem.SeqAt
namespace Mine
section
variable {prog : Program} {w : World} {A : Around} {s₀ : Shared}
theorem ev_sorted {l : Addr} {vs : List Value} {rows : List (List Int)} (hl : s₀.heap.IsList l vs.toArray) (hI : Paired (RowAt s₀.heap) rows vs) (hsz : vs.length ≤ 1048576) (hu : A.units + 2 < cLine) :
    Ev prog w A s₀ (call (.builtin "sorted") [.ref l]) (fun v c => ∃ D out rows', v = .ref D ∧ c.heap.PlainList D (List.toArray out) ∧ Paired (RowAt c.heap) rows' out ∧ rows'.Perm rows ∧ Rising rows' ∧ s₀.heap.get? D = none) := by
  intro s E k
  have hl : s.heap.IsList l vs.toArray := hl.at fun o e => kp_get k e
  have hI : Paired (RowAt s.heap) rows vs := paired_mono hI fun _ _ r => r.keeps (kp_keep k)
  refine Calls.call_function_entry kind_sorted plain_sorted entry_sorted (args_sorted1 _) ?_
  unfold Builtin.«sorted»
  refine wpAny_bind (m := checkCount "sorted" 1 1 _) (wpAny_pure ?_)
  refine wpAny_bind (collect_list hl ?_ (by rw [sizeLine_eq]; omega))
  refine wpAny_bind (wpAny_newList ?_ (by rw [sizeLine_eq]; omega))
  obtain ⟨H, hH⟩ : ∃ H, H = (s.heap.push (seqObj "list" #[] 0)).update s.heap.objs.size (Obj.mapSeq (· ++ vs.toArray)) := ⟨_, rfl⟩
  have s1 : Heap.SameBut s.heap.objs.size (s.heap.push (seqObj "list" #[] 0)) H := by rw [hH]; exact Heap.SameBut.update _ _ _
  have hHs : H.objs.size = s.heap.objs.size + 1 := by rw [hH, Heap.size_update, size_push']
  have hHk : ∀ b o, s.heap.get? b = some o → H.get? b = some o := fun b o e => s1.extBut b o (neL (lts e)) (Heap.get?_push_of_some _ e)
  show wpAny _ _ _ _ _ { s with heap := ((s.heap.push (seqObj "list" #[] 0)).update s.heap.objs.size (Obj.mapSeq (· ++ vs.toArray))).push (seqObj "list" vs.toArray 0) }
  rw [← hH]
  have hoL : (H.push (seqObj "list" vs.toArray 0)).get? H.objs.size = some (seqObj "list" vs.toArray 0) := Heap.get?_push_size _ rfl
  have hkL : ∀ b o, s.heap.get? b = some o → (H.push (seqObj "list" vs.toArray 0)).get? b = some o := fun b o e => Heap.get?_push_of_some _ (hHk b o e)
  have hnew : s.heap.get? H.objs.size = none := by
    cases e : s.heap.get? H.objs.size with
    | none => rfl
    | some o => have := lts e; omega
  refine wpAny_bind (wpAny_holding (wpAny_call_entry slot_list_sort ⟨_, hoL, rfl⟩ entry_list_sort (sort_rows (h₀ := s.heap) hoL hnew hkL hI hsz (by show A.units + 1 + 1 < cLine; omega) fun out rows' a1 a2 a3 => ⟨_, rfl, ?_⟩) (args_list_sort _)))
  refine wpAny_pure ⟨_, rfl, ?_⟩
  -- the end's heap
  obtain ⟨H2, hH2⟩ : ∃ H2, H2 = (((H.push (seqObj "list" vs.toArray 0)).update H.objs.size (Obj.mapSeq fun _ => (#[] : Array Value))).push (seqObj "tuple" vs.toArray 0)).push (seqObj "list" #[] 0) := ⟨_, rfl⟩
  have s2 := Heap.SameBut.update (H.push (seqObj "list" vs.toArray 0)) H.objs.size (Obj.mapSeq fun _ => (#[] : Array Value))
  obtain ⟨e1, ho1⟩ : ∃ e1, ((H.push (seqObj "list" vs.toArray 0)).update H.objs.size (Obj.mapSeq fun _ => #[])).get? H.objs.size = some (seqObj "list" #[] e1) := ⟨_, get?_update_seq hoL (fun _ => #[])⟩
  have ho2 : H2.get? H.objs.size = some (seqObj "list" #[] e1) := by rw [hH2]; exact Heap.get?_push_of_some _ (Heap.get?_push_of_some _ ho1)
  have s3 := Heap.SameBut.update H2 H.objs.size (Obj.mapSeq fun _ => out.toArray)
  have hfin : sortedHeap (H.push (seqObj "list" vs.toArray 0)) H.objs.size vs out.toArray = H2.update H.objs.size (Obj.mapSeq fun _ => out.toArray) := by rw [hH2]; rfl
  have kfin : ∀ b o, s.heap.get? b = some o → (sortedHeap (H.push (seqObj "list" vs.toArray 0)) H.objs.size vs out.toArray).get? b = some o := fun b o e => by
    have hne : b ≠ H.objs.size := fun e' => by subst e'; rw [hnew] at e; cases e
    rw [hfin]
    refine s3.extBut b o hne ?_
    rw [hH2]
    exact Heap.get?_push_of_some _ (Heap.get?_push_of_some _ (s2.extBut b o hne (hkL b o e)))
  refine ⟨⟨H.objs.size, out, rows', rfl, ⟨_, by rw [hfin]; exact get?_update_seq ho2 _⟩, paired_mono a1 fun _ _ r => r.keeps kfin, a2, a3, none_of k hnew⟩, ⟨_, _, rfl, kfin⟩⟩

theorem eq_rowAt {ns : List Int} {x y : Value} {s : Shared} (hu : A.units < cLine) (hx : RowAt s.heap ns x) (hy : RowAt s.heap ns y) : EqAt A s x y true := by
  obtain ⟨l, vs, rfl, hl, hn⟩ := hx
  obtain ⟨b, us, rfl, hb, hm⟩ := hy
  by_cases hlb : l = b
  · subst hlb; exact EqAt.same _
  · have hsz : vs.size = us.size := by rw [← Array.length_toList, ← Array.length_toList, ← hn.length, ← hm.length]
    have := RcAt.lists (e := fun _ => true) hl hb hsz hu (A := A) fun j h1 h2 => by
      obtain ⟨p, ep, t, hp⟩ := paired_get (i := j) (v := vs[j]) hn (by simp [h1])
      obtain ⟨q, eq, u, hq⟩ := paired_get (i := j) (v := us[j]) hm (by simp [h2])
      rw [ep] at eq; cases eq
      rw [hp, hq]
      have := EqAt.int_int (A := A.in1) (s := s) p t p u
      rwa [beq_self_eq_true] at this
    have e : (List.range vs.size).all (fun _ => true) = true := by simp
    rw [e] at this
    exact EqAt.of_refs hlb this
theorem ev_eqRows {D1 D2 : Addr} {out1 out2 : List Value} {rows : List (List Int)} (hu : A.units + 1 < cLine) (h1 : s₀.heap.IsList D1 out1.toArray) (h2 : s₀.heap.IsList D2 out2.toArray) (p1 : Paired (RowAt s₀.heap) rows out1) (p2 : Paired (RowAt s₀.heap) rows out2) :
    Ev prog w A s₀ (compareOp .Eq (.ref D1) (.ref D2)) (fun v _ => IsB true v) := by
  intro s E k
  have hsz : out1.length = out2.length := by rw [← p1.length, ← p2.length]
  refine eq_listAt (e := fun _ => true) (h1.at fun o e => kp_get k e) (h2.at fun o e => kp_get k e) (by simpa using hsz) (by omega) (fun j g1 g2 => ?_) ⟨by show Value.bool _ = Value.bool _; simp, kp_refl _⟩
  have g1' : j < out1.length := by simpa using g1
  have g2' : j < out2.length := by simpa using g2
  obtain ⟨p, ep, hp⟩ := paired_get (i := j) (v := out1[j]) p1 (by simp [g1'])
  obtain ⟨q, eq, hq⟩ := paired_get (i := j) (v := out2[j]) p2 (by simp [g2'])
  rw [ep] at eq; cases eq
  simp only [List.getElem_toArray]
  exact eq_rowAt (A := A.in1) (by show A.units + 1 < cLine; omega) (hp.keeps (kp_keep k)) (hq.keeps (kp_keep k))
end
end Mine
end
section
open PySem PySem.W PyProof.Rows PySem.Calls PySem.SeqAt
namespace Mine
section
variable {prog : Program} {w : World} {A : Around} {s₀ : Shared} {env : Env}

/-- texts -/
theorem ev_lenS {x : Str} {v : Value} (h : IsS x v) (hsz : x.length ≤ 1048576) : Ev prog w A s₀ (call (.builtin "len") [v]) (fun u _ => IsI x.length u) := by
  obtain ⟨t, rfl⟩ := h
  exact fun s E _ => PySem.P.len_str (by omega) ⟨⟨_, rfl⟩, kp_tok _ _⟩
theorem ev_idxS {value slice : Expr} {pos : Pos} {x : Str} {i : Int} {c : Nat} (hv : Ev prog w A s₀ (eval value env) (fun v _ => IsS x v)) (hi : Ev prog w A s₀ (eval slice env) (fun v _ => IsI i v)) (hr : (decide (i < -(2 ^ 63 : Int)) || decide (i ≥ 2 ^ 63)) = false)
    (hc : (seqIndex? i x.length).bind (x.cps[·]?) = some c)
    (hs : ∀ t u, subscripted slice false (.str x t) (.int i u) = operate [.str x t, .int i u] (getItem (.str x t) (.int i u)) := by intro _ _; with_unfolding_all rfl)
    (ht : ∀ o r, letTemporaryGo value o r = pure () := by intro _ _; rfl) :
    Ev prog w A s₀ (eval (.Subscript value slice pos) env) (fun v _ => IsS ⟨#[c]⟩ v) :=
  Ev.of fun s Q E k hQ => Subscript_ (hv.at k fun o s₁ k₁ ho => hi.at (kp_trans k k₁) fun iv s₂ k₂ hiv => by
    obtain ⟨t, rfl⟩ := ho
    obtain ⟨u, rfl⟩ := hiv
    exact subscriptTail_builtin (typeIs_str _ _ _) F.slot_str_getitem.lookup (PySem.P.getItem_str hr hc (hQ _ _ (kp_trans (kp_trans k₁ k₂) (kp_tok _ _)) ⟨_, rfl⟩)) (hs _ _) (ht _))
theorem kept_h (h₀ : Heap) : KeptH fun h => ∀ b o, h₀.get? b = some o → h.get? b = some o := fun _ _ k b o e => Heap.get?_push_of_some _ (k b o e)
theorem ev_sliceS1 {value l : Expr} {p pos : Pos} {x : Str} {i : Int} (hv : Ev prog w A s₀ (eval value env) (fun v _ => IsS x v)) (hi : Ev prog w A s₀ (eval l env) (fun v _ => IsI i v)) (hsz : x.length ≤ sizeLine)
    (ht : ∀ o r, letTemporaryGo value o r = pure () := by intro _ _; rfl) :
    Ev prog w A s₀ (eval (.Subscript value (.Slice (some l) none none p) pos) env) (fun v _ => IsS (Txt.slice x (some i) none) v) :=
  Ev.of fun s Q E k hQ => Subscript_Slice (hv.at k fun o s₁ k₁ ho => wpAny_Slice (wpAny_evalPart_some (hi.at (kp_trans k k₁) fun iv s₂ k₂ hiv => wpAny_evalPart_none (wpAny_evalPart_none (by
    obtain ⟨t, rfl⟩ := ho
    obtain ⟨u, rfl⟩ := hiv
    exact SBH.sliceItem_sn (kept_h s₂.heap) (fun b o e => e) (fun h' t' tk kk => hQ _ _ (kp_trans (kp_trans k₁ k₂) ⟨h', tk, rfl, kk⟩) ⟨t', rfl⟩) hsz))))) ht
theorem ev_sliceS2 {value l u : Expr} {p pos : Pos} {x : Str} {i j : Int} (hv : Ev prog w A s₀ (eval value env) (fun v _ => IsS x v)) (hi : Ev prog w A s₀ (eval l env) (fun v _ => IsI i v)) (hj : Ev prog w A s₀ (eval u env) (fun v _ => IsI j v)) (hsz : x.length ≤ sizeLine)
    (ht : ∀ o r, letTemporaryGo value o r = pure () := by intro _ _; rfl) :
    Ev prog w A s₀ (eval (.Subscript value (.Slice (some l) (some u) none p) pos) env) (fun v _ => IsS (Txt.slice x (some i) (some j)) v) :=
  Ev.of fun s Q E k hQ => Subscript_Slice (hv.at k fun o s₁ k₁ ho => wpAny_Slice (wpAny_evalPart_some (hi.at (kp_trans k k₁) fun iv s₂ k₂ hiv => wpAny_evalPart_some (hj.at (kp_trans (kp_trans k k₁) k₂) fun jv s₃ k₃ hjv => wpAny_evalPart_none (by
    obtain ⟨t, rfl⟩ := ho
    obtain ⟨_, rfl⟩ := hiv
    obtain ⟨_, rfl⟩ := hjv
    exact SBH.sliceItem_ss (kept_h s₃.heap) (fun b o e => e) (fun h' t' tk kk => hQ _ _ (kp_trans (kp_trans (kp_trans k₁ k₂) k₃) ⟨h', tk, rfl, kk⟩) ⟨t', rfl⟩) hsz))))) ht
theorem ev_tEqS {l r : Expr} {pos : Pos} {whole : Sem Value} {x y : Str} (h1 : Ev prog w A s₀ (eval l env) (fun v _ => IsS x v)) (h2 : Ev prog w A s₀ (eval r env) (fun v _ => IsS y v)) :
    Ev prog w A s₀ (isTrue (.Compare l [.Eq] [r] pos) env whole) (fun c _ => c = (x.cps.toList == y.cps.toList)) :=
  ev_tcmp h1 h2 (fun _ _ ⟨_, e1⟩ ⟨_, e2⟩ => by subst e1 e2; exact ev_same (fun s Q E h => PySem.P.eq_str h) rfl) (bim rfl r)
/-- e1 and e2, of bools, as a value -/
theorem ev_bandB {e₁ e₂ : Expr} {pos : Pos} {c d : Bool} (h₁ : Ev prog w A s₀ (eval e₁ env) (fun v _ => IsB c v)) (h₂ : Ev prog w A s₀ (eval e₂ env) (fun v _ => IsB d v)) :
    Ev prog w A s₀ (eval (.BoolOp .And [e₁, e₂] pos) env) (fun v _ => IsB (c && d) v) :=
  Ev.of fun s Q E k hQ => BoolOp_and (h₁.at k fun v s₁ k₁ hv => by
    cases hv
    refine wpAny_truthy_bool ?_
    cases c with
    | false => exact hQ _ _ k₁ rfl
    | true => exact BoolOp_one (h₂.at (kp_trans k k₁) fun v s₂ k₂ hv => hQ _ _ (kp_trans k₁ k₂) (by cases hv; rfl)))
/-- an item of a list -/
theorem ev_idxL {value slice : Expr} {pos : Pos} {l : Addr} {vs : List Value} {i : Int} {x : Value} (hv : Ev prog w A s₀ (eval value env) (fun v _ => v = .ref l)) (hl : s₀.heap.IsList l vs.toArray) (hi : Ev prog w A s₀ (eval slice env) (fun v _ => IsI i v))
    (h0 : 0 ≤ i) (hhi : i < 2 ^ 63) (hx : vs[i.toNat]? = some x)
    (hs : ∀ u, subscripted slice false (.ref l) (.int i u) = operate [.ref l, .int i u] (getItem (.ref l) (.int i u)) := by intro _; with_unfolding_all rfl)
    (ht : ∀ o r, letTemporaryGo value o r = pure () := by intro _ _; rfl) :
    Ev prog w A s₀ (eval (.Subscript value slice pos) env) (fun v _ => v = x) :=
  Ev.of fun s Q E k hQ => Subscript_ (hv.at k fun o s₁ k₁ ho => hi.at (kp_trans k k₁) fun iv s₂ k₂ hiv => by
    subst ho
    obtain ⟨u, rfl⟩ := hiv
    have hl₂ : s₂.heap.IsList l vs.toArray := hl.at fun o e => kp_get (kp_trans (kp_trans k k₁) k₂) e
    obtain ⟨o, ho, hc, _⟩ := id hl₂
    exact subscriptTail_builtin (T := "list") ⟨o, ho, hc⟩ F.slot_list_getitem.lookup (wpAny_getItem_list hl₂ h0 hhi (by simpa using hx) (hQ _ _ (kp_trans k₁ k₂) rfl)) (hs _) (ht _))
theorem ev_idxLneg {value slice : Expr} {pos : Pos} {l : Addr} {vs : List Value} {i : Int} {x : Value} (hv : Ev prog w A s₀ (eval value env) (fun v _ => v = .ref l)) (hl : s₀.heap.IsList l vs.toArray) (hi : Ev prog w A s₀ (eval slice env) (fun v _ => IsI i v))
    (h0 : i < 0) (h1 : -(vs.length : Int) ≤ i) (hlo : -(2 ^ 63) ≤ i) (hx : vs[(i + vs.length).toNat]? = some x)
    (hs : ∀ u, subscripted slice false (.ref l) (.int i u) = operate [.ref l, .int i u] (getItem (.ref l) (.int i u)) := by intro _; with_unfolding_all rfl)
    (ht : ∀ o r, letTemporaryGo value o r = pure () := by intro _ _; rfl) :
    Ev prog w A s₀ (eval (.Subscript value slice pos) env) (fun v _ => v = x) :=
  Ev.of fun s Q E k hQ => Subscript_ (hv.at k fun o s₁ k₁ ho => hi.at (kp_trans k k₁) fun iv s₂ k₂ hiv => by
    subst ho
    obtain ⟨u, rfl⟩ := hiv
    have hl₂ : s₂.heap.IsList l vs.toArray := hl.at fun o e => kp_get (kp_trans (kp_trans k k₁) k₂) e
    obtain ⟨o, ho, hc, _⟩ := id hl₂
    exact subscriptTail_builtin (T := "list") ⟨o, ho, hc⟩ F.slot_list_getitem.lookup (wpAny_getItem_list_neg hl₂ h0 (by simpa using h1) hlo (by simpa using hx) (hQ _ _ (kp_trans k₁ k₂) rfl)) (hs _) (ht _))
theorem ev_truL {l : Addr} {vs : List Value} (hl : s₀.heap.IsList l vs.toArray) (hsz : vs.length ≤ 1048576) : ∀ v, v = .ref l → Ev prog w A s₀ (truthy v) (fun c _ => c = decide (0 < vs.length)) := by
  rintro v rfl s E k
  refine wpAny_truthy_list (hl.at fun o e => kp_get k e) (by simp; omega) ⟨?_, kp_tok _ _⟩
  cases vs <;> simp
/-- list + list -/
theorem ev_addL {le re : Expr} {pos : Pos} {P2 : List Value → Prop} {vs : List Value} (h1 : Ev prog w A s₀ (eval le env) (fun v c => ∃ l, v = .ref l ∧ c.heap.IsList l vs.toArray)) (h2 : ∀ s₁, Keeps s₀ s₁ → Ev prog w A s₁ (eval re env) (fun v c => ∃ l ws, v = .ref l ∧ c.heap.IsList l (List.toArray ws) ∧ P2 ws))
    (hsz : ∀ ws, P2 ws → vs.length + ws.length ≤ sizeLine) : Ev prog w A s₀ (eval (.BinOp le .Add re pos) env) (fun v c => ∃ l ws, v = .ref l ∧ c.heap.IsList l (vs ++ ws).toArray ∧ P2 ws ∧ s₀.heap.get? l = none) :=
  Ev.of fun s Q E k hQ => wpAny_BinOp (h1.at k fun a s₁ k₁ pa => (h2 s₁ (kp_trans k k₁)).use fun b s₂ k₂ pb => by
    obtain ⟨l, rfl, hl⟩ := pa
    obtain ⟨b, ws, rfl, hb, hws⟩ := pb
    have hl : s₂.heap.IsList l vs.toArray := hl.at fun o e => kp_get k₂ e
    obtain ⟨⟨cls, dd, data, sl⟩, ho, hc, n, hd⟩ := id hl
    obtain ⟨⟨cls2, dd2, data2, sl2⟩, ho2, hc2, n2, hd2⟩ := id hb
    simp only at hc hd hc2 hd2
    subst hc hd hc2 hd2
    refine concat_meets ⟨_, ho, rfl⟩ ⟨_, ho2, rfl⟩ noFill_list_add seq_list_add PySem.F.slot_list_add PySem.F.entry_list_add (PySem.F.args_list_add_2 _ _) (list_addW l b vs.toArray ws.toArray n n2 dd dd2 sl sl2 (by simpa using hsz ws hws)) ⟨ho, ho2, ?_⟩
    refine hQ _ _ (kp_trans (kp_trans k₁ k₂) (kp_push _ _)) ⟨_, ws, rfl, ⟨_, push_live, rfl, 0, by simp⟩, hws, kp_new (kp_trans (kp_trans k k₁) k₂)⟩)
/-- displays -/
theorem ev_List0 {pos : Pos} : Ev prog w A s₀ (eval (.List [] pos) env) (fun v c => ∃ l, v = .ref l ∧ c.heap.PlainList l #[] ∧ s₀.heap.get? l = none) :=
  (ev_List (P := fun vs _ => vs = []) (Ev.of fun s Q E k hQ => spliced_none (hQ _ _ (kp_refl _) rfl)) (fun vs s h => by subst h; exact Nat.zero_le _) (fun _ _ _ _ h => h)).mono fun v c _ ⟨l, vs, h1, h2, h3, h4⟩ => ⟨l, h1, by subst h3; exact h2, h4⟩
theorem ev_List1 {e : Expr} {pos : Pos} {P : Value → Shared → Prop} (h : Ev prog w A s₀ (eval e env) P) (hm : ∀ v s s', Keeps s s' → P v s → P v s') (he : starEach [e] env = (false, eval e env) :: starEach [] env := by rfl) :
    Ev prog w A s₀ (eval (.List [e] pos) env) (fun v c => ∃ l x, v = .ref l ∧ c.heap.PlainList l #[x] ∧ P x c ∧ s₀.heap.get? l = none) :=
  (ev_List (P := fun vs c => ∃ x, vs = [x] ∧ P x c) (Ev.of fun s Q E k hQ => spliced_more (h.at k fun v s₁ k₁ hv => spliced_none (hQ _ _ k₁ ⟨v, rfl, hv⟩)) he) (fun vs s h => by obtain ⟨x, rfl, _⟩ := h; show 1 ≤ 2 ^ 24; decide)
    (fun _ _ _ kk ⟨x, h1, h2⟩ => ⟨x, h1, hm _ _ _ kk h2⟩)).mono fun v c _ ⟨l, vs, h1, h2, ⟨x, h3, h5⟩, h4⟩ => ⟨l, x, h1, by subst h3; exact h2, h5, h4⟩
/-- x += e, texts -/
theorem st_iaddS {s c : Shared} {L : Addr} {m : Str → Option Value} {x : Str} {px pos : Pos} {e : Expr} {rest : List Stmt} {a b : Str} {v : Value} {Q : Flow → Shared → Prop} {E : Value → Shared → Prop} (i : InCall s L m c) (hL : env.locals = L) (hx : m x = some v) (hv : IsS a v)
    (he : Ev prog w A c (eval e env) (fun v _ => IsS b v)) (hsz : a.length + b.length ≤ sizeLine)
    (h : ∀ v c₂, IsS (a ++ b) v → InCall s L (fun y => if y = x then some v else m y) c₂ → KeepsBut L c c₂ → wpAny (model prog w) A (execs rest env) Q E c₂)
    (hk : env.scope.kind = .function := by rfl) (hl : env.kindOf x = some .local := by rfl) (hp : (env.scope.kind == .class || (env.scope.kind == .module && env.locals != env.globals)) = false := by rfl) :
    wpAny (model prog w) A (execs (.AugAssign (.Name x px) .Add e pos :: rest) env) Q E c := by
  subst hL
  obtain ⟨t, rfl⟩ := hv
  refine wpAny_execs_cons (wpAny_AugAssign_Name (wpAny_loadName_local hk hl i.ns hx (he.use fun u c₁ k₁ hu => ?_)))
  obtain ⟨t', rfl⟩ := hu
  refine SB.iadd (fun t'' tk => st_store (InCall.kp i (kp_trans k₁ (kp_tok _ _))) rfl (fun c₂ i₂ kb => ?_) hl hp) hsz
  exact h _ c₂ ⟨t'', rfl⟩ i₂ fun b o hb e => kb b o hb (kp_get k₁ e)
end
end Mine
end
section
open PySem PySem.W PyProof.Rows PySem.Calls PySem.SeqAt
namespace Mine
section
variable {prog : Program} {w : World} {A : Around} {s₀ : Shared} {env : Env}

/-- cells -/
theorem ev_cell {x : Str} {pos : Pos} {c : Addr} {v : Value} (hc : env.cells.lookup x = some c) (hv : s₀.heap.IsCell c (some v)) (hk : env.scope.kind = .function := by rfl) (hl : env.kindOf x = some .cell := by rfl)
    (hd : (x == ("__debug__" : Str)) = false := by decide) : Ev prog w A s₀ (eval (.Name x pos) env) (fun u _ => u = v) :=
  fun s E k => wpAny_Name (wpAny_loadName_cell hk hl hc (hv.keeps (kp_keep k)) ⟨rfl, kp_refl _⟩) hd
theorem st_storeC {s c : Shared} {L C : Addr} {m : Str → Option Value} {x : Str} {v : Value} {v₀ : Option Value} {Q : Unit → Shared → Prop} {E : Value → Shared → Prop} (i : InCall s L m c) (hC : env.cells.lookup x = some C) (hv : c.heap.IsCell C v₀) (hCL : C ≠ L) (hCs : s.heap.get? C = none)
    (h : ∀ c', InCall s L m c' → c'.heap.IsCell C (some v) → KeepsBut C c c' → Q () c')
    (hk : env.scope.kind = .function := by rfl) (hl : env.kindOf x = some .cell := by rfl) : wpAny (model prog w) A (storeName env x v) Q E c := by
  refine wpAny_storeName_cell hk hl hC hv fun h' hc' hs' => h _ ⟨?_, i.ns.sameBut hs' (Ne.symm hCL), fun b o e => ?_, i.fresh⟩ hc' fun b o hb e => hs'.extBut b o hb e
  · obtain ⟨h₁, tk, rfl⟩ := i.same
    exact ⟨h', _, rfl⟩
  · exact hs'.extBut b o (fun e' => by subst e'; rw [hCs] at e; cases e) (i.keep b o e)
/-- x = e, x a cell -/
theorem st_assignC {s c : Shared} {L C : Addr} {m : Str → Option Value} {x : Str} {px pos : Pos} {e : Expr} {v₀ : Option Value} {rest : List Stmt} {P : Value → Shared → Prop} {Q : Flow → Shared → Prop} {E : Value → Shared → Prop} (i : InCall s L m c) (hC : env.cells.lookup x = some C) (hv : c.heap.IsCell C v₀) (hCL : C ≠ L) (hCs : s.heap.get? C = none)
    (he : Ev prog w A c (eval e env) P)
    (h : ∀ v c₁ c₂, Keeps c c₁ → P v c₁ → InCall s L m c₂ → c₂.heap.IsCell C (some v) → KeepsBut C c₁ c₂ → wpAny (model prog w) A (execs rest env) Q E c₂)
    (hs : swapsWith e (some (.Name x px)) pos.line env = pure false := by rfl)
    (hk : env.scope.kind = .function := by rfl) (hl : env.kindOf x = some .cell := by rfl) :
    wpAny (model prog w) A (execs (.Assign [.Name x px] e pos :: rest) env) Q E c :=
  wpAny_execs_cons (wpAny_Assign_Name (he.use fun v c₁ k₁ pv => st_storeC (InCall.kp i k₁) hC (hv.keeps (kp_keep k₁)) hCL hCs (fun c₂ i₂ hc₂ kb => h v c₁ c₂ k₁ pv i₂ hc₂ kb) hk hl) hs)
/-- a def with cells is entered -/
theorem ev_enterC {a : Addr} {o : Obj} {fd : FuncData} {body : List Stmt} {vals : List Value} {binds : List (Str × Value)} {P : Value → Shared → Prop}
    (hroom : A.depth < recursionLimit) (ho : s₀.heap.get? a = some o) (hdata : o.data = .func fd) (hlim : s₀.heap.NoLimit) (hcd : s₀.heap.CodeRec fd.code fd.qualname)
    (hbody : fd.body = .stmts body) (hbind : bindArgs fd ⟨vals, []⟩ = pure binds) (hclo : fd.closure = [])
    (hkind : ∀ x ∈ binds, fd.scope.names.lookup x.1 = some .local)
    (h : ∀ s L s₁, Keeps s₀ s → InCallC s L (bindL (callEnvC fd L a).kindOf binds fun _ => none) (callEnvC fd L a).cells (bindC (callEnvC fd L a).kindOf binds fun _ => none) s₁ →
      wpAny (model prog w) (A.deeper (callEnvC fd L a)) (execs body (callEnvC fd L a)) (fun f s' => P (match f with | .ret v => v | _ => .none) s' ∧ Keeps s s') (fun _ _ => False) s₁)
    (hco : fd.scope.isCoroutine = false := by rfl) (hgen : fd.scope.isGenerator = false := by rfl) (hk : fd.scope.kind = .function := by rfl) :
    Ev prog w A s₀ (call (.ref a) vals) P := fun s E k =>
  wpAny_call (codeAny_call_cells hroom (kp_get k ho) hdata (hlim.keeps (kp_keep k)) (hcd.keeps (kp_keep k)) hbody hbind hclo (fun x hx => Or.inl (hkind x hx))
    (fun s₁ x => wpAny_mono (h s _ s₁ k x) (fun f s' y => y) fun _ _ x => x.elim) hco hgen hk)

/-- l.extend(e), l a plain list of the frame's, e a plain list -/
theorem st_extend {s c : Shared} {L : Addr} {m : Str → Option Value} {o e : Expr} {apos pos epos : Pos} {rest : List Stmt} {D : Addr} {ys : List Value} {P : List Value → Shared → Prop} {Q : Flow → Shared → Prop} {E : Value → Shared → Prop}
    (i : InCall s L m c) (hDL : D ≠ L) (hDs : s.heap.get? D = none) (ho : Ev prog w A c (eval o env) (fun v _ => v = .ref D)) (hD : c.heap.PlainList D ys.toArray)
    (he : Ev prog w A c (eval e env) (fun v c' => ∃ l zs, v = .ref l ∧ c'.heap.PlainList l (List.toArray zs) ∧ P zs c')) (hsz : ∀ zs c', P zs c' → ys.length + zs.length ≤ 1048576)
    (h : ∀ zs c₁ c₂, Keeps c c₁ → P zs c₁ → InCall s L m c₂ → c₂.heap.PlainList D (ys ++ zs).toArray → KeepsBut D c₁ c₂ → wpAny (model prog w) A (execs rest env) Q E c₂)
    (hbase : attributeBase o (Str.ofString "extend") env (eval o env) = eval o env := by rfl) (hline : (apos.endLine == pos.line) = true := by decide) (htrees : backTo pos (starEach [e] env) = [(false, eval e env)] := by rfl)
    (hi : interactive env = false := by rfl) (hsw : swapsWith (.Call (.Attribute o (Str.ofString "extend") apos) [e] [] pos) none epos.line env = pure false := by rfl) :
    wpAny (model prog w) A (execs (.Expr (.Call (.Attribute o (Str.ofString "extend") apos) [e] [] pos) epos :: rest) env) Q E c := by
  refine wpAny_execs_cons (wpAny_Expr_any (wpAny_Call_method1_late hbase hline htrees (ho.use fun ov c₁ k₁ hov => ?_)) hi hsw)
  subst hov
  have hD₁ : c₁.heap.PlainList D ys.toArray := hD.at fun o e => kp_get k₁ e
  obtain ⟨n, hget⟩ := id hD₁
  refine ⟨"list", "list.extend", F.plainAttrs_list, F.slot_list_extend, F.type_list_extend, ⟨_, hget, rfl⟩, fun a e => by cases e; exact ⟨_, hget, rfl⟩, ?_⟩
  refine callWith_builtin rfl (evalArgs_plain (spliced_cons (he.at k₁ fun v c₂ k₂ hv => spliced_nil ?_)))
  obtain ⟨l, zs, rfl, hl, hP⟩ := hv
  obtain ⟨n2, hl⟩ := hl
  have hget₂ := kp_get k₂ hget
  have hz := hsz zs c₂ hP
  have hdoor : ys.toArray.size + zs.toArray.size ≤ sizeLine := by rw [sizeLine_eq]; simp; omega
  refine call_meets F.slot_list_extend ⟨_, hget₂, rfl⟩ F.entry_list_extend (F.args_list_extend_2 _ _) (AutoSeq1.list_extend_list_list_0 D ys.toArray n l zs.toArray n2 (extend_door hdoor) (by rw [sizeLine_eq]; simp; omega) (by omega)) ⟨hget₂, hl, ?_⟩
  have s1 := Heap.SameBut.update c₂.heap D (Obj.mapSeq fun x => x ++ zs.toArray)
  have i₂ := InCall.kp i (kp_trans k₁ k₂)
  refine h zs c₂ _ (kp_trans k₁ k₂) hP ⟨?_, i₂.ns.sameBut s1 (Ne.symm hDL), fun b o e => ?_, i₂.fresh⟩ ⟨_, by simpa using get?_update_seq hget₂ fun x => x ++ zs.toArray⟩ fun b o hb e => s1.extBut b o hb e
  · obtain ⟨h₁, tk, e⟩ := i₂.same
    exact ⟨_, _, by rw [e]⟩
  · exact s1.extBut b o (fun e' => by subst e'; rw [hDs] at e; cases e) (i₂.keep b o e)
end
end Mine
end
section
open PySem PySem.W PyProof.Rows PySem.Calls PySem.SeqAt
namespace Mine

/-- a dict of texts, each with a list of its own, all made behind s and off M -/
structure ShownAt (prog : Program) (w : World) (s : Shared) (M : List Addr) (h : Heap) (d : Addr) (ls : List (Str × Addr × List Value)) : Prop where
  dict : h.DictOf (strKind prog w) d (ls.map fun x => (x.1, Value.ref x.2.1))
  lists : ∀ x ∈ ls, h.PlainList x.2.1 x.2.2.toArray
  off : ∀ x ∈ ls, x.2.1 ∉ M ∧ s.heap.get? x.2.1 = none
  nodup : (ls.map (·.2.1)).Nodup
  dM : d ∉ M ∧ s.heap.get? d = none
def lookS (ls : List (Str × Addr × List Value)) (k : Str) : List Value := match ls.find? (fun x => decide (x.1 = k)) with
  | some x => x.2.2
  | none => []
section
variable {prog : Program} {w : World} {A : Around} {s₀ : Shared} {env : Env}

theorem ShownAt.keeps {s : Shared} {M : List Addr} {h h' : Heap} {d : Addr} {ls : List (Str × Addr × List Value)} (S : ShownAt prog w s M h d ls) (hk : ∀ b o, b ∉ M → h.get? b = some o → h'.get? b = some o) : ShownAt prog w s M h' d ls := by
  obtain ⟨⟨o, es, ep, ho, r⟩, h2, h3, h4, h5⟩ := S
  exact ⟨⟨o, es, ep, hk _ _ h5.1 ho, r⟩, fun x hx => (h2 x hx).at fun o e => hk _ o (h3 x hx).1 e, h3, h4, h5⟩
theorem ShownAt.live {s : Shared} {M : List Addr} {h : Heap} {d : Addr} {ls : List (Str × Addr × List Value)} (S : ShownAt prog w s M h d ls) : (∃ o, h.get? d = some o) ∧ ∀ x ∈ ls, ∃ o, h.get? x.2.1 = some o := by
  obtain ⟨⟨o, es, ep, ho, r⟩, h2, h3, h4, h5⟩ := S
  exact ⟨⟨o, ho⟩, fun x hx => let ⟨n, e⟩ := h2 x hx; ⟨_, e⟩⟩
theorem ShownAt.more {s : Shared} {M X : List Addr} {h : Heap} {d : Addr} {ls : List (Str × Addr × List Value)} (S : ShownAt prog w s M h d ls) (hX : ∀ b ∈ X, h.get? b = none) : ShownAt prog w s (X ++ M) h d ls := by
  obtain ⟨l1, l2⟩ := S.live
  refine ⟨S.dict, S.lists, fun x hx => ⟨fun hm => ?_, (S.off x hx).2⟩, S.nodup, fun hm => ?_, S.dM.2⟩
  · rcases List.mem_append.mp hm with hm | hm
    · obtain ⟨o, e⟩ := l2 x hx; rw [hX _ hm] at e; cases e
    · exact (S.off x hx).1 hm
  · rcases List.mem_append.mp hm with hm | hm
    · obtain ⟨o, e⟩ := l1; rw [hX _ hm] at e; cases e
    · exact S.dM.1 hm
theorem ShownAt.less {s : Shared} {M M' : List Addr} {h : Heap} {d : Addr} {ls : List (Str × Addr × List Value)} (S : ShownAt prog w s M h d ls) (hX : ∀ b ∈ M', b ∈ M) : ShownAt prog w s M' h d ls :=
  ⟨S.dict, S.lists, fun x hx => ⟨fun hm => (S.off x hx).1 (hX _ hm), (S.off x hx).2⟩, S.nodup, fun hm => S.dM.1 (hX _ hm), S.dM.2⟩
theorem ShownAt.dne {s : Shared} {M : List Addr} {h : Heap} {d : Addr} {ls : List (Str × Addr × List Value)} (S : ShownAt prog w s M h d ls) : ∀ x ∈ ls, x.2.1 ≠ d := by
  intro x hx e
  obtain ⟨⟨o, es, ep, ho, r1, r2, _⟩, h2, _⟩ := S
  obtain ⟨n, hn⟩ := h2 x hx
  rw [e, ho] at hn; cases hn; cases r2
theorem value_find (ls : List (Str × Addr × List Value)) (k : Str) : valueAt (ls.map fun x => (x.1, Value.ref x.2.1)) k = (ls.find? fun x => decide (x.1 = k)).map fun x => Value.ref x.2.1 := by
  unfold valueAt
  induction ls with
  | nil => rfl
  | cons a r ih =>
    rw [List.map_cons, List.find?_cons, List.find?_cons]
    dsimp only
    by_cases h : a.1 = k
    · rw [decide_eq_true h]; rfl
    · rw [decide_eq_false h]; exact ih
/-- {} -/
theorem ev_Dict0 {pos : Pos} : Ev prog w A s₀ (eval (.Dict [] [] pos) env) (fun v c => ∃ d, v = .ref d ∧ c.heap.DictOf (strKind prog w) d [] ∧ s₀.heap.get? d = none ∧ ∀ b o, s₀.heap.get? b = some o → @LT.lt Nat instLTNat b d) :=
  fun s E k => wpAny_Dict_empty ⟨⟨_, rfl, ⟨_, #[], 0, push_live, ⟨rfl, rfl, rfl⟩, rfl, fun _ he => by simp at he, .nil, List.nodup_nil⟩, kp_new k, fun b o e => lts (kp_get k e)⟩, kp_push _ _⟩
/-- d.get(e, []) -/
theorem ev_getS {s : Shared} {M : List Addr} {o e : Expr} {apos pos lpos : Pos} {d : Addr} {ls : List (Str × Addr × List Value)} {x : Str} (S : ShownAt prog w s M s₀.heap d ls) (hd : (d == sysModules) = false) (ho : Ev prog w A s₀ (eval o env) (fun v _ => v = .ref d)) (he : Ev prog w A s₀ (eval e env) (fun v _ => IsS x v))
    (hbase : attributeBase o (Str.ofString "get") env (eval o env) = eval o env := by rfl) (hline : (apos.endLine == pos.line) = true := by decide) (htrees : backTo pos (starEach [e, .List [] lpos] env) = [(false, eval e env), (false, eval (.List [] lpos) env)] := by rfl) :
    Ev prog w A s₀ (eval (.Call (.Attribute o (Str.ofString "get") apos) [e, .List [] lpos] [] pos) env) (fun v c => ∃ l, v = .ref l ∧ c.heap.IsList l (lookS ls x).toArray ∧ (s₀.heap.get? l = none ∨ l ∈ ls.map (·.2.1))) :=
  Ev.of fun s' Q E k hQ => wpAny_Call_method2_late hbase hline htrees (ho.at k fun ov s₁ k₁ hov => by
    subst hov
    have S₁ := S.keeps (h' := s₁.heap) fun b o _ e => kp_get (kp_trans k k₁) e
    refine ⟨"dict", "dict.get", F.plainAttrs_dict, F.slot_dict_get, F.type_dict_get, S₁.dict.typeIs, S₁.dict.mapOf.noDict, ?_⟩
    refine callWith_builtin rfl (evalArgs_plain (spliced_cons (he.at (kp_trans k k₁) fun v s₂ k₂ hv => spliced_cons (ev_List0.use fun v' s₃ k₃ hv' => spliced_nil ?_))))
    obtain ⟨t, rfl⟩ := hv
    obtain ⟨l0, rfl, hl0, hn0⟩ := hv'
    have kk := kp_trans (kp_trans k₁ k₂) k₃
    have S₃ := S.keeps (h' := s₃.heap) fun b o _ e => kp_get (kp_trans k kk) e
    refine call_meetsIn F.slot_dict_get S₃.dict.typeIs F.entry_dict_get (F.args_dict_get_3 _ _ _) (meets_dict_get_default (strKind prog w) d (strKind_is prog w x t) hd (.ref l0)) ⟨_, S₃.dict.mapOf, ?_⟩
    rw [value_find]
    refine hQ _ _ (kp_trans kk (kp_tok _ _)) ?_
    unfold lookS
    cases hf : ls.find? (fun y => decide (y.1 = x)) with
    | none => exact ⟨l0, rfl, hl0.isList, Or.inl (none_of (kp_trans (kp_trans k k₁) k₂) hn0)⟩
    | some y =>
      have hy := List.mem_of_find?_eq_some hf
      exact ⟨y.2.1, rfl, (S₃.lists y hy).isList, Or.inr (List.mem_map.mpr ⟨y, hy, rfl⟩)⟩)
end
end Mine
end
section
open PySem PySem.W PyProof.Rows PySem.Calls PySem.SeqAt
namespace Mine
section
variable {prog : Program} {w : World} {A : Around} {s₀ : Shared} {env : Env}

theorem ShownAt.keys {s : Shared} {M : List Addr} {h : Heap} {d : Addr} {ls : List (Str × Addr × List Value)} (S : ShownAt prog w s M h d ls) : (ls.map (·.1)).Nodup := by
  obtain ⟨o, es, ep, _, _, _, _, _, hn⟩ := S.dict
  rw [List.map_map] at hn
  exact hn
theorem nodup_at {α β : Type} {f : α → β} : ∀ {l : List α}, (l.map f).Nodup → ∀ {x y : α}, x ∈ l → y ∈ l → f x = f y → x = y
  | [], _, _, _, hx, _, _ => by cases hx
  | a :: r, hn, x, y, hx, hy, e => by
    rw [List.map_cons, List.nodup_cons] at hn
    rcases List.mem_cons.mp hx with h1 | h1
    · rcases List.mem_cons.mp hy with h2 | h2
      · rw [h1, h2]
      · exact (hn.1 (List.mem_map.mpr ⟨y, h2, by rw [← e, h1]⟩)).elim
    · rcases List.mem_cons.mp hy with h2 | h2
      · exact (hn.1 (List.mem_map.mpr ⟨x, h1, by rw [e, h2]⟩)).elim
      · exact nodup_at hn.2 h1 h2 e
def upd (ls : List (Str × Addr × List Value)) (x : Str) (v : Value) : List (Str × Addr × List Value) := ls.map fun z => if z.1 = x then (z.1, z.2.1, z.2.2 ++ [v]) else z
theorem find_upd (ls : List (Str × Addr × List Value)) (x k : Str) (v : Value) : (upd ls x v).find? (fun z => decide (z.1 = k)) = (ls.find? fun z => decide (z.1 = k)).map fun z => if z.1 = x then (z.1, z.2.1, z.2.2 ++ [v]) else z := by
  unfold upd
  rw [List.find?_map]
  congr 2
  funext z
  show decide ((if z.1 = x then (z.1, z.2.1, z.2.2 ++ [v]) else z).1 = k) = _
  split <;> rfl
theorem look_upd {ls : List (Str × Addr × List Value)} {x : Str} {v : Value} {y : Str × Addr × List Value} (hf : ls.find? (fun z => decide (z.1 = x)) = some y) (k : Str) : lookS (upd ls x v) k = if k = x then lookS ls k ++ [v] else lookS ls k := by
  unfold lookS
  rw [find_upd]
  cases hk : ls.find? fun z => decide (z.1 = k) with
  | none =>
    by_cases e : k = x
    · subst e; rw [hf] at hk; cases hk
    · rw [if_neg e]; rfl
  | some z =>
    have hz : z.1 = k := by simpa using List.find?_some hk
    dsimp only [Option.map_some]
    by_cases e : k = x
    · rw [if_pos e, if_pos (hz.trans e)]
    · rw [if_neg e, if_neg (fun q => e (hz.symm.trans q))]
theorem look_new {ls : List (Str × Addr × List Value)} {x : Str} {l : Addr} {v : Value} (hf : ls.find? (fun z => decide (z.1 = x)) = none) (k : Str) : lookS (ls ++ [(x, l, [v])]) k = if k = x then lookS ls k ++ [v] else lookS ls k := by
  unfold lookS
  rw [List.find?_append]
  by_cases e : k = x
  · subst e
    rw [hf, if_pos rfl]
    simp
  · rw [if_neg e]
    have : ([(x, l, [v])] : List (Str × Addr × List Value)).find? (fun z => decide (z.1 = k)) = none := by
      rw [List.find?_cons, decide_eq_false (fun q => e q.symm)]; rfl
    rw [this, Option.or_none]

/-- d.setdefault(e1, []).append(e2) -/
theorem st_setapp {s c : Shared} {L : Addr} {m : Str → Option Value} {M : List Addr} {o e1 e2 : Expr} {ap1 p1 ap2 p2 epos lpos : Pos} {rest : List Stmt} {d : Addr} {ls : List (Str × Addr × List Value)} {x : Str} {p : Value → Prop} {j : Nat} {Q : Flow → Shared → Prop} {E : Value → Shared → Prop}
    (i : InCall s L m c) (S : ShownAt prog w s M c.heap d ls) (hd : (d == sysModules) = false) (hL : L ∈ M) (hM : ∀ b ∈ M, ∃ o, c.heap.get? b = some o) (hsz : ls.length ≤ 1048576) (hlen : ∀ y ∈ ls, y.2.2.length ≤ j) (hj : j ≤ 1048576)
    (ho : Ev prog w A c (eval o env) (fun v _ => v = .ref d)) (he1 : Ev prog w A c (eval e1 env) (fun v _ => IsS x v)) (he2 : ∀ c', KeepsBut d c c' → Ev prog w A c' (eval e2 env) (fun v _ => p v))
    (h : ∀ v c₂ ls', p v → InCall s L m c₂ → ShownAt prog w s M c₂.heap d ls' → (∀ k, lookS ls' k = if k = x then lookS ls k ++ [v] else lookS ls k) → ls'.length ≤ ls.length + 1 → (∀ y ∈ ls', y.2.2.length ≤ j + 1) →
      KeepsOff (d :: ls.map (·.2.1)) c c₂ → wpAny (model prog w) A (execs rest env) Q E c₂)
    (hb1 : attributeBase o (Str.ofString "setdefault") env (eval o env) = eval o env := by rfl) (hl1 : (ap1.endLine == p1.line) = true := by decide) (ht1 : backTo p1 (starEach [e1, .List [] lpos] env) = [(false, eval e1 env), (false, eval (.List [] lpos) env)] := by rfl)
    (hb2 : attributeBase (.Call (.Attribute o (Str.ofString "setdefault") ap1) [e1, .List [] lpos] [] p1) (Str.ofString "append") env (eval (.Call (.Attribute o (Str.ofString "setdefault") ap1) [e1, .List [] lpos] [] p1) env) = eval (.Call (.Attribute o (Str.ofString "setdefault") ap1) [e1, .List [] lpos] [] p1) env := by rfl)
    (hl2 : (ap2.endLine == p2.line) = true := by decide) (ht2 : backTo p2 (starEach [e2] env) = [(false, eval e2 env)] := by rfl)
    (hi : interactive env = false := by rfl) (hsw : swapsWith (.Call (.Attribute (.Call (.Attribute o (Str.ofString "setdefault") ap1) [e1, .List [] lpos] [] p1) (Str.ofString "append") ap2) [e2] [] p2) none epos.line env = pure false := by rfl) :
    wpAny (model prog w) A (execs (.Expr (.Call (.Attribute (.Call (.Attribute o (Str.ofString "setdefault") ap1) [e1, .List [] lpos] [] p1) (Str.ofString "append") ap2) [e2] [] p2) epos :: rest) env) Q E c := by
  refine wpAny_execs_cons (wpAny_Expr_any (wpAny_Call_method1_late hb2 hl2 ht2 (wpAny_Call_method2_late hb1 hl1 ht1 (ho.use fun ov c₁ k₁ hov => ?_))) hi hsw)
  subst hov
  have S₁ := S.keeps (h' := c₁.heap) fun b o _ e => kp_get k₁ e
  refine ⟨"dict", "dict.setdefault", F.plainAttrs_dict, F.slot_dict_setdefault, F.type_dict_setdefault, S₁.dict.typeIs, S₁.dict.mapOf.noDict, ?_⟩
  refine callWith_builtin rfl (evalArgs_plain (spliced_cons (he1.at k₁ fun v c₂ k₂ hv => spliced_cons (ev_List0.use fun v' c₃ k₃ hv' => spliced_nil ?_))))
  obtain ⟨t, rfl⟩ := hv
  obtain ⟨l0, rfl, hl0, hn0⟩ := hv'
  have k₃ := kp_trans (kp_trans k₁ k₂) k₃
  have hn0 : c.heap.get? l0 = none := none_of (kp_trans k₁ k₂) hn0
  have S₃ := S.keeps (h' := c₃.heap) fun b o _ e => kp_get k₃ e
  have i₃ := InCall.kp i k₃
  refine call_meetsIn F.slot_dict_setdefault S₃.dict.typeIs F.entry_dict_setdefault (F.args_dict_setdefault_3 _ _ _) (kt_meets_setdefault (strKind prog w) d (strKind_is prog w x t) hd (.ref l0)) ⟨_, S₃.dict, by rw [List.length_map, sizeLine_eq]; omega, fun v hv => ?_, fun hn h' hD' hs' => ?_⟩
  · -- a list stands there
    rw [value_find] at hv
    cases hf : ls.find? (fun z => decide (z.1 = x)) with
    | none => rw [hf] at hv; cases hv
    | some y =>
      rw [hf] at hv
      cases hv
      have hy := List.mem_of_find?_eq_some hf
      have hyx : y.1 = x := by simpa using List.find?_some hf
      obtain ⟨n, hget⟩ := S₃.lists y hy
      refine ⟨"list", "list.append", F.plainAttrs_list, slot_list_append, F.type_list_append, ⟨_, hget, rfl⟩, fun a e => by cases e; exact ⟨_, hget, rfl⟩, ?_⟩
      refine callWith_builtin rfl (evalArgs_plain (spliced_cons ((he2 c₃ (kb_kp k₃)).at (kp_tok _ _) fun v c₄ k₄ hv => spliced_nil ?_)))
      have k₄ := kp_trans (kp_tok c₃ (c₃.toks + 1)) k₄
      have hget₄ : c₄.heap.PlainList y.2.1 y.2.2.toArray := ⟨n, kp_get k₄ hget⟩
      refine wpAny_list_append_plain (hsz := by rw [sizeLine_eq]; have := hlen y hy; simp; omega) hget₄ fun h' hl' hs' => ?_
      have i₄ := InCall.kp i₃ k₄
      have hyM := (S.off y hy).1
      have hyL : y.2.1 ≠ L := fun e => hyM (e ▸ hL)
      have S₄ := S.keeps (h' := c₄.heap) fun b o _ e => kp_get (kp_trans k₃ k₄) e
      have alike : (upd ls x v).map (fun z => (z.1, Value.ref z.2.1)) = ls.map fun z => (z.1, Value.ref z.2.1) := by
        unfold upd; rw [List.map_map]; apply List.map_congr_left; intro z _
        show ((if z.1 = x then (z.1, z.2.1, z.2.2 ++ [v]) else z).1, Value.ref (if z.1 = x then (z.1, z.2.1, z.2.2 ++ [v]) else z).2.1) = _
        split <;> rfl
      have alike2 : (upd ls x v).map (fun z => z.2.1) = ls.map fun z => z.2.1 := by
        unfold upd; rw [List.map_map]; apply List.map_congr_left; intro z _
        show (if z.1 = x then (z.1, z.2.1, z.2.2 ++ [v]) else z).2.1 = _
        split <;> rfl
      have memU : ∀ z ∈ upd ls x v, (z.2.1 = y.2.1 ∧ z.2.2 = y.2.2 ++ [v]) ∨ (z ∈ ls ∧ z.2.1 ≠ y.2.1) := by
        intro z hz
        obtain ⟨z', hz', rfl⟩ := List.mem_map.mp hz
        by_cases e : z'.1 = x
        · have : z' = y := nodup_at S.keys hz' hy (e.trans hyx.symm)
          subst this
          rw [if_pos e]; exact Or.inl ⟨rfl, rfl⟩
        · rw [if_neg e]
          refine Or.inr ⟨hz', fun q => e ?_⟩
          rw [nodup_at (f := fun z => z.2.1) S.nodup hz' hy q]; exact hyx
      refine h v _ (upd ls x v) hv ⟨?_, i₄.ns.sameBut hs' (Ne.symm hyL), fun b o e => ?_, i₄.fresh⟩ ⟨?_, ?_, ?_, by rw [alike2]; exact S.nodup, S.dM⟩ (look_upd hf) (by unfold upd; rw [List.length_map]; omega) ?_ ?_
      · obtain ⟨h₁, tk, e⟩ := i₄.same
        exact ⟨h', c₄.toks, by rw [e]⟩
      · exact hs'.extBut b o (fun e' => by subst e'; rw [(S.off y hy).2] at e; cases e) (i₄.keep b o e)
      · rw [alike]
        obtain ⟨o, es, ep, hoo, r⟩ := S₄.dict
        exact ⟨o, es, ep, hs'.extBut _ o (Ne.symm (S.dne y hy)) hoo, r⟩
      · intro z hz
        rcases memU z hz with ⟨e1, e2⟩ | ⟨hz', hne⟩
        · rw [e1, e2]; simpa using hl'
        · exact (S₄.lists z hz').at fun o e => hs'.extBut _ o hne e
      · intro z hz
        rcases memU z hz with ⟨e1, e2⟩ | ⟨hz', hne⟩
        · rw [e1]; exact S.off y hy
        · exact S.off z hz'
      · intro z hz
        rcases memU z hz with ⟨e1, e2⟩ | ⟨hz', hne⟩
        · rw [e2, List.length_append]; have := hlen y hy; simp; omega
        · have := hlen z hz'; omega
      · intro b o hb e
        refine hs'.extBut b o (fun e' => hb ?_) (kp_get (kp_trans k₃ k₄) e)
        rw [e']; exact .tail _ (List.mem_map.mpr ⟨y, hy, rfl⟩)
  · -- a new one
    rw [value_find] at hn
    have hf : ls.find? (fun z => decide (z.1 = x)) = none := by
      cases e : ls.find? (fun z => decide (z.1 = x)) with
      | none => rfl
      | some y => rw [e] at hn; cases hn
    have l0d : l0 ≠ d := fun e => by
      obtain ⟨o, eo⟩ := S.live.1
      rw [e, eo] at hn0; cases hn0
    have hget₄ : h'.PlainList l0 #[] := hl0.at fun o e => hs'.extBut _ o l0d e
    obtain ⟨n, hget⟩ := id hget₄
    refine ⟨"list", "list.append", F.plainAttrs_list, slot_list_append, F.type_list_append, ⟨_, hget, rfl⟩, fun a e => by cases e; exact ⟨_, hget, rfl⟩, ?_⟩
    refine callWith_builtin rfl (evalArgs_plain (spliced_cons ((he2 { c₃ with heap := h', toks := c₃.toks + 1 } fun b o hb e => hs'.extBut b o hb (kp_get k₃ e)).use fun v c₄ k₄ hv => spliced_nil ?_)))
    have hget₅ : c₄.heap.PlainList l0 #[] := ⟨n, kp_get k₄ hget⟩
    refine wpAny_list_append_plain (hsz := by simp) hget₅ fun h'' hl'' hs'' => ?_
    have l0M : l0 ∉ M := fun e => by
      obtain ⟨o, eo⟩ := hM l0 e
      rw [eo] at hn0; cases hn0
    have l0L : l0 ≠ L := fun e => l0M (e ▸ hL)
    have l0s : s.heap.get? l0 = none := none_of (InCall.keeps i) hn0
    have up : ∀ b o, b ≠ d → c.heap.get? b = some o → c₄.heap.get? b = some o := fun b o hb e => kp_get k₄ (show h'.get? b = some o from hs'.extBut b o hb (kp_get k₃ e))
    have lne : ∀ z ∈ ls, z.2.1 ≠ l0 := fun z hz e => by
      obtain ⟨o, eo⟩ := S.live.2 z hz
      rw [e] at eo; rw [eo] at hn0; cases hn0
    have dL : d ≠ L := fun e => S.dM.1 (e ▸ hL)
    have st : stored (ls.map fun z => (z.1, Value.ref z.2.1)) x (.ref l0) = (ls ++ [(x, l0, [v])]).map fun z => (z.1, Value.ref z.2.1) := by
      unfold stored
      rw [if_neg, List.map_append]
      · rfl
      · rw [List.any_map, List.any_eq_true]
        rintro ⟨z, hz, e⟩
        have := List.find?_eq_none.mp hf z hz
        exact this e
    have memN : ∀ z ∈ ls ++ [(x, l0, [v])], z ∈ ls ∨ z = (x, l0, [v]) := fun z hz => by
      rcases List.mem_append.mp hz with hz | hz
      · exact Or.inl hz
      · exact Or.inr (by simpa using hz)
    refine h v _ (ls ++ [(x, l0, [v])]) hv ⟨?_, ?_, fun b o e => ?_, i.fresh⟩ ⟨?_, ?_, ?_, ?_, S.dM⟩ (look_new hf) (by simp) ?_ ?_
    · obtain ⟨h₁, tk, e⟩ := i₃.same
      obtain ⟨h₂, tk₂, e₂, _⟩ := k₄
      exact ⟨h'', c₄.toks, by rw [e₂, e]⟩
    · exact (i.ns.at' fun o e => up _ o (Ne.symm dL) e).sameBut hs'' (Ne.symm l0L)
    · have bd : b ≠ d := fun e' => by subst e'; rw [S.dM.2] at e; cases e
      exact hs''.extBut b o (fun e' => by subst e'; rw [l0s] at e; cases e) (up b o bd (i.keep b o e))
    · rw [← st]
      obtain ⟨o, es, ep, hoo, r⟩ := hD'
      exact ⟨o, es, ep, hs''.extBut _ o (Ne.symm l0d) (kp_get k₄ hoo), r⟩
    · intro z hz
      rcases memN z hz with hz | rfl
      · exact (S.lists z hz).at fun o e => hs''.extBut _ o (lne z hz) (up _ o (S.dne z hz) e)
      · simpa using hl''
    · intro z hz
      rcases memN z hz with hz | rfl
      · exact S.off z hz
      · exact ⟨l0M, l0s⟩
    · rw [List.map_append, List.nodup_append]
      refine ⟨S.nodup, by simp, ?_⟩
      intro a ha b hb e
      obtain ⟨z, hz, rfl⟩ := List.mem_map.mp ha
      simp only [List.map_cons, List.map_nil, List.mem_singleton] at hb
      exact lne z hz (e.trans hb)
    · intro z hz
      rcases memN z hz with hz | rfl
      · have := hlen z hz; omega
      · simp
    · intro b o hb e
      simp only [List.mem_cons, not_or] at hb
      refine hs''.extBut b o (fun e' => ?_) (up b o hb.1 e)
      subst e'; rw [hn0] at e; cases e
end
end Mine
end
section
open PySem PySem.W PyProof.Rows PySem.Calls PySem.SeqAt
namespace Mine
section
variable {prog : Program} {w : World} {A : Around} {s₀ : Shared} {env : Env}

/-- the inner loop of [elt for t1 in i1 for t2 in i2] -/
theorem comp2_in {elt t1 i1 t2 i2 : Expr} {scope : Scope} {pos : Pos} {it acc : Value} {env : Env} {R : Result → Shared → Prop} {s : Shared} (J : Nat → Shared → Prop)
    (turn : ∀ n s, J n s → wpAny (model prog w) A (pyNext it) (fun r s₁ => match r with
      | none => R (.ok .next) s₁
      | some v => wpAny (model prog w) A (letOwnedTupleGo t2 it v) (fun _ s₁' => wpAny (model prog w) A (assign t2 env v) (fun _ s₂ =>
          wpAny (model prog w) A (eval elt env) (fun x s₄ => wpAny (model prog w) A (call (.builtin "list.append") [acc, x]) (fun _ s₅ => ∃ m, m < n ∧ J m s₅) (fun _ _ => False) s₄) (fun _ _ => False) s₂) (fun _ _ => False) s₁') (fun _ _ => False) s₁) (fun _ _ => False) s)
    (n : Nat) (h : J n s) : codeAny (model prog w) A (.compLoop (.ListComp elt [⟨t1, i1, [], 0⟩, ⟨t2, i2, [], 0⟩] scope pos) 1 it acc env) R s := by
  refine codeAny_loop rfl J (fun n s hI => ?_) n h
  show wpAny _ A ((compTurn (.ListComp elt [⟨t1, i1, [], 0⟩, ⟨t2, i2, [], 0⟩] scope pos) 1 it acc env).onRaise (fun x => do noteFrame x env; theTreesLotGoes x)) _ _ s
  refine wpAny_noted ?_
  refine wpAny_bind (wpAny_standAt (wpAny_bind (wpAny_mono (turn n s hI) (fun r s₁ h₁ => ?_) fun _ _ h' => h'.elim)))
  cases r with
  | none => exact wpAny_pure h₁
  | some v =>
    refine wpAny_bind (wpAny_mono h₁ (fun _ s₁' h₁' => ?_) fun _ _ h' => h'.elim)
    refine wpAny_bind (wpAny_mono h₁' (fun _ s₂ h₂ => ?_) fun _ _ h' => h'.elim)
    refine wpAny_bind (wpAny_pure ?_)
    exact wpAny_bind (wpAny_bind (wpAny_mono h₂ (fun x s₄ h₄ => wpAny_bind (wpAny_mono h₄ (fun _ s₅ h₅ => wpAny_pure (wpAny_pure ⟨rfl, h₅⟩)) fun _ _ h' => h'.elim)) fun _ _ h' => h'.elim))
theorem comp2_start {elt t1 i1 t2 i2 : Expr} {scope : Scope} {pos : Pos} {it acc : Value} {env : Env} {R : Result → Shared → Prop} {s : Shared}
    (h0 : codeAny (model prog w) A (.compLoop (.ListComp elt [⟨t1, i1, [], 0⟩, ⟨t2, i2, [], 0⟩] scope pos) 1 it acc env) R s)
    (h : wpAny (model prog w) A (pyIter it) (fun it' s' => codeAny (model prog w) A (.compLoop (.ListComp elt [⟨t1, i1, [], 0⟩, ⟨t2, i2, [], 0⟩] scope pos) 1 it' acc env) R s')
      (notedBy (model prog w) A env fun x s' => R (.error x) s') s) :
    codeAny (model prog w) A (.compStart (.ListComp elt [⟨t1, i1, [], 0⟩, ⟨t2, i2, [], 0⟩] scope pos) 1 it acc env) R s := by
  refine codeAny_of_tree (wpAny_notedAt (m := compStart (.ListComp elt [⟨t1, i1, [], 0⟩, ⟨t2, i2, [], 0⟩] scope pos) 1 it acc env) ?_)
  change wpAny _ _ (ask >>= _) _ _ s
  refine wpAny_bind (wpAny_askSetting (wpAny_ite ?_))
  split
  · exact wpAny_pure ⟨rfl, h0⟩
  · exact wpAny_bind (wpAny_rule (wpAny_bind (wpAny_standAt (wpAny_bind (wpAny_mono h (fun it' s' h' => wpAny_pure ⟨rfl, h'⟩) fun _ _ x => x)))))
/-- the outer loop -/
theorem comp2_out {elt t1 i1 t2 i2 : Expr} {scope : Scope} {pos : Pos} {it acc : Value} {env : Env} {R : Result → Shared → Prop} {s : Shared} (J : Nat → Shared → Prop) (hs : ∀ x, foldedSetIterable i2 env x = pure x)
    (turn : ∀ n s, J n s → wpAny (model prog w) A (pyNext it) (fun r s₁ => match r with
      | none => R (.ok .next) s₁
      | some v => wpAny (model prog w) A (letOwnedTupleGo t1 it v) (fun _ s₁' => wpAny (model prog w) A (assign t1 env v) (fun _ s₂ =>
          wpAny (model prog w) A (eval i2 env) (fun x s₃ => wpAny (model prog w) A (pyIter x) (fun it' s₄ =>
            codeAny (model prog w) A (.compStart (.ListComp elt [⟨t1, i1, [], 0⟩, ⟨t2, i2, [], 0⟩] scope pos) 1 it' acc env) (fun r s₅ => r = .ok .next ∧ ∃ m, m < n ∧ J m s₅) s₄) (fun _ _ => False) s₃) (fun _ _ => False) s₂) (fun _ _ => False) s₁') (fun _ _ => False) s₁) (fun _ _ => False) s)
    (n : Nat) (h : J n s) : codeAny (model prog w) A (.compLoop (.ListComp elt [⟨t1, i1, [], 0⟩, ⟨t2, i2, [], 0⟩] scope pos) 0 it acc env) R s := by
  refine codeAny_loop rfl J (fun n s hI => ?_) n h
  show wpAny _ A ((compTurn (.ListComp elt [⟨t1, i1, [], 0⟩, ⟨t2, i2, [], 0⟩] scope pos) 0 it acc env).onRaise (fun x => do noteFrame x env; theTreesLotGoes x)) _ _ s
  refine wpAny_noted ?_
  refine wpAny_bind (wpAny_standAt (wpAny_bind (wpAny_mono (turn n s hI) (fun r s₁ h₁ => ?_) fun _ _ h' => h'.elim)))
  cases r with
  | none => exact wpAny_pure h₁
  | some v =>
    refine wpAny_bind (wpAny_mono h₁ (fun _ s₁' h₁' => ?_) fun _ _ h' => h'.elim)
    refine wpAny_bind (wpAny_mono h₁' (fun _ s₂ h₂ => ?_) fun _ _ h' => h'.elim)
    refine wpAny_bind (wpAny_pure ?_)
    refine wpAny_bind (wpAny_mono h₂ (fun x s₃ h₃ => ?_) fun _ _ h' => h'.elim)
    refine wpAny_bind (wpAny_standAt (wpAny_bind (wpAny_of_eq (hs x) ?_)))
    refine wpAny_bind (wpAny_holding (wpAny_mono h₃ (fun it' s₄ h₄ => ?_) fun _ _ h' => h'.elim))
    refine wpAny_bind (wpAny_runOwn (codeAny_mono h₄ fun r s₅ h₅ => ?_))
    obtain ⟨rfl, h₅⟩ := h₅
    exact wpAny_pure ⟨rfl, h₅⟩
end
end Mine
end
section
open PySem PySem.W PyProof.Rows PySem.Calls PySem.SeqAt
namespace Mine
/-- ys holds what F tells of the pairs, row by row, up to the place a, b -/
def GridTo (n2 : Nat) (F : Nat → Nat → Value → Prop) (a b : Nat) (ys : List Value) : Prop := ys.length = a * n2 + b ∧ ∀ a' b' y, b' < n2 → ys[a' * n2 + b']? = some y → F a' b' y
theorem GridTo.snoc {n2 : Nat} {F : Nat → Nat → Value → Prop} {a b : Nat} {ys : List Value} {y : Value} (h : GridTo n2 F a b ys) (hb : b < n2) (hy : F a b y) : GridTo n2 F a (b + 1) (ys ++ [y]) := by
  obtain ⟨h1, h2⟩ := h
  refine ⟨by rw [List.length_append, h1]; simp; omega, fun a' b' u hb' hu => ?_⟩
  rcases Nat.lt_trichotomy (a' * n2 + b') ys.length with q | q | q
  · exact h2 a' b' u hb' (by rwa [List.getElem?_append_left q] at hu)
  · have e1 : (a' * n2 + b') / n2 = a' := by rw [Nat.mul_comm, Nat.mul_add_div (by omega), Nat.div_eq_of_lt hb', Nat.add_zero]
    have e2 : (a * n2 + b) / n2 = a := by rw [Nat.mul_comm, Nat.mul_add_div (by omega), Nat.div_eq_of_lt hb, Nat.add_zero]
    rw [q, h1, e2] at e1
    subst e1
    have : b' = b := by omega
    subst this
    rw [q, List.getElem?_append_right (Nat.le_refl _), Nat.sub_self] at hu
    simp at hu; subst hu; exact hy
  · rw [List.getElem?_eq_none (by simp; omega)] at hu; cases hu
theorem GridTo.row {n2 : Nat} {F : Nat → Nat → Value → Prop} {a : Nat} {ys : List Value} (h : GridTo n2 F a n2 ys) : GridTo n2 F (a + 1) 0 ys := ⟨by rw [h.1, Nat.add_mul]; omega, h.2⟩
section
variable {prog : Program} {w : World} {A : Around} {s₀ : Shared} {env : Env}

/-- y = [elt for x1 in i1 for x2 in i2] -/
theorem st_comp2 {s c : Shared} {L : Addr} {m : Str → Option Value} {y : Str} {py spos : Pos} {rest : List Stmt} {Q : Flow → Shared → Prop} {E : Value → Shared → Prop} {x1 x2 : Str} {p1 p2 pos : Pos} {elt i1 i2 : Expr} {scope : Scope} {cl : List (Str × Addr)} {n1 n2 : Nat} {P1 P2 : Nat → Value → Prop} {F0 : List Addr}
    (F : Nat → Nat → Value → Prop) (i : InCall s L m c) (hL : env.locals = L) (hsrc1 : Src prog w A (.Name x1 p1) c (eval i1 env) n1 (fun i v _ => P1 i v) F0)
    (hsrc2 : ∀ C m₁ s₁, (∀ b o, c.heap.get? b = some o → s₁.heap.get? b = some o) → s₁.heap.Ns C m₁ → Src prog w A (.Name x2 p2) s₁ (eval i2 (compEnvC scope cl C env)) n2 (fun j v _ => P2 j v) [])
    (hsz : n1 * n2 ≤ 1048576) (hx : x1 ≠ x2)
    (helt : ∀ C a b s₁ m₁ v1 v2, a < n1 → b < n2 → (∀ b o, c.heap.get? b = some o → s₁.heap.get? b = some o) → s₁.heap.Ns C m₁ → m₁ x1 = some v1 → m₁ x2 = some v2 → P1 a v1 → P2 b v2 → Ev prog w A s₁ (eval elt (compEnvC scope cl C env)) (fun y _ => F a b y))
    (h : ∀ D ys c₂, c₂.heap.PlainList D (List.toArray ys) → GridTo n2 F n1 0 ys → c.heap.get? D = none → InCall s L (fun z => if z = y then some (.ref D) else m z) c₂ → KeepsBut L c c₂ → wpAny (model prog w) A (execs rest env) Q E c₂)
    (hclos : closureFor scope env = pure cl) (hcell : (scope.names.all fun y => y.2 != .cell) = true := by decide) (hkind : scope.kind = .function := by rfl)
    (hnames : (scope.names.all fun y => y.2 != .local || scope.names.lookup y.1 == some .local) = true := by decide)
    (hs : ∀ x, foldedSetIterable i1 env x = pure x := by intro _; rfl) (hs2 : ∀ C x, foldedSetIterable i2 (compEnvC scope cl C env) x = pure x := by intro _ _; rfl)
    (hl1 : ∀ C, (compEnvC scope cl C env).kindOf x1 = some .local := by intro _; rfl) (hl2 : ∀ C, (compEnvC scope cl C env).kindOf x2 = some .local := by intro _; rfl)
    (hpc : ∀ C, ((compEnvC scope cl C env).scope.kind == .class || ((compEnvC scope cl C env).scope.kind == .module && (compEnvC scope cl C env).locals != (compEnvC scope cl C env).globals)) = false := by intro _; rfl)
    (hsw : swapsWith (.ListComp elt [⟨.Name x1 p1, i1, [], 0⟩, ⟨.Name x2 p2, i2, [], 0⟩] scope pos) (some (.Name y py)) spos.line env = pure true := by rfl)
    (hy : env.kindOf y = some .local := by rfl) (hp : (env.scope.kind == .class || (env.scope.kind == .module && env.locals != env.globals)) = false := by rfl) :
    wpAny (model prog w) A (execs (.Assign [.Name y py] (.ListComp elt [⟨.Name x1 p1, i1, [], 0⟩, ⟨.Name x2 p2, i2, [], 0⟩] scope pos) spos :: rest) env) Q E c := by
  subst hL
  have hcell' : ∀ y ∈ scope.names, y.2 ≠ .cell := fun y hy => by simpa using List.all_eq_true.mp hcell y hy
  have hnames' : ∀ y ∈ scope.names, y.2 = .local → scope.names.lookup y.1 = some .local := fun y hy e => by
    have := List.all_eq_true.mp hnames y hy
    simpa [e] using this
  refine wpAny_execs_cons ?_
  rw [exec_Assign_Name_used _ _ _ _ hsw]
  refine wpAny_bind (wpAny_standAt (wpAny_bind ?_))
  show wpAny _ A (do let _ ← comprehension (.ListComp elt [⟨.Name x1 p1, i1, [], 0⟩, ⟨.Name x2 p2, i2, [], 0⟩] scope pos) scope env _ (newList []) false (eval i1 env) (some (assign (.Name y py) env))) _ _ c
  refine wpAny_bind (wpAny_mono (wpAny_comprehension_free (use := some (assign (.Name y py) env)) (Q := fun _ s' => wpAny (model prog w) A (execs rest env) Q E s') rfl hs hclos hkind hnames'
    (wpAny_mono (hsrc1 c E (kp_refl _)) (fun x s₁ h₁ => wpAny_mono h₁ (fun it s₂ h₂ => ?_) fun _ _ y => y) fun _ _ y => y)) (fun _ s' hq => wpAny_pure (wpAny_pure hq)) fun _ _ e => e)
  obtain ⟨I, fp, wr, St, rfl, W, hst, hwr, k₂, _⟩ := h₂
  refine wpAny_newObj_type (wpAny_newFunctionEnv hcell' (by intro y hy; simp at hy) (fun h₁ hns₁ hsb₁ => ?_) hkind)
  dsimp only at hns₁ hsb₁ ⊢
  generalize hH2 : s₂.heap.push { cls := .type "list", dict := none, data := .seq ([] : List Value).toArray } = H2 at hns₁ hsb₁ ⊢
  obtain ⟨D, hDD⟩ : ∃ D : Nat, D = s₂.heap.objs.size := ⟨_, rfl⟩
  obtain ⟨C, hCC⟩ : ∃ C : Nat, C = H2.objs.size := ⟨_, rfl⟩
  rw [← hDD]
  rw [← hCC] at hns₁ hsb₁ ⊢
  have hC : C = D + 1 := by rw [hCC, hDD, ← hH2, Heap.size_push]
  have hDC : D ≠ C := by omega
  have hfp : ∀ b ∈ fp, @LT.lt Nat instLTNat b D := fun b hb => by obtain ⟨o, e⟩ := W.live _ _ hst b hb; rw [hDD]; exact Heap.lt_size e
  have ltD : ∀ b o, s₂.heap.get? b = some o → @LT.lt Nat instLTNat b D := fun b o e => by rw [hDD]; exact lts e
  have ltC : ∀ b o, s₂.heap.get? b = some o → @LT.lt Nat instLTNat b C := fun b o e => by have := ltD b o e; omega
  have old : ∀ b o, s₂.heap.get? b = some o → h₁.get? b = some o := fun b o e =>
    hsb₁.extBut b o (neL (ltC b o e)) (Heap.get?_push_of_some _ (hH2 ▸ Heap.get?_push_of_some _ e))
  have hacc : h₁.PlainList D #[] := ⟨_, hsb₁.extBut _ _ hDC (Heap.get?_push_of_some _ (hH2 ▸ hDD ▸ Heap.get?_push_size _ rfl))⟩
  have hst₁ : St 0 h₁ := W.frame _ _ _ hst fun b _ o e => old b o e
  have hCf : C ∉ fp := fun h => by have := hfp _ h; omega
  have hDf : D ∉ fp := fun h => by have := hfp _ h; omega
  have hCw : C ∉ wr := fun h => hCf (W.sub _ h)
  have hDw : D ∉ wr := fun h => hDf (W.sub _ h)
  have noneD : ∀ j, D ≤ j → c.heap.get? j = none := fun j hj => by
    cases e : c.heap.get? j with
    | none => rfl
    | some o => exact absurd (ltD _ _ (kp_get k₂ e)) (Nat.not_lt.mpr hj)
  have cC : c.heap.get? C = none := noneD _ (by omega)
  have cD : c.heap.get? D = none := noneD _ (Nat.le_refl _)
  have cbase : ∀ {H : Heap}, (∀ b o, b ≠ C → b ∉ wr → b ≠ D → h₁.get? b = some o → H.get? b = some o) → ∀ b o, c.heap.get? b = some o → H.get? b = some o := fun {H} hk b o e => by
    have e2 := kp_get k₂ e
    have hbw : b ∉ wr := fun hb' => by
      have := hwr b hb'
      rw [e] at this; cases this
    exact hk b o (neL (ltC b o e2)) hbw (neL (ltD b o e2)) (old b o e2)
  -- what is done when both loops are
  have fin : ∀ h' tk m' ys, h'.Ns C m' → h'.PlainList D (List.toArray ys) → GridTo n2 F n1 0 ys → (∀ b o, c.heap.get? b = some o → h'.get? b = some o) →
      compPost (model prog w) A E (some (assign (.Name y py) env)) (fun _ s' => wpAny (model prog w) A (execs rest env) Q E s') (.ref D) C (.ok .next) { s₂ with heap := h', toks := tk } := by
    intro h' tk m' ys hn hD hG hk
    obtain ⟨oL, _, _, eL, _⟩ := id i.ns
    have hLC : env.locals ≠ C := fun h => by rw [h, cC] at eL; cases eL
    have hLD : env.locals ≠ D := fun h => by rw [h, cD] at eL; cases eL
    have i' : InCall s env.locals m { s₂ with heap := h', toks := tk } := by
      obtain ⟨h2, tk2, rfl, hk2⟩ := k₂
      exact InCall.kp i ⟨h', tk, rfl, hk⟩
    show wpAny _ A (assign (.Name y py) env (.ref D)) _ _ _
    refine wpAny_assign_Name (wpAny_storeName_local hy i'.ns (fun h₂ hn₂ hs₂ => ?_) hp)
    refine ⟨m', hn.sameBut hs₂ (Ne.symm hLC), fun h₃ hs₃ => ?_⟩
    refine h D ys _ ((hD.extBut hs₂.extBut (Ne.symm hLD)).extBut hs₃.extBut hDC) hG cD ⟨?_, hn₂.sameBut hs₃ hLC, fun b o e => ?_, i.fresh⟩ fun b o hb e => hs₃.extBut b o (fun h => ?_) (hs₂.extBut b o hb (hk b o e))
    · obtain ⟨hh, tt, e⟩ := i'.same
      exact ⟨h₃, tk + 1, by
        have e' := e
        cases s₂; cases s; simp at e' ⊢
        exact ⟨e'.2.1, e'.2.2.1, e'.2.2.2.2⟩⟩
    · have hb : b ≠ env.locals := Nat.ne_of_lt (Nat.lt_of_lt_of_le (Heap.lt_size e) i.fresh)
      have e2 := i.keep b o e
      refine hs₃.extBut b o (fun h => ?_) (hs₂.extBut b o hb (hk b o e2))
      rw [h, cC] at e2; cases e2
    · rw [h, cC] at e; cases e
  have loop : ∀ s₃ : Shared, s₃ = { s₂ with heap := h₁, toks := s₂.toks + ([] : List (Str × Value)).length } →
      codeAny (model prog w) A (.compLoop (.ListComp elt [⟨.Name x1 p1, i1, [], 0⟩, ⟨.Name x2 p2, i2, [], 0⟩] scope pos) 0 (.ref I) (.ref D) (compEnvC scope cl C env)) (compPost (model prog w) A E (some (assign (.Name y py) env)) (fun _ s' => wpAny (model prog w) A (execs rest env) Q E s') (.ref D) C) s₃ := by
    rintro s₃ rfl
    refine comp2_out (fun j s' => ∃ h' tk m ys a, s' = { s₂ with heap := h', toks := tk } ∧ St a h' ∧ h'.PlainList D (List.toArray ys) ∧ h'.Ns C m ∧ GridTo n2 F a 0 ys ∧ a ≤ n1 ∧ j = n1 + 1 - a ∧
      (∀ b o, b ≠ C → b ∉ wr → b ≠ D → h₁.get? b = some o → h'.get? b = some o)) (hs2 C) ?_ (n1 + 1) ⟨h₁, _, _, [], 0, rfl, hst₁, hacc, hns₁, ⟨by simp, fun _ _ _ _ h => by simp at h⟩, Nat.zero_le _, rfl, fun _ _ _ _ _ e => e⟩
    rintro j s' ⟨H, tk, m, ys, a, rfl, hst', hacc', hn', hG, ha, rfl, hk⟩
    by_cases hlt : a < n1
    · refine wpAny_mono (W.item a _ (fun v s₄ => wpAny (model prog w) A (assign (.Name x1 p1) (compEnvC scope cl C env) v) (fun _ s₅ => _) (fun _ _ => False) s₄) (fun _ _ => False) hlt hst' ?_) (fun r s₁ h₁ => by
        cases r with
        | none => exact h₁.elim
        | some v => exact h₁) fun _ _ y => y
      intro v h₂ tk₂ hP hst₂ hk₂
      refine wpAny_assign_Name (wpAny_storeName_local (hl1 C) (hn'.at' fun o e => hk₂ _ o hCw e) (fun h₃ hn₃ hs₃ => ?_) (hpc C))
      have hs₃ : Heap.SameBut C h₂ h₃ := hs₃
      have hst₃ : St (a + 1) h₃ := W.frame _ _ _ hst₂ fun b hb o e => hs₃.extBut b o (fun h => hCf (h ▸ hb)) e
      have hacc₃ : h₃.PlainList D ys.toArray := hacc'.at fun o e => hs₃.extBut _ o hDC (hk₂ _ o hDw e)
      have off₃ : ∀ b o, b ≠ C → b ∉ wr → b ≠ D → h₁.get? b = some o → h₃.get? b = some o := fun b o q1 q2 q3 e => hs₃.extBut b o q1 (hk₂ b o q2 (hk b o q1 q2 q3 e))
      obtain ⟨m₃, hm₃⟩ : ∃ m₃ : Str → Option Value, m₃ = fun y => if y = x1 then some v else m y := ⟨_, rfl⟩
      have hv₃ : m₃ x1 = some v := by rw [hm₃]; simp
      have hn₃ : h₃.Ns C m₃ := by rw [hm₃]; exact hn₃
      obtain ⟨s₃, hs₃e⟩ : ∃ s₃ : Shared, s₃ = { s₂ with heap := h₃, toks := tk₂ + 1 } := ⟨_, rfl⟩
      show wpAny (model prog w) A (eval i2 (compEnvC scope cl C env)) _ _ { s₂ with heap := h₃, toks := tk₂ + 1 }
      rw [← hs₃e]
      have hh₃ : s₃.heap = h₃ := by rw [hs₃e]
      refine wpAny_mono (hsrc2 C m₃ s₃ (by rw [hh₃]; exact cbase off₃) (by rw [hh₃]; exact hn₃) s₃ _ (kp_refl _)) (fun x s₄ h₄ => wpAny_mono h₄ (fun it s₅ h₅ => ?_) fun _ _ y => y) fun _ _ y => y
      obtain ⟨I2, fp2, wr2, St2, rfl, W2, hst2, hwr2, k₅, hF2⟩ := h₅
      obtain ⟨h₅, tk₅, rfl, kk₅⟩ := k₅
      rw [hh₃] at hwr2 kk₅ hF2
      dsimp only at hst2
      have frw : ∀ b ∈ wr2, h₃.get? b = none := hwr2
      have frf : ∀ b ∈ fp2, h₃.get? b = none := fun b hb => (hF2 b hb).resolve_right (by simp)
      have lC : ∃ o, h₃.get? C = some o := by obtain ⟨o, _, _, e, _⟩ := hn₃; exact ⟨o, e⟩
      have lD : ∃ o, h₃.get? D = some o := by obtain ⟨n', e⟩ := hacc₃; exact ⟨_, e⟩
      have C2 : C ∉ fp2 := fun h => by obtain ⟨o, e⟩ := lC; rw [frf C h] at e; cases e
      have D2 : D ∉ fp2 := fun h => by obtain ⟨o, e⟩ := lD; rw [frf D h] at e; cases e
      have C2w : C ∉ wr2 := fun h => C2 (W2.sub _ h)
      have D2w : D ∉ wr2 := fun h => D2 (W2.sub _ h)
      have inner : codeAny (model prog w) A (.compLoop (.ListComp elt [⟨.Name x1 p1, i1, [], 0⟩, ⟨.Name x2 p2, i2, [], 0⟩] scope pos) 1 (.ref I2) (.ref D) (compEnvC scope cl C env))
          (fun r s₅ => r = .ok .next ∧ ∃ m, m < n1 + 1 - a ∧ ∃ h' tk m' ys a, s₅ = { s₂ with heap := h', toks := tk } ∧ St a h' ∧ h'.PlainList D (List.toArray ys) ∧ h'.Ns C m' ∧ GridTo n2 F a 0 ys ∧ a ≤ n1 ∧ m = n1 + 1 - a ∧
            (∀ b o, b ≠ C → b ∉ wr → b ≠ D → h₁.get? b = some o → h'.get? b = some o)) { s₃ with heap := h₅, toks := tk₅ } := by
        rw [hs₃e]
        refine comp2_in (fun j s' => ∃ h' tk m ys b, s' = { s₂ with heap := h', toks := tk } ∧ St2 b h' ∧ h'.PlainList D (List.toArray ys) ∧ h'.Ns C m ∧ m x1 = some v ∧ GridTo n2 F a b ys ∧ b ≤ n2 ∧ j = n2 + 1 - b ∧
          (∀ q o, q ≠ C → q ∉ wr2 → q ≠ D → h₅.get? q = some o → h'.get? q = some o)) ?_ (n2 + 1) ⟨h₅, tk₅, m₃, ys, 0, rfl, hst2, hacc₃.at fun o e => kk₅ _ o e, hn₃.keeps kk₅, hv₃, hG, Nat.zero_le _, rfl, fun _ _ _ _ _ e => e⟩
        rintro j s' ⟨G, tkG, mG, zs, b, rfl, hstG, haccG, hnG, hmG, hGG, hb, rfl, hkG⟩
        have upG : ∀ q o, q ≠ C → q ∉ wr → q ≠ D → h₁.get? q = some o → G.get? q = some o := fun q o q1 q2 q3 e => by
          have e3 := off₃ q o q1 q2 q3 e
          exact hkG q o q1 (fun hq => by rw [frw q hq] at e3; cases e3) q3 (kk₅ q o e3)
        by_cases hbt : b < n2
        · refine wpAny_mono (W2.item b _ (fun v s₄ => wpAny (model prog w) A (assign (.Name x2 p2) (compEnvC scope cl C env) v) (fun _ s₅ => _) (fun _ _ => False) s₄) (fun _ _ => False) hbt hstG ?_) (fun r s₁ h₁ => by
            cases r with
            | none => exact h₁.elim
            | some v => exact h₁) fun _ _ y => y
          intro u g₂ tg₂ hP2 hst2' hkg₂
          refine wpAny_assign_Name (wpAny_storeName_local (hl2 C) (hnG.at' fun o e => hkg₂ _ o C2w e) (fun g₃ hng₃ hsg₃ => ?_) (hpc C))
          have hsg₃ : Heap.SameBut C g₂ g₃ := hsg₃
          have upg : ∀ q o, q ≠ C → q ∉ wr → q ≠ D → h₁.get? q = some o → g₃.get? q = some o := fun q o q1 q2 q3 e => by
            have e3 := off₃ q o q1 q2 q3 e
            exact hsg₃.extBut q o q1 (hkg₂ q o (fun hq => by rw [frw q hq] at e3; cases e3) (upG q o q1 q2 q3 e))
          refine (helt C a b { s₂ with heap := g₃, toks := tg₂ + 1 } _ v u hlt hbt (cbase upg) hng₃ (by show (if x1 = x2 then _ else _) = _; rw [if_neg hx]; exact hmG) (by show (if x2 = x2 then _ else _) = _; rw [if_pos rfl]) hP hP2).use fun y₇ s₇ k₇ hy₇ => ?_
          obtain ⟨g₇, tg₇, rfl, hk₇⟩ := k₇
          have haccg : g₇.PlainList D zs.toArray := haccG.at fun o e => hk₇ _ o (hsg₃.extBut _ o hDC (hkg₂ _ o D2w e))
          have hzl : zs.length ≤ 1048576 := by
            rw [hGG.1]
            have : a * n2 + n2 ≤ n1 * n2 := by rw [← Nat.succ_mul]; exact Nat.mul_le_mul_right _ hlt
            omega
          refine wpAny_list_append_plain (hsz := by rw [sizeLine_eq]; simp; omega) haccg fun g₈ hl₈ hs₈ => ?_
          refine ⟨n2 + 1 - (b + 1), by omega, g₈, tg₇, _, zs ++ [y₇], b + 1, rfl, ?_, by simpa using hl₈, (hng₃.keeps hk₇).sameBut hs₈ (Ne.symm hDC), ?_, hGG.snoc hbt hy₇, by omega, rfl, ?_⟩
          · exact W2.frame _ _ _ hst2' fun q hq o e => hs₈.extBut q o (fun h => D2 (h ▸ hq)) (hk₇ q o (hsg₃.extBut q o (fun h => C2 (h ▸ hq)) e))
          · show (if x1 = x2 then _ else _) = _
            rw [if_neg hx]; exact hmG
          · exact fun q o q1 q2 q3 e => hs₈.extBut q o q3 (hk₇ q o (hsg₃.extBut q o q1 (hkg₂ q o q2 (hkG q o q1 q2 q3 e))))
        · have hbn : b = n2 := by omega
          subst hbn
          refine W2.done _ _ _ hstG fun g₂ tg₂ hkg₂ => ?_
          have up2 : ∀ q o, q ≠ C → q ∉ wr2 → q ≠ D → h₅.get? q = some o → g₂.get? q = some o := fun q o q1 q2 q3 e => hkg₂ q o q2 (hkG q o q1 q2 q3 e)
          refine ⟨rfl, n1 + 1 - (a + 1), by omega, g₂, tg₂, mG, zs, a + 1, rfl, ?_, haccG.at fun o e => hkg₂ _ o D2w e, hnG.at' fun o e => hkg₂ _ o C2w e, hGG.row, hlt, rfl, ?_⟩
          · refine W.frame _ _ _ hst₃ fun q hq o e => up2 q o (fun h => hCf (h ▸ hq)) (fun h => ?_) (fun h => hDf (h ▸ hq)) (kk₅ q o e)
            rw [frw q h] at e; cases e
          · intro q o q1 q2 q3 e
            have e3 := off₃ q o q1 q2 q3 e
            exact up2 q o q1 (fun hq => by rw [frw q hq] at e3; cases e3) q3 (kk₅ q o e3)
      exact comp2_start inner (W2.self 0 _ _ _ hst2 inner)
    · have hin : a = n1 := by omega
      subst hin
      refine W.done _ _ _ hst' fun h₂ tk₂ hk₂ => ?_
      refine fin h₂ tk₂ m ys (hn'.at' fun o e => hk₂ _ o hCw e) (hacc'.at fun o e => hk₂ _ o hDw e) hG ?_
      exact cbase fun b o q1 q2 q3 e => hk₂ b o q2 (hk b o q1 q2 q3 e)
  exact codeAny_compStart_list (loop _ rfl) (W.self 0 _ _ _ hst₁ (loop _ rfl))
end
end Mine
end
section
open PySem PySem.W PyProof.Rows PySem.Calls PySem.SeqAt
namespace Mine
abbrev txt (w : List Nat) : Str := ⟨w.toArray⟩
/-- a row of ints off M -/
def RowM (M : List Addr) (h : Heap) (ns : List Int) (v : Value) : Prop := ∃ l vs, v = .ref l ∧ l ∉ M ∧ h.IsList l (List.toArray vs) ∧ Paired IsI ns vs
/-- a pair of a row and a word, off M -/
def LiveM (M : List Addr) (h : Heap) (p : List Int × List Nat) (v : Value) : Prop := ∃ T a b, v = .ref T ∧ T ∉ M ∧ h.IsTuple T #[a, b] ∧ RowM M h p.1 a ∧ IsS (txt p.2) b
theorem RowM.keeps {M : List Addr} {h h' : Heap} {ns : List Int} {v : Value} (r : RowM M h ns v) (hk : ∀ b o, b ∉ M → h.get? b = some o → h'.get? b = some o) : RowM M h' ns v :=
  let ⟨l, vs, h1, h2, h3, h4⟩ := r; ⟨l, vs, h1, h2, h3.at fun o e => hk _ o h2 e, h4⟩
theorem LiveM.keeps {M : List Addr} {h h' : Heap} {p : List Int × List Nat} {v : Value} (r : LiveM M h p v) (hk : ∀ b o, b ∉ M → h.get? b = some o → h'.get? b = some o) : LiveM M h' p v :=
  let ⟨T, a, b, h1, h2, ⟨o, e, q⟩, h4, h5⟩ := r; ⟨T, a, b, h1, h2, ⟨o, hk _ o h2 e, q⟩, h4.keeps hk, h5⟩
theorem RowM.less {M M' : List Addr} {h : Heap} {ns : List Int} {v : Value} (r : RowM M h ns v) (hM : ∀ b ∈ M', b ∈ M) : RowM M' h ns v :=
  let ⟨l, vs, h1, h2, h3, h4⟩ := r; ⟨l, vs, h1, fun q => h2 (hM _ q), h3, h4⟩
theorem LiveM.less {M M' : List Addr} {h : Heap} {p : List Int × List Nat} {v : Value} (r : LiveM M h p v) (hM : ∀ b ∈ M', b ∈ M) : LiveM M' h p v :=
  let ⟨T, a, b, h1, h2, h3, h4, h5⟩ := r; ⟨T, a, b, h1, fun q => h2 (hM _ q), h3, h4.less hM, h5⟩
theorem RowM.more {M X : List Addr} {h : Heap} {ns : List Int} {v : Value} (r : RowM M h ns v) (hX : ∀ b ∈ X, h.get? b = none) : RowM (X ++ M) h ns v := by
  obtain ⟨l, vs, h1, h2, h3, h4⟩ := r
  refine ⟨l, vs, h1, fun q => ?_, h3, h4⟩
  rcases List.mem_append.mp q with q | q
  · obtain ⟨o, e, _⟩ := h3; rw [hX _ q] at e; cases e
  · exact h2 q
theorem LiveM.more {M X : List Addr} {h : Heap} {p : List Int × List Nat} {v : Value} (r : LiveM M h p v) (hX : ∀ b ∈ X, h.get? b = none) : LiveM (X ++ M) h p v := by
  obtain ⟨T, a, b, h1, h2, h3, h4, h5⟩ := r
  refine ⟨T, a, b, h1, fun q => ?_, h3, h4.more hX, h5⟩
  rcases List.mem_append.mp q with q | q
  · obtain ⟨o, e, _⟩ := h3; rw [hX _ q] at e; cases e
  · exact h2 q
theorem RowM.at {M : List Addr} {h : Heap} {ns : List Int} {v : Value} (r : RowM M h ns v) : RowAt h ns v :=
  let ⟨l, vs, h1, _, h3, h4⟩ := r; ⟨l, vs.toArray, h1, h3, by simpa using h4⟩
section
variable {prog : Program} {w : World} {A : Around} {s₀ : Shared} {env : Env}

def refsOf (vs : List Value) : List Addr := vs.filterMap fun v => match v with | .ref T => some T | _ => none
theorem mem_refs {vs : List Value} {T : Addr} (h : Value.ref T ∈ vs) : T ∈ refsOf vs := List.mem_filterMap.mpr ⟨_, h, rfl⟩
/-- a list of pairs, told by p -/
theorem src_tuples {elts : List Expr} {k : Nat} {tp : Pos} {t : Sem Value} {vs : List Value} {p : Nat → Value → Value → Prop} (hh : A.handled = none) (hT : ∀ j v, vs[j]? = some v → ∃ T a b, v = .ref T ∧ s₀.heap.IsTuple T #[a, b] ∧ p j a b) {F : List Addr}
    (h : Ev prog w A s₀ t (fun v c => ∃ l, v = .ref l ∧ c.heap.IsList l vs.toArray ∧ (s₀.heap.get? l = none ∨ l ∈ F))) :
    Src prog w A (.Tuple elts k tp) s₀ t vs.length (fun i v h => ∃ T a b, v = .ref T ∧ h.IsTuple T #[a, b] ∧ p i a b) (refsOf vs ++ F) := by
  intro s E kk
  refine h.at kk fun v s₁ k₁ hv => ?_
  obtain ⟨l, rfl, hl, hF⟩ := hv
  refine wpAny_pyIter_list hl ?_
  have hne : l ≠ s₁.heap.objs.size := by
    obtain ⟨o, e, _⟩ := hl
    exact Nat.ne_of_lt (Heap.lt_size e)
  have W := Walks.list (prog := prog) (w := w) hh s₁.heap.objs.size l hne vs.toArray
  have hT₁ : ∀ j v, vs[j]? = some v → ∃ T a b, v = .ref T ∧ s₁.heap.IsTuple T #[a, b] ∧ p j a b := fun j v hv => by
    obtain ⟨T, a, b, h1, ⟨o, e, q⟩, h3⟩ := hT j v hv
    exact ⟨T, a, b, h1, ⟨o, kp_get (kp_trans kk k₁) e, q⟩, h3⟩
  refine ⟨s₁.heap.objs.size, s₁.heap.objs.size :: l :: refsOf vs, [s₁.heap.objs.size], fun i h => (Heap.IsListIter h s₁.heap.objs.size l i ∧ h.IsList l vs.toArray) ∧ ∀ j v, vs[j]? = some v → ∃ T a b, v = .ref T ∧ h.IsTuple T #[a, b] ∧ p j a b, rfl, ⟨?_, ?_, ?_, ?_, ?_, ?_⟩, ⟨⟨⟨_, push_live, rfl, rfl⟩, ?_⟩, ?_⟩, ?_, kp_trans k₁ (kp_push _ _), fun b hb => ?_⟩
  · intro b hb
    simp only [List.mem_cons, List.not_mem_nil, or_false] at hb
    subst hb; exact .head _
  · rintro i h h' ⟨st, ht⟩ hk
    refine ⟨W.frame i h h' st fun b hb o e => hk b ?_ o e, fun j v hv => ?_⟩
    · simp only [List.mem_cons, List.not_mem_nil, or_false] at hb ⊢
      rcases hb with rfl | rfl
      · exact Or.inl rfl
      · exact Or.inr (Or.inl rfl)
    · obtain ⟨T, a, b, h1, ⟨o, e, q⟩, h3⟩ := ht j v hv
      exact ⟨T, a, b, h1, ⟨o, hk T (.tail _ (.tail _ (mem_refs (h1 ▸ List.mem_of_getElem? hv)))) o e, q⟩, h3⟩
  · rintro i h ⟨⟨⟨o, e, _⟩, ⟨o', e', _⟩⟩, ht⟩ b hb
    simp only [List.mem_cons] at hb
    rcases hb with rfl | rfl | hb
    · exact ⟨o, e⟩
    · exact ⟨o', e'⟩
    · obtain ⟨v, hv, hb⟩ := List.mem_filterMap.mp hb
      obtain ⟨j, hj⟩ := List.getElem?_of_mem hv
      obtain ⟨T, a, b', rfl, ⟨o, e, q⟩, h3⟩ := ht j v hj
      cases hb
      exact ⟨o, e⟩
  · rintro i s Q E hi ⟨st, ht⟩ hQ
    refine W.item i s _ E (by simpa using hi) st fun v h' tk pv st' kv => ?_
    have hv : vs[i]? = some v := by simpa using pv
    have ht' : ∀ j v, vs[j]? = some v → ∃ T a b, v = .ref T ∧ h'.IsTuple T #[a, b] ∧ p j a b := fun j u hu => by
      obtain ⟨T, a, b, h1, ⟨o, e, q⟩, h3⟩ := ht j u hu
      refine ⟨T, a, b, h1, ⟨o, kv T o (fun hm => ?_) e, q⟩, h3⟩
      simp only [List.mem_cons, List.not_mem_nil, or_false] at hm
      obtain ⟨⟨oi, ei, ci, _⟩, _⟩ := st
      rw [hm, ei] at e; cases e
      rw [ci] at q; exact absurd q.1 (by decide)
    obtain ⟨T, a, b, rfl, h2, h3⟩ := ht' i v hv
    exact wpAny_letOwnedTupleGo_listiter st'.1 (hQ _ h' tk ⟨T, a, b, rfl, h2, h3⟩ ⟨st', ht'⟩ kv)
  · rintro s Q E ⟨st, ht⟩ hQ
    exact W.done s Q E (by simpa using st) hQ
  · rintro i s Q E ⟨st, ht⟩ hQ
    exact W.self i s Q E st hQ
  · obtain ⟨o, e, r⟩ := hl
    exact ⟨o, Heap.get?_push_of_some _ e, r⟩
  · intro j v hv
    obtain ⟨T, a, b, h1, ⟨o, e, q⟩, h3⟩ := hT₁ j v hv
    exact ⟨T, a, b, h1, ⟨o, Heap.get?_push_of_some _ e, q⟩, h3⟩
  · intro b hb
    simp only [List.mem_cons, List.not_mem_nil, or_false] at hb
    subst hb
    exact kp_new k₁
  · simp only [List.mem_cons] at hb
    rcases hb with rfl | rfl | hb
    · exact Or.inl (kp_new (kp_trans kk k₁))
    · rcases hF with q | q
      · exact Or.inl q
      · exact Or.inr (List.mem_append_right _ q)
    · exact Or.inr (List.mem_append_left _ hb)
/-- a tuple of two is bound to two names of the frame -/
theorem st_bindPair {s c : Shared} {L : Addr} {m : Str → Option Value} {x y : Str} {px py tp : Pos} {k : Nat} {T : Addr} {a b : Value} {Q : Unit → Shared → Prop} {E : Value → Shared → Prop} (hh : A.handled = none)
    (i : InCall s L m c) (hL : env.locals = L) (hT : c.heap.IsTuple T #[a, b])
    (h : ∀ c₂, InCall s L (fun z => if z = y then some b else if z = x then some a else m z) c₂ → KeepsBut L c c₂ → Q () c₂)
    (hl : env.kindOf x = some .local := by rfl) (hl' : env.kindOf y = some .local := by rfl) (hp : (env.scope.kind == .class || (env.scope.kind == .module && env.locals != env.globals)) = false := by rfl) :
    wpAny (model prog w) A (assign (.Tuple [.Name x px, .Name y py] k tp) env (.ref T)) Q E c := by
  refine wpAny_assign_Tuple hh hT rfl rfl fun h' ex => ?_
  have k₂ := kp_ext ex
  refine wpAny_assignInOrder_more (wpAny_assign_Name (st_store (InCall.kp i k₂) hL (fun c₃ i₃ kb₃ => ?_) hl hp))
  refine wpAny_assignInOrder_more (wpAny_assign_Name (st_store i₃ hL (fun c₄ i₄ kb₄ => wpAny_assignInOrder_none ?_) hl' hp))
  exact h c₄ i₄ (kb_trans (kb_trans (kb_kp k₂) kb₃) kb₄)
/-- row + [e] -/
theorem ev_rowAdd {le e : Expr} {lp pos : Pos} {M : List Addr} {ns : List Int} {n : Int} {rv : Value} (h1 : Ev prog w A s₀ (eval le env) (fun v _ => v = rv)) (hr : RowM M s₀.heap ns rv) (he : ∀ s₁, Keeps s₀ s₁ → Ev prog w A s₁ (eval e env) (fun v _ => IsI n v))
    (hM : ∀ b ∈ M, ∃ o, s₀.heap.get? b = some o) (hsz : ns.length ≤ 1000) (hs : starEach [e] env = (false, eval e env) :: starEach [] env := by rfl) : Ev prog w A s₀ (eval (.BinOp le .Add (.List [e] lp) pos) env) (fun v c => RowM M c.heap (ns ++ [n]) v) := by
  obtain ⟨l, vs, rfl, hlM, hl, hp⟩ := hr
  refine (ev_addL (vs := vs) (P2 := fun ws => Paired IsI [n] ws) (h1.mono fun v c kc hv => ⟨l, hv, hl.at fun o e => kp_get kc e⟩) (fun s₁ k₁ => (ev_List1 (P := fun v _ => IsI n v) (he s₁ k₁) (fun _ _ _ _ h => h) hs).mono fun v c kc hv => ?_) (fun ws hw => ?_)).mono fun v c kc hv => ?_
  · obtain ⟨l', x, rfl, hl', hx, _⟩ := hv
    exact ⟨l', [x], rfl, hl'.isList, .cons hx .nil⟩
  · rw [← hp.length, ← hw.length, sizeLine_eq]; simp; omega
  · obtain ⟨l', ws, rfl, hl', hw, hn⟩ := hv
    refine ⟨l', vs ++ ws, rfl, fun q => ?_, hl', ?_⟩
    · obtain ⟨o, e⟩ := hM _ q
      rw [hn] at e; cases e
    · have : ∀ {as bs : List Int} {us ws : List Value}, Paired IsI as us → Paired IsI bs ws → Paired IsI (as ++ bs) (us ++ ws) := by
        intro as bs us ws h1 h2
        induction h1 with
        | nil => exact h2
        | cons h _ ih => exact .cons h ih
      exact this hp hw
theorem ev_tests1 {t : Expr} {ok : Bool} (h : Ev prog w A s₀ (isTrue t env (eval t env)) (fun b _ => b = ok)) :
    Ev prog w A s₀ (forIn [t] true fun c r => if r = true then do let ok ← isTrue c env (eval c env); pure (ForInStep.yield ok) else pure (ForInStep.yield r)) (fun b _ => b = ok) :=
  Ev.of fun s Q E k hQ => wpAny_tests_one (h.at k fun b s₁ k₁ hb => hQ b s₁ k₁ hb)
end
end Mine
end
section
open PySem PySem.W PyProof.Rows PySem.Calls PySem.SeqAt
namespace Mine
section
variable {prog : Program} {w : World} {A : Around} {s₀ : Shared} {env : Env}

/-- for tgt in iter: body, where the body may turn what it has made in earlier rounds; X: what the loop leans on, Y: what it writes itself -/
theorem st_for2 {c : Shared} {tgt iter : Expr} {body rest : List Stmt} {pos : Pos} {n : Nat} {P : Nat → Value → Heap → Prop} {F : List Addr} {Q : Flow → Shared → Prop} {E : Value → Shared → Prop} (J : List Addr → List Addr → Nat → Shared → Prop)
    (hsrc : Src prog w A tgt c (eval iter env) n P F)
    (hJ0 : ∀ X Y c', (∀ b ∈ Y, c.heap.get? b = none) → (∀ b ∈ X, c.heap.get? b = none ∨ b ∈ F) → (∀ b ∈ Y, b ∈ X) → Keeps c c' → J X Y 0 c')
    (hmono : ∀ X Y i s s', (∀ b ∈ Y, c.heap.get? b = none) → (∀ b ∈ Y, b ∈ X) → J X Y i s → (∃ h tk, s' = { s with heap := h, toks := tk }) → KeepsOff Y s s' → J X Y i s')
    (hturn : ∀ X Y i s v, i < n → (∀ b ∈ Y, c.heap.get? b = none) → (∀ b ∈ X, ∃ o, s.heap.get? b = some o) → J X Y i s → P i v s.heap → wpAny (model prog w) A (assign tgt env v) (fun _ s₂ => wpAny (model prog w) A (execs body env) (fun f s₃ => match f with
      | .next | .cont => J X Y (i + 1) s₃ ∧ ∀ b ∈ X, ∀ o, s.heap.get? b = some o → s₃.heap.get? b = some o
      | .brk => wpAny (model prog w) A (execs rest env) Q E s₃
      | .ret v => Q (.ret v) s₃) (fun _ _ => False) s₂) (fun _ _ => False) s)
    (hdone : ∀ X Y s, (∀ b ∈ Y, c.heap.get? b = none) → J X Y n s → wpAny (model prog w) A (execs rest env) Q E s)
    (hs : ∀ x, foldedSetIterable iter env x = pure x := by intro _; rfl) :
    wpAny (model prog w) A (execs (.For tgt iter body [] pos :: rest) env) Q E c := by
  refine wpAny_execs_cons (wpAny_For (wpAny_mono (hsrc c E (kp_refl _)) (fun x s₁ h₁ => wpAny_mono h₁ (fun it s₂ h₂ => ?_) fun _ _ y => y) fun _ _ y => y) hs)
  obtain ⟨I, fp, wr, St, rfl, W, hst, hwr, k₂, hF⟩ := h₂
  refine codeAny_forLoop_any (fun j s => ∃ i, j = n + 1 - i ∧ i ≤ n ∧ St i s.heap ∧ J fp wr i s) ?_ (n + 1) ⟨0, rfl, Nat.zero_le _, hst, hJ0 fp wr s₂ hwr hF W.sub k₂⟩
  rintro j s ⟨i, rfl, hi, hst', hJ⟩
  by_cases hlt : i < n
  · refine wpAny_mono (W.item i s (fun v s₄ => wpAny (model prog w) A (assign tgt env v) (fun _ s₅ => wpAny (model prog w) A (execs body env) (fun f s₃ => match f with
            | .next | .cont => ∃ m, m < n + 1 - i ∧ ∃ i, m = n + 1 - i ∧ i ≤ n ∧ St i s₃.heap ∧ J fp wr i s₃
            | .brk => wpAny (model prog w) A (execs rest env) Q E s₃
            | .ret v => Q (.ret v) s₃) (fun _ _ => False) s₅) (fun _ _ => False) s₄) (fun _ _ => False) hlt hst' ?_) (fun r s₁ h₁ => by
        cases r with
        | none => exact h₁.elim
        | some v =>
          refine wpAny_mono h₁ (fun _ s₄ h₄ => wpAny_mono h₄ (fun _ s₅ h₅ => wpAny_mono h₅ (fun f s₆ h₆ => ?_) fun _ _ y => y.elim) fun _ _ y => y.elim) fun _ _ y => y.elim
          cases f with
          | next => exact h₆
          | cont => exact h₆
          | brk => exact h₆
          | ret v => exact h₆) fun _ _ y => y.elim
    intro v h₂ tk₂ hP hst₂ hk₂
    have hJ₂ := hmono fp wr i s { s with heap := h₂, toks := tk₂ } hwr W.sub hJ ⟨_, _, rfl⟩ hk₂
    refine wpAny_mono (hturn fp wr i _ v hlt hwr (fun b hb => W.live _ _ hst₂ b hb) hJ₂ hP) (fun _ s₅ h₅ => wpAny_mono h₅ (fun f s₆ h₆ => ?_) fun _ _ y => y) fun _ _ y => y
    have go : (J fp wr (i + 1) s₆ ∧ ∀ b ∈ fp, ∀ o, ({ s with heap := h₂, toks := tk₂ } : Shared).heap.get? b = some o → s₆.heap.get? b = some o) → ∃ m, m < n + 1 - i ∧ ∃ i, m = n + 1 - i ∧ i ≤ n ∧ St i s₆.heap ∧ J fp wr i s₆ := by
      rintro ⟨hJ', hk'⟩
      exact ⟨n + 1 - (i + 1), by omega, i + 1, rfl, hlt, W.frame _ _ _ hst₂ fun b hb o e => hk' b hb o e, hJ'⟩
    cases f with
    | next => exact go h₆
    | cont => exact go h₆
    | brk => exact h₆
    | ret v => exact h₆
  · have hin : i = n := by omega
    subst hin
    refine W.done _ _ _ hst' fun h₂ tk₂ hk₂ => ?_
    exact wpAny_execs_nil (hdone fp wr _ hwr (hmono fp wr i s _ hwr W.sub hJ ⟨_, _, rfl⟩ hk₂))

theorem ev_callT2 {f : Str} {np pos : Pos} {e e' : Expr} {T : String} {p1 p2 : Value → Prop} {P : Value → Shared → Prop} (hf : Ev prog w A s₀ (eval (.Name f np) env) (fun v _ => v = .type T))
    (h1 : Ev prog w A s₀ (eval e env) (fun v _ => p1 v)) (h2 : Ev prog w A s₀ (eval e' env) (fun v _ => p2 v)) (hc : ∀ v u, p1 v → p2 u → Ev prog w A s₀ (call (.type T) [v, u]) P)
    (he : starEach [e, e'] env = (false, eval e env) :: starEach [e'] env := by rfl) (he' : starEach [e'] env = (false, eval e' env) :: starEach [] env := by rfl) : Ev prog w A s₀ (eval (.Call (.Name f np) [e, e'] [] pos) env) P :=
  Ev.of fun s Q E k hQ => wpAny_Call_NameR (hf.at k fun vf s₁ k₁ pf => by
    subst pf
    rw [he, he']
    refine PySem.callWith_type rfl (evalArgs_plain (spliced_cons (h1.at (kp_trans k k₁) fun v s₂ k₂ pv => spliced_cons (h2.at (kp_trans (kp_trans k k₁) k₂) fun u s₃ k₃ pu => spliced_nil ?_))))
    exact (hc v u pv pu).at (kp_trans (kp_trans (kp_trans k k₁) k₂) k₃) fun r s₄ k₄ pr => hQ r s₄ (kp_trans (kp_trans (kp_trans k₁ k₂) k₃) k₄) pr)
/-- [e], with the state that e left -/
theorem ev_List1n {e : Expr} {pos : Pos} {P : Value → Shared → Prop} (h : Ev prog w A s₀ (eval e env) P) (he : starEach [e] env = (false, eval e env) :: starEach [] env := by rfl) :
    Ev prog w A s₀ (eval (.List [e] pos) env) (fun v c => ∃ l x s₁, v = .ref l ∧ c.heap.PlainList l #[x] ∧ P x s₁ ∧ Keeps s₀ s₁ ∧ Keeps s₁ c ∧ s₁.heap.get? l = none) :=
  Ev.of fun s Q E k hQ => wpAny_List (spliced_more (h.at k fun v s₁ k₁ hv => spliced_none ⟨by show 1 ≤ 2 ^ 24; decide, hQ _ _ (kp_trans k₁ (kp_push _ _)) ⟨_, v, s₁, rfl, ⟨0, push_live⟩, hv, kp_trans k k₁, kp_push _ _, kp_new (kp_refl s₁)⟩⟩) he)
end
end Mine
end
section
open PySem PySem.W PyProof.Rows PySem.Calls
set_option maxRecDepth 100000
namespace Mine

/-- the text's defs, by their places -/
def fName : Stmt → Str
  | .FunctionDef n _ _ _ _ _ _ _ _ _ => n
  | _ => Str.empty
def fArgs : Stmt → Arguments
  | .FunctionDef _ a _ _ _ _ _ _ _ _ => a
  | _ => ⟨[], [], none, [], [], none, []⟩
def fBody : Stmt → List Stmt
  | .FunctionDef _ _ b _ _ _ _ _ _ _ => b
  | _ => []
def fScope : Stmt → Scope
  | .FunctionDef _ _ _ _ _ _ s _ _ _ => s
  | _ => default
def stAt (n : Nat) : Stmt := (PySem.Challenge.pw_mg0004_02.main.body).getD n (.Pass ⟨0, 0, 0, 0⟩)

def FnAt (mg : Str → Option Value) (h : Heap) (st : Stmt) (a : Addr) : Prop :=
  ∃ o pm code doc, mg (fName st) = some (.ref a) ∧ h.get? a = some o ∧ o.data = .func (docDef (fName st) (fArgs st) (fBody st) (fScope st) pm code doc) ∧ h.CodeRec code (fName st)

/-- what the calls need of the top -/
structure Base (mg mb : Str → Option Value) (h : Heap) : Prop where
  g : h.Ns mainGlobals mg
  b : h.Ns builtinsNs mb
  lim : h.NoLimit
  fn : ∀ n ∈ [1, 2, 3, 5, 6, 7, 8], ∃ a, FnAt mg h (stAt n) a
  free : ∀ x ∈ (["isinstance", "str", "ord", "chr", "range", "int", "len", "sorted"] : List Str), mg x = none
  bb : ∀ x : Str, x ≠ "__name__" → mb x = bootBuiltins x

theorem FnAt.keeps {mg : Str → Option Value} {h h' : Heap} {st : Stmt} {a : Addr} (f : FnAt mg h st a) (hk : ∀ b o, h.get? b = some o → h'.get? b = some o) : FnAt mg h' st a :=
  let ⟨o, pm, code, doc, h1, h2, h3, h4⟩ := f; ⟨o, pm, code, doc, h1, hk _ _ h2, h3, h4.keeps hk⟩
theorem Base.keeps {mg mb : Str → Option Value} {h h' : Heap} (B : Base mg mb h) (hk : ∀ b o, h.get? b = some o → h'.get? b = some o) : Base mg mb h' :=
  ⟨B.g.keeps hk, B.b.keeps hk, B.lim.keeps hk, fun n hn => let ⟨a, f⟩ := B.fn n hn; ⟨a, f.keeps hk⟩, B.free, B.bb⟩

theorem bt_isinstance : bootBuiltins (Str.ofString "isinstance") = some (.builtin "isinstance") := by decide +kernel
theorem bt_str : bootBuiltins (Str.ofString "str") = some (.type "str") := by decide +kernel
theorem bt_ord : bootBuiltins (Str.ofString "ord") = some (.builtin "ord") := by decide +kernel
theorem bt_chr : bootBuiltins (Str.ofString "chr") = some (.builtin "chr") := by decide +kernel
theorem bt_range : bootBuiltins (Str.ofString "range") = some (.type "range") := by decide +kernel
theorem bt_len : bootBuiltins (Str.ofString "len") = some (.builtin "len") := by decide +kernel
theorem bt_sorted : bootBuiltins (Str.ofString "sorted") = some (.builtin "sorted") := by decide +kernel
theorem bt_int : bootBuiltins (Str.ofString "int") = some (.type "int") := by decide +kernel

/-- room: frames and C units -/
structure Room (A : Around) (n : Nat) : Prop where
  handled : A.handled = none
  depth : A.depth + n < recursionLimit
  units : A.units + 8 * n < cLine
theorem Room.deeper {A : Around} {n : Nat} (r : Room A (n + 1)) (env : Env) : Room (A.deeper env) n :=
  ⟨r.handled, by have := r.depth; show A.depth + 1 + n < _; omega, by have := r.units; show A.units + 3 + 8 * n < _; omega⟩
theorem Room.less {A : Around} {n m : Nat} (r : Room A n) (h : m ≤ n) : Room A m := ⟨r.handled, by have := r.depth; omega, by have := r.units; omega⟩

section
variable {prog : Program} {w : World} {A : Around} {s₀ : Shared} {env : Env} {mg mb : Str → Option Value}

theorem ev_bname {x : Str} {pos : Pos} {v : Value} (B : Base mg mb s₀.heap) (hx : x ∈ (["isinstance", "str", "ord", "chr", "range", "int", "len", "sorted"] : List Str)) (hv : bootBuiltins x = some v)
    (hg : env.globals = mainGlobals := by rfl) (hbn : env.builtins = builtinsNs := by rfl) (hk : env.scope.kind = .function := by rfl) (hl : env.kindOf x = some .globalImplicit := by rfl)
    (hd : (x == ("__debug__" : Str)) = false := by decide) (hn : x ≠ "__name__" := by decide) : Ev prog w A s₀ (eval (.Name x pos) env) (fun u _ => u = v) :=
  ev_blt (hg ▸ B.g) (B.free x hx) (hbn ▸ B.b) ((B.bb x hn).trans hv) hk hl hd

/-- what a code is -/
def CodeIs (c : Int) (v : Value) : Prop := IsI c v ∨ (0 ≤ c ∧ IsS ⟨#[c.toNat]⟩ v)

/-- the frame of a call of st -/
def fenv (st : Stmt) (pm code doc : Value) (L a : Addr) : Env := callEnv (docDef (fName st) (fArgs st) (fBody st) (fScope st) pm code doc) L a

theorem enter {st : Stmt} {a : Addr} {vals : List Value} {binds : List (Str × Value)} {P : Value → Shared → Prop} (lim : s₀.heap.NoLimit) (R : A.depth < recursionLimit) (f : FnAt mg s₀.heap st a)
    (hbind : ∀ pm code doc, bindArgs (docDef (fName st) (fArgs st) (fBody st) (fScope st) pm code doc) ⟨vals, []⟩ = pure binds)
    (h : ∀ pm code doc s L s₁, Keeps s₀ s → InCall s L (fun x => binds.reverse.lookup x) s₁ →
      wpAny (model prog w) (A.deeper (fenv st pm code doc L a)) (execs (fBody st) (fenv st pm code doc L a)) (fun f s' => P (match f with | .ret v => v | _ => .none) s' ∧ Keeps s s') (fun _ _ => False) s₁)
    (hcell : ((fScope st).names.all fun x => x.2 != .cell) = true := by decide) (hloc : (binds.all fun x => decide ((fScope st).names.lookup x.1 = some .local)) = true := by rfl)
    (hco : (fScope st).isCoroutine = false := by rfl) (hgen : (fScope st).isGenerator = false := by rfl) (hk : (fScope st).kind = .function := by rfl) :
    Ev prog w A s₀ (call (.ref a) vals) P := by
  obtain ⟨o, pm, code, doc, h1, h2, h3, h4⟩ := f
  exact ev_enter R h2 h3 lim h4 rfl (hbind pm code doc) (fun x hx => by simpa using List.all_eq_true.mp hcell x hx) (locs hloc) (fun s L s₁ k i => h pm code doc s L s₁ k i) hco hgen hk

theorem ctoi_call {c : Int} {v : Value} {a : Addr} (B : Base mg mb s₀.heap) (R : Room A 1) (f : FnAt mg s₀.heap (stAt 1) a) (hv : CodeIs c v) :
    Ev prog w A s₀ (call (.ref a) [v]) (fun u _ => IsI c u) := by
  refine enter B.lim (by have := R.depth; omega) f (binds := [(Str.ofString "c", v)]) (fun _ _ _ => rfl) fun pm code doc s L s₁ k i => ?_
  have B₁ := B.keeps (kp_keep (kp_trans k (InCall.keeps i)))
  have hc : ∀ pos, Ev prog w (A.deeper (fenv (stAt 1) pm code doc L a)) s₁ (eval (.Name (Str.ofString "c") pos) (fenv (stAt 1) pm code doc L a)) (fun u _ => u = v) := fun pos => ev_loc i.ns rfl
  rcases hv with hv | ⟨h0, hv⟩
  · refine st_if (b := false) (ev_tval (ev_call2 (ev_bname B₁ (by decide) bt_isinstance) (hc _) (ev_bname B₁ (by decide) bt_str) (fun u t hu ht => by subst hu ht; exact ev_isiI hv)) ev_truB) (fun e => by cases e) fun _ c' k' => ?_
    exact st_ret ((hc _).later k') fun u c'' k'' hu => ⟨by subst hu; exact hv, kp_trans (InCall.keeps i) (kp_trans k' k'')⟩
  · refine st_if (b := true) (ev_tval (ev_call2 (ev_bname B₁ (by decide) bt_isinstance) (hc _) (ev_bname B₁ (by decide) bt_str) (fun u t hu ht => by subst hu ht; exact ev_isiS hv)) ev_truB) (fun _ c' k' => ?_) (fun e => by cases e)
    refine st_ret (ev_call1 (ev_bname (B₁.keeps (kp_keep k')) (by decide) bt_ord) ((hc _).later k') fun u s₂ k₂ hu => by subst hu; exact ev_ord hv) fun u c'' k'' hu => ⟨?_, kp_trans (InCall.keeps i) (kp_trans k' k'')⟩
    rwa [Int.toNat_of_nonneg h0] at hu
end
end Mine
end
section
open PySem PySem.W PyProof.Rows PySem.Calls
set_option maxRecDepth 100000
namespace Mine

theorem and128 (x : Int) : (Builtin.bitAnd x 128 != 0) = decide (x % 256 > 127) := by
  have key : ∀ n : Nat, n &&& 128 = if n % 256 > 127 then 128 else 0 := by
    intro n
    have h : n &&& 128 = (n % 256) &&& 128 := by
      have e := Nat.and_two_pow_sub_one_eq_mod n 8
      rw [show (256 : Nat) = 2 ^ 8 from rfl, ← e, Nat.and_assoc]; rfl
    have hd : ∀ k : Fin 256, k.val &&& 128 = if k.val % 256 > 127 then 128 else 0 := by decide +kernel
    have := hd ⟨n % 256, Nat.mod_lt _ (by decide)⟩
    rw [h, this, Nat.mod_mod]
  by_cases hx : 0 ≤ x
  · rw [bitAnd_pp hx (by decide)]
    rw [show Int.toNat 128 = 128 from rfl, key]
    have e : (x.toNat : Int) = x := Int.toNat_of_nonneg hx
    by_cases hc : x.toNat % 256 > 127
    · rw [if_pos hc]; simp; omega
    · rw [if_neg hc]; simp; omega
  · rw [bitAnd_np hx (by decide)]
    rw [show Int.toNat 128 = 128 from rfl, Nat.and_comm, key]
    have e : ((Builtin.bitNot x).toNat : Int) = -x - 1 := by unfold Builtin.bitNot; omega
    by_cases hc : (Builtin.bitNot x).toNat % 256 > 127
    · rw [if_pos hc]; simp; omega
    · rw [if_neg hc]; simp; omega
theorem or32 {x : Int} (h0 : 0 ≤ x) (h1 : x < 128) (h : ¬ (32 ≤ x ∧ x ≤ 126)) : Builtin.bitOr x 32 + 32 = if x = 127 then 159 else x + 64 := by
  have key : ∀ n : Fin 128, ¬ (32 ≤ ((n.val : Nat) : Int) ∧ ((n.val : Nat) : Int) ≤ 126) → Builtin.bitOr ((n.val : Nat) : Int) 32 + 32 = if ((n.val : Nat) : Int) = 127 then 159 else ((n.val : Nat) : Int) + 64 := by decide +kernel
  have := key ⟨x.toNat, by omega⟩
  simp only [Int.toNat_of_nonneg h0] at this
  exact this h

def uRep (c : Int) : Str := if c = 127 then Str.ofString "^?" else if 32 ≤ c % 128 ∧ c % 128 ≤ 126 then ⟨#[(c % 128).toNat]⟩ else Str.ofString "^" ++ ⟨#[(if c % 128 = 127 then 159 else c % 128 + 64 : Int).toNat]⟩
def unc (c : Int) : Str := if c % 256 > 127 then Str.ofString "!" ++ uRep c else uRep c
theorem uRep_len (c : Int) : (uRep c).length ≤ 2 := by
  unfold uRep; split
  · decide
  · split
    · show 1 ≤ 2; omega
    · rw [Str.length_append]; exact Nat.le_refl 2

section
variable {prog : Program} {w : World} {A : Around} {s₀ : Shared} {env : Env} {mg mb : Str → Option Value}

theorem isprint_call {c : Int} {v : Value} {a : Addr} (B : Base mg mb s₀.heap) (R : Room A 2) (f : FnAt mg s₀.heap (stAt 2) a) (hv : CodeIs c v) :
    Ev prog w A s₀ (call (.ref a) [v]) (fun u _ => IsB (decide (32 ≤ c ∧ c ≤ 126)) u) := by
  refine enter B.lim (by have := R.depth; omega) f (binds := [(Str.ofString "c", v)]) (fun _ _ _ => rfl) fun pm code doc s L s₁ k i => ?_
  have B₁ := B.keeps (kp_keep (kp_trans k (InCall.keeps i)))
  obtain ⟨a1, f1⟩ := B₁.fn 1 (by decide)
  obtain ⟨o1, _, _, _, g1, g2, g3, _⟩ := id f1
  refine st_ret (ev_chainLL ev_int (ev_callF (ev_glob B₁.g g1) g2 g3 (ev_loc i.ns rfl) fun u s₂ k₂ hu => ?_) ev_int) fun u c'' k'' hu => ⟨hu, kp_trans (InCall.keeps i) k''⟩
  subst hu
  exact ctoi_call (B₁.keeps (kp_keep k₂)) (R.deeper _) (f1.keeps (kp_keep k₂)) hv

theorem unctrl_call {c : Int} {v : Value} {a : Addr} (B : Base mg mb s₀.heap) (R : Room A 3) (f : FnAt mg s₀.heap (stAt 3) a) (hv : CodeIs c v) :
    Ev prog w A s₀ (call (.ref a) [v]) (fun u _ => IsS (unc c) u) := by
  refine enter B.lim (by have := R.depth; omega) f (binds := [(Str.ofString "c", v)]) (fun _ _ _ => rfl) fun pm code doc s L s₁ k i => ?_
  have B₁ := B.keeps (kp_keep (kp_trans k (InCall.keeps i)))
  obtain ⟨a1, f1⟩ := B₁.fn 1 (by decide)
  obtain ⟨o1, _, _, _, g1, g2, g3, _⟩ := id f1
  refine st_assign i rfl (P := fun u _ => IsI c u) (ev_callF (ev_glob B₁.g g1) g2 g3 (ev_loc i.ns rfl) fun u s₂ k₂ hu => by
    subst hu; exact ctoi_call (B₁.keeps (kp_keep k₂)) ((R.deeper _).less (by omega)) (f1.keeps (kp_keep k₂)) hv) fun bits c₁ c₂ k₁ hb i₂ kb => ?_
  have B₂ := B.keeps (kp_keep (kp_trans k (InCall.keeps i₂)))
  have hbits : ∀ (c' : Shared) pos, Keeps c₂ c' → Ev prog w (A.deeper (fenv (stAt 3) pm code doc L a)) c' (eval (.Name (Str.ofString "bits") pos) (fenv (stAt 3) pm code doc L a)) (fun u _ => IsI c u) :=
    fun c' pos k' => (ev_loc (kp_ns k' i₂.ns) rfl).mono fun _ _ _ e => e ▸ hb
  -- the two rows behind
  have fin : ∀ c₃ (rep : Value) (m : Str → Option Value), InCall s L m c₃ → m (Str.ofString "bits") = some bits → m (Str.ofString "rep") = some rep → IsS (uRep c) rep →
      wpAny (model prog w) (A.deeper (fenv (stAt 3) pm code doc L a)) (execs ((fBody (stAt 3)).drop 2) (fenv (stAt 3) pm code doc L a)) (fun f s' => IsS (unc c) (match f with | .ret v => v | _ => .none) ∧ Keeps s s') (fun _ _ => False) c₃ := by
    intro c₃ rep m i₃ hm1 hm2 hrep
    refine st_if (b := (Builtin.bitAnd c 128 != 0)) (ev_tval (ev_and ((ev_loc i₃.ns hm1).mono fun _ _ _ e => e ▸ hb) ev_int) ev_truI) (fun e c₄ k₄ => ?_) (fun e c₄ k₄ => ?_)
    · refine st_ret (ev_addS ev_str ((ev_loc (kp_ns k₄ i₃.ns) hm2).mono fun _ _ _ e => e ▸ hrep) ?_) fun u c₅ k₅ hu => ⟨?_, kp_trans (InCall.keeps i₃) (kp_trans k₄ k₅)⟩
      · have := uRep_len c
        show 1 + (uRep c).length ≤ 2 ^ 24
        omega
      · rw [and128] at e
        unfold unc; rw [if_pos (of_decide_eq_true e)]; exact hu
    · refine wpAny_execs_nil ?_
      refine st_ret ((ev_loc (kp_ns k₄ i₃.ns) hm2).mono fun _ _ _ e => e ▸ hrep) fun u c₅ k₅ hu => ⟨?_, kp_trans (InCall.keeps i₃) (kp_trans k₄ k₅)⟩
      rw [and128] at e
      unfold unc; rw [if_neg (of_decide_eq_false e)]; exact hu
  refine st_if (b := (c == 127)) (ev_tEq (hbits _ _ (kp_refl _)) ev_int) (fun e c₄ k₄ => ?_) (fun e c₄ k₄ => ?_)
  · refine st_assign (InCall.kp i₂ k₄) rfl ev_str fun rep c₅ c₆ k₅ hr i₆ kb₆ => wpAny_execs_nil ?_
    refine fin c₆ rep _ i₆ rfl rfl ?_
    unfold uRep; rw [if_pos (by simpa using e)]; exact hr
  · have hne : c ≠ 127 := by simpa using e
    obtain ⟨a2, f2⟩ := (B₂.keeps (kp_keep k₄)).fn 2 (by decide)
    obtain ⟨o2, _, _, _, p1, p2, p3, _⟩ := id f2
    have B₄ := B₂.keeps (kp_keep k₄)
    refine st_if (b := decide (32 ≤ c % 128 ∧ c % 128 ≤ 126)) (ev_tval (p := IsB (decide (32 ≤ c % 128 ∧ c % 128 ≤ 126))) (ev_callF (ev_glob B₄.g p1) p2 p3 (ev_and (hbits _ _ k₄) ev_int) fun u s₂ k₂ hu => ?_) ev_truB) (fun e' c₅ k₅ => ?_) (fun e' c₅ k₅ => ?_)
    · rw [bitAnd_m7] at hu
      exact isprint_call (B₄.keeps (kp_keep k₂)) (R.deeper _) (f2.keeps (kp_keep k₂)) (Or.inl hu)
    · have hl := of_decide_eq_true e'
      refine st_assign (InCall.kp (InCall.kp i₂ k₄) k₅) rfl (P := fun u _ => IsS ⟨#[(c % 128).toNat]⟩ u) (ev_call1 (ev_bname (B₄.keeps (kp_keep k₅)) (by decide) bt_chr) (ev_and (hbits _ _ (kp_trans k₄ k₅)) ev_int) fun u s₂ k₂ hu => ?_) fun rep c₆ c₇ k₆ hr i₇ kb₇ => wpAny_execs_nil (wpAny_execs_nil ?_)
      · rw [bitAnd_m7] at hu
        exact ev_chr hu (by omega) (by omega)
      · refine fin c₇ rep _ i₇ rfl rfl ?_
        unfold uRep; rw [if_neg hne, if_pos hl]; exact hr
    · have hl := of_decide_eq_false e'
      refine st_assign (InCall.kp (InCall.kp i₂ k₄) k₅) rfl (P := fun u _ => IsS (Str.ofString "^" ++ ⟨#[(if c % 128 = 127 then 159 else c % 128 + 64 : Int).toNat]⟩) u)
        (ev_addS ev_str (ev_call1 (ev_bname (B₄.keeps (kp_keep k₅)) (by decide) bt_chr) (ev_add (ev_or (ev_and (hbits _ _ (kp_trans k₄ k₅)) ev_int) ev_int) ev_int) fun u s₂ k₂ hu => ?_) ?_) fun rep c₆ c₇ k₆ hr i₇ kb₇ => wpAny_execs_nil (wpAny_execs_nil ?_)
      · rw [bitAnd_m7, or32 (by omega) (by omega) hl] at hu
        exact ev_chr hu (by split <;> omega) (by split <;> omega)
      · show 1 + 1 ≤ 2 ^ 24
        decide
      · refine fin c₇ rep _ i₇ rfl rfl ?_
        unfold uRep; rw [if_neg hne, if_neg hl]; exact hr
end
end Mine
end
section
open PySem PySem.W PyProof.Rows PySem.Calls
set_option maxRecDepth 100000
namespace Mine

/-- the signs of a code's text -/
def us (c : Int) : List Nat := (unc c).cps.toList
theorem sBang : (Str.ofString "!").cps = #[33] := by decide
theorem sCaret : (Str.ofString "^").cps = #[94] := by decide
theorem sCQ : (Str.ofString "^?").cps = #[94, 63] := by decide
theorem sNone : (Str.ofString "").cps = #[] := by decide
theorem cps_app (a b : Str) : (a ++ b).cps = a.cps ++ b.cps := rfl
def um (c : Int) : List Nat := if c % 256 > 127 then [33] else []
theorem us_eq (c : Int) : us c = um c ++ (if c = 127 then [94, 63] else if 32 ≤ c % 128 ∧ c % 128 ≤ 126 then [(c % 128).toNat] else [94, (if c % 128 = 127 then 159 else c % 128 + 64 : Int).toNat]) := by
  have h : (uRep c).cps.toList = (if c = 127 then [94, 63] else if 32 ≤ c % 128 ∧ c % 128 ≤ 126 then [(c % 128).toNat] else [94, (if c % 128 = 127 then 159 else c % 128 + 64 : Int).toNat]) := by
    unfold uRep
    split
    · rw [sCQ]
    · split
      · rfl
      · rw [cps_app, sCaret]; rfl
  rw [← h]
  unfold us unc um
  split
  · rw [cps_app, sBang]; simp
  · simp

/-- what a word tells, z: in the block from nought on -/
def tHi (w : List Nat) : Bool := decide (1 < w.length) && w.headD 0 == 33
def tHigh (w : List Nat) : Int := if tHi w then 128 else 0
def tWord (w : List Nat) : List Nat := if tHi w then w.drop 1 else w
def told (z : Bool) (w : List Nat) : Int :=
  if (tWord w).length = 1 then (if ((tWord w).getLastD 0 : Int) < 127 then ((tWord w).getLastD 0 : Int) + tHigh w else -1)
  else if 64 ≤ ((tWord w).getLastD 0 : Int) ∧ ((tWord w).getLastD 0 : Int) < 96 then ((tWord w).getLastD 0 : Int) - 64 + tHigh w
  else if (((tWord w).getLastD 0 : Int) = 63 ∧ (z = true ∧ tHigh w = 0)) ∨ (((tWord w).getLastD 0 : Int) = 159 ∧ ¬ (z = true ∧ tHigh w = 0)) then 127 + tHigh w
  else -1
def waits (w : List Nat) : Bool := ([[33], [94], [33, 94]] : List (List Nat)).contains w
/-- one sign more for one reading -/
def turn1 (z : Bool) (b : Int) (c : Nat) (p : List Int × List Nat) : List (List Int × List Nat) :=
  (if 0 ≤ told z (p.2 ++ [c]) then [(p.1 ++ [b + told z (p.2 ++ [c])], [])] else []) ++ (if waits (p.2 ++ [c]) = true then [(p.1, p.2 ++ [c])] else [])
def step (z : Bool) (b : Int) (live : List (List Int × List Nat)) (c : Nat) : List (List Int × List Nat) := live.flatMap (turn1 z b c)
def liveAt (z : Bool) (b : Int) (t : List Nat) (i : Nat) : List (List Int × List Nat) := (t.take i).foldl (step z b) [([], [])]
def readRows (z : Bool) (b : Int) (t : List Nat) : List (List Int) := ((liveAt z b t t.length).filter fun p => p.2 == []).map (·.1)

/-- the numbers that are shown by w -/
def sh (nums : List Int) (w : List Nat) : List Int := nums.filter fun n => us n == w
def part (t : List Nat) (s e : Nat) : List Nat := (t.take e).drop s
def cellRows (nums : List Int) (t : List Nat) (T : List (List (List Int))) (e s : Nat) : List (List Int) := (sh nums (part t s e)).flatMap fun n => (T.getD s []).map (· ++ [n])
def ending (nums : List Int) (t : List Nat) (T : List (List (List Int))) (e : Nat) : List (List Int) := (List.range e).flatMap (cellRows nums t T e)
def tab (nums : List Int) (t : List Nat) : Nat → List (List (List Int))
  | 0 => [[[]]]
  | e + 1 => tab nums t e ++ [ending nums t (tab nums t e) (e + 1)]
def laidRows (nums : List Int) (t : List Nat) : List (List Int) := (tab nums t t.length).getD t.length []
def block (b : Int) : List Int := (List.range 8).flatMap fun (i : Nat) => ([0, 1, 30, 31] : List Int).map fun j => b + 32 * (i : Int) + j
def signsL : List Nat := [33, 33, 33, 94, 94, 94, 94, 63, 64, 65, 95, 32, 62, 126, 97, 159]

/-- the block's codes -/
def codes : List Nat := (List.range 8).flatMap fun i => ([0, 1, 30, 31] : List Nat).map fun j => 32 * i + j
/-- a code's text in a block, z: the block from nought on -/
def ut (z : Bool) (c : Nat) : List Nat := (if c > 127 then [33] else []) ++ (if z = true ∧ c = 127 then [94, 63] else if 32 ≤ c % 128 ∧ c % 128 ≤ 126 then [c % 128] else [94, if c % 128 = 127 then 159 else c % 128 + 64])
theorem us_ut {b : Int} {c : Nat} (hb : b % 256 = 0) (hc : c < 256) : us (b + c) = ut (b == 0) c := by
  rw [us_eq]
  unfold um ut
  have e1 : (b + c) % 256 = c := by omega
  have e2 : (b + c) % 128 = ((c % 128 : Nat) : Int) := by omega
  rw [e1, e2]
  have q0 : (c : Int) > 127 ↔ c > 127 := by omega
  have q1 : b + (c : Int) = 127 ↔ ((b == 0) = true ∧ c = 127) := by rw [beq_iff_eq]; omega
  have q2 : (32 ≤ ((c % 128 : Nat) : Int) ∧ ((c % 128 : Nat) : Int) ≤ 126) ↔ (32 ≤ c % 128 ∧ c % 128 ≤ 126) := by omega
  have q3 : ((c % 128 : Nat) : Int) = 127 ↔ c % 128 = 127 := by omega
  have q4 : (if c % 128 = 127 then (159 : Int) else ((c % 128 : Nat) : Int) + 64).toNat = if c % 128 = 127 then 159 else c % 128 + 64 := by split <;> omega
  simp only [q0, q1, q2, q3, q4, Int.toNat_natCast]
theorem block_codes (b : Int) : block b = codes.map fun (c : Nat) => b + (c : Int) := by
  unfold block codes
  rw [List.map_flatMap]
  congr 1
  funext i
  simp only [List.map_cons, List.map_nil]
  congr 1
  · omega
  · congr 1
    · omega
    · congr 1
      · omega
      · congr 1; omega

/-- a word that the reader may come to -/
def adm (w : List Nat) : Bool := !w.isEmpty && ([[], [33], [94], [33, 94]] : List (List Nat)).contains w.dropLast
theorem codes_lt : ∀ c ∈ codes, c < 256 := by decide +kernel
theorem codes_nodup : codes.Nodup := by decide +kernel
theorem fact1 : ∀ z : Bool, ∀ c ∈ codes, (∀ x ∈ ut z c, x ∈ signsL) → adm (ut z c) = true ∧ told z (ut z c) = c := by decide +kernel
theorem fact2 : ∀ z : Bool, ∀ w ∈ ([[], [33], [94], [33, 94]] : List (List Nat)), ∀ x ∈ signsL, 0 ≤ told z (w ++ [x]) → (told z (w ++ [x])).toNat ∈ codes ∧ ut z (told z (w ++ [x])).toNat = w ++ [x] := by decide +kernel
theorem filter_one {α : Type} [DecidableEq α] {l : List α} (hn : l.Nodup) {x : α} (hx : x ∈ l) {p : α → Bool} (hp : ∀ y ∈ l, p y = true ↔ y = x) : l.filter p = [x] := by
  induction l with
  | nil => cases hx
  | cons a r ih =>
    obtain ⟨ha, hr⟩ := List.nodup_cons.mp hn
    rw [List.filter_cons]
    by_cases hax : a = x
    · subst hax
      rw [if_pos ((hp a (.head _)).mpr rfl)]
      have : r.filter p = [] := List.filter_eq_nil_iff.mpr fun y hy hpy => by
        have := (hp y (.tail _ hy)).mp hpy
        subst this; exact ha hy
      rw [this]
    · rw [if_neg (fun h => hax ((hp a (.head _)).mp h))]
      rcases List.mem_cons.mp hx with h | h
      · exact absurd h.symm hax
      · exact ih hr h fun y hy => hp y (.tail _ hy)
theorem shown {b : Int} (hb : b % 256 = 0) {w : List Nat} (hw : ∀ x ∈ w, x ∈ signsL) : sh (block b) w = if adm w = true ∧ 0 ≤ told (b == 0) w then [b + told (b == 0) w] else [] := by
  unfold sh
  rw [block_codes, List.filter_map]
  have hf : codes.filter ((fun n => us n == w) ∘ fun (c : Nat) => b + (c : Int)) = codes.filter fun c => ut (b == 0) c == w := by
    apply List.filter_congr
    intro c hc
    show (us (b + c) == w) = _
    rw [us_ut hb (codes_lt c hc)]
  rw [hf]
  generalize (b == 0) = z
  by_cases h : adm w = true ∧ 0 ≤ told z w
  · rw [if_pos h]
    obtain ⟨h1, h2⟩ := h
    unfold adm at h1
    rw [Bool.and_eq_true] at h1
    have hne : w ≠ [] := by
      intro e; subst e; simp at h1
    have hd : w.dropLast ∈ ([[], [33], [94], [33, 94]] : List (List Nat)) := by simpa using h1.2
    have e : w = w.dropLast ++ [w.getLast hne] := (List.dropLast_concat_getLast hne).symm
    have f2 := fact2 z w.dropLast hd (w.getLast hne) (hw _ (List.getLast_mem hne))
    rw [← e] at f2
    obtain ⟨g1, g2⟩ := f2 h2
    have := filter_one codes_nodup g1 (p := fun c => ut z c == w) fun c hc => by
      constructor
      · intro hcw
        have hcw : ut z c = w := by simpa using hcw
        have := (fact1 z c hc (by rw [hcw]; exact hw)).2
        rw [hcw] at this; rw [this]; simp
      · intro e'; subst e'; simp [g2]
    rw [this]
    simp only [List.map_cons, List.map_nil]
    congr 1
    omega
  · rw [if_neg h]
    have : codes.filter (fun c => ut z c == w) = [] := List.filter_eq_nil_iff.mpr fun c hc hcw => by
      have hcw : ut z c = w := by simpa using hcw
      have f1 := fact1 z c hc (by rw [hcw]; exact hw)
      rw [hcw] at f1
      exact h ⟨f1.1, by rw [f1.2]; omega⟩
    rw [this]; rfl
end Mine
end
section
open PySem PySem.W PyProof.Rows PySem.Calls
set_option maxRecDepth 100000
namespace Mine

section
variable {z : Bool} {b : Int} {t : List Nat} {nums : List Int}
theorem tab_len (e : Nat) : (tab nums t e).length = e + 1 := by
  induction e with
  | zero => rfl
  | succ e ih => unfold tab; rw [List.length_append, ih]; rfl
/-- the rows that end at e -/
def Lr (nums : List Int) (t : List Nat) (e : Nat) : List (List Int) := (tab nums t e).getD e []
theorem tab_get {e s : Nat} (h : s ≤ e) : (tab nums t e).getD s [] = Lr nums t s := by
  induction e with
  | zero => have : s = 0 := by omega
            subst this; rfl
  | succ e ih =>
    rcases Nat.eq_or_lt_of_le h with rfl | hlt
    · rfl
    · rw [← ih (by omega)]
      show (tab nums t e ++ _).getD s [] = _
      rw [List.getD_eq_getElem?_getD, List.getD_eq_getElem?_getD, List.getElem?_append_left (by rw [tab_len]; omega)]
theorem Lr_succ (e : Nat) : Lr nums t (e + 1) = (List.range (e + 1)).flatMap fun s => (sh nums (part t s (e + 1))).flatMap fun n => (Lr nums t s).map (· ++ [n]) := by
  have h1 : Lr nums t (e + 1) = ending nums t (tab nums t e) (e + 1) := by
    show (tab nums t e ++ [ending nums t (tab nums t e) (e + 1)]).getD (e + 1) [] = _
    rw [List.getD_eq_getElem?_getD, List.getElem?_append_right (by rw [tab_len]; omega), tab_len, Nat.sub_self]; rfl
  rw [h1]
  unfold ending
  rw [List.flatMap_def, List.flatMap_def]
  congr 1
  apply List.map_congr_left
  intro s hs
  have := List.mem_range.mp hs
  unfold cellRows
  rw [tab_get (by omega)]

theorem part_succ {s e c : Nat} (h : s ≤ e) (hc : t[e]? = some c) : part t s (e + 1) = part t s e ++ [c] := by
  obtain ⟨hl, rfl⟩ := List.getElem?_eq_some_iff.mp hc
  unfold part
  rw [List.take_succ_eq_append_getElem hl, List.drop_append_of_le_length (by rw [List.length_take]; omega)]
theorem part_len {s e : Nat} (h : e ≤ t.length) : (part t s e).length = e - s := by
  unfold part; rw [List.length_drop, List.length_take]; omega
theorem part_self (e : Nat) : part t e e = [] := by unfold part; exact List.drop_of_length_le (by rw [List.length_take]; omega)
theorem part_mem {s e : Nat} (ht : ∀ x ∈ t, x ∈ signsL) : ∀ x ∈ part t s e, x ∈ signsL := fun x hx => ht x (List.mem_of_mem_take (List.mem_of_mem_drop hx))
theorem adm_snoc (w : List Nat) (c : Nat) : adm (w ++ [c]) = ([[], [33], [94], [33, 94]] : List (List Nat)).contains w := by
  unfold adm
  rw [List.dropLast_concat]
  simp

/-- what comes of the readings l that wait with w -/
def DG (z : Bool) (b : Int) (c : Nat) (l : List (List Int)) (w : List Nat) : List (List Int × List Nat) := if 0 ≤ told z (w ++ [c]) then l.map fun r => (r ++ [b + told z (w ++ [c])], []) else []
def WG (c : Nat) (l : List (List Int)) (w : List Nat) : List (List Int × List Nat) := if waits (w ++ [c]) = true then l.map fun r => (r, w ++ [c]) else []
theorem grp_turn (z : Bool) (b : Int) (c : Nat) (w : List Nat) (x : List Int × List Nat) : ∀ l : List (List Int), ((l.map fun r => (r, w)).flatMap (turn1 z b c)).count x = (DG z b c l w).count x + (WG c l w).count x
  | [] => by unfold DG WG; split <;> split <;> rfl
  | r :: l => by
    rw [List.map_cons, List.flatMap_cons, List.count_append, grp_turn z b c w x l]
    unfold turn1 DG WG
    rw [List.count_append]
    dsimp only
    split <;> split <;> simp only [List.map_cons, List.count_cons, List.count_nil] <;> omega

def pend (nums : List Int) (t : List Nat) (e k : Nat) (w : List Nat) : List (List Int × List Nat) := if k ≤ e ∧ part t (e - k) e = w then (Lr nums t (e - k)).map fun r => (r, w) else []
def comb (nums : List Int) (t : List Nat) (e : Nat) : List (List Int × List Nat) := (Lr nums t e).map (fun r => (r, [])) ++ (pend nums t e 1 [33] ++ (pend nums t e 1 [94] ++ pend nums t e 2 [33, 94]))

theorem pend_turn (z : Bool) (b : Int) (c e k : Nat) (w : List Nat) (x : List Int × List Nat) : ((pend nums t e k w).flatMap (turn1 z b c)).count x =
    if k ≤ e ∧ part t (e - k) e = w then (DG z b c (Lr nums t (e - k)) w).count x + (WG c (Lr nums t (e - k)) w).count x else 0 := by
  unfold pend
  split
  · exact grp_turn z b c w x _
  · rfl

/-- the rows that end behind c and come from s on -/
theorem cell_count {b : Int} (hb : b % 256 = 0) (ht : ∀ x ∈ t, x ∈ signsL) {s e c : Nat} (h : s ≤ e) (hc : t[e]? = some c) (x : List Int × List Nat) :
    (((sh (block b) (part t s (e + 1))).flatMap fun n => (Lr (block b) t s).map (· ++ [n])).map fun r => (r, ([] : List Nat))).count x =
      if ([[], [33], [94], [33, 94]] : List (List Nat)).contains (part t s e) = true then (DG (b == 0) b c (Lr (block b) t s) (part t s e)).count x else 0 := by
  rw [shown hb (part_mem ht), part_succ h hc, adm_snoc]
  unfold DG
  by_cases h1 : ([[], [33], [94], [33, 94]] : List (List Nat)).contains (part t s e) = true
  · rw [if_pos h1]
    by_cases h2 : 0 ≤ told (b == 0) (part t s e ++ [c])
    · rw [if_pos ⟨h1, h2⟩, if_pos h2, List.flatMap_cons, List.flatMap_nil, List.append_nil, List.map_map]; rfl
    · rw [if_neg (fun y => h2 y.2), if_neg h2]; rfl
  · rw [if_neg h1, if_neg (fun y => h1 y.1)]; rfl
theorem cell_none {b : Int} (hb : b % 256 = 0) (ht : ∀ x ∈ t, x ∈ signsL) {s e c : Nat} (h : s + 2 < e) (hc : t[e]? = some c) :
    ((sh (block b) (part t s (e + 1))).flatMap fun n => (Lr (block b) t s).map (· ++ [n])) = [] := by
  obtain ⟨hl, _⟩ := List.getElem?_eq_some_iff.mp hc
  rw [shown hb (part_mem ht), part_succ (by omega) hc, adm_snoc, if_neg]
  · rfl
  · rintro ⟨h1, _⟩
    have hpl := part_len (t := t) (s := s) (e := e) (by omega)
    have : part t s e ∈ ([[], [33], [94], [33, 94]] : List (List Nat)) := by simpa using h1
    have h4 : ∀ w ∈ ([[], [33], [94], [33, 94]] : List (List Nat)), w.length ≤ 2 := by decide
    have := h4 _ this
    omega

theorem Lr_count {b : Int} (hb : b % 256 = 0) (ht : ∀ x ∈ t, x ∈ signsL) {e c : Nat} (hc : t[e]? = some c) (x : List Int × List Nat) :
    ((Lr (block b) t (e + 1)).map fun r => (r, ([] : List Nat))).count x = (DG (b == 0) b c (Lr (block b) t e) []).count x +
      ((if 1 ≤ e ∧ part t (e - 1) e = [33] then (DG (b == 0) b c (Lr (block b) t (e - 1)) [33]).count x else 0) +
      ((if 1 ≤ e ∧ part t (e - 1) e = [94] then (DG (b == 0) b c (Lr (block b) t (e - 1)) [94]).count x else 0) +
      (if 2 ≤ e ∧ part t (e - 2) e = [33, 94] then (DG (b == 0) b c (Lr (block b) t (e - 2)) [33, 94]).count x else 0))) := by
  obtain ⟨hl, _⟩ := List.getElem?_eq_some_iff.mp hc
  have one : ∀ (s : Nat), 1 ≤ e → s = e - 1 → (if ([[], [33], [94], [33, 94]] : List (List Nat)).contains (part t s e) = true then (DG (b == 0) b c (Lr (block b) t s) (part t s e)).count x else 0) =
      (if 1 ≤ e ∧ part t (e - 1) e = [33] then (DG (b == 0) b c (Lr (block b) t (e - 1)) [33]).count x else 0) + (if 1 ≤ e ∧ part t (e - 1) e = [94] then (DG (b == 0) b c (Lr (block b) t (e - 1)) [94]).count x else 0) := by
    rintro s h1 rfl
    have hpl := part_len (t := t) (s := e - 1) (e := e) (by omega)
    generalize hw : part t (e - 1) e = w at *
    have h2 : w.length = 1 := by omega
    match w, h2 with
    | [y], _ =>
      by_cases y1 : y = 33
      · subst y1; rw [if_pos (by decide), if_pos ⟨h1, rfl⟩, if_neg (by simp)]; rfl
      · by_cases y2 : y = 94
        · subst y2; rw [if_pos (by decide), if_neg (by simp), if_pos ⟨h1, rfl⟩]; simp
        · rw [if_neg (by simp [y1, y2]), if_neg (by simp [y1]), if_neg (by simp [y2])]
  have two : ∀ (s : Nat), 2 ≤ e → s = e - 2 → (if ([[], [33], [94], [33, 94]] : List (List Nat)).contains (part t s e) = true then (DG (b == 0) b c (Lr (block b) t s) (part t s e)).count x else 0) =
      (if 2 ≤ e ∧ part t (e - 2) e = [33, 94] then (DG (b == 0) b c (Lr (block b) t (e - 2)) [33, 94]).count x else 0) := by
    rintro s h1 rfl
    have hpl := part_len (t := t) (s := e - 2) (e := e) (by omega)
    generalize hw : part t (e - 2) e = w at *
    have h2 : w.length = 2 := by omega
    match w, h2 with
    | [y, y'], _ =>
      by_cases y1 : [y, y'] = [33, 94]
      · rw [y1, if_pos (by decide), if_pos ⟨h1, rfl⟩]
      · rw [if_neg (by simpa using y1), if_neg (fun q => y1 q.2)]
  have zero : (if ([[], [33], [94], [33, 94]] : List (List Nat)).contains (part t e e) = true then (DG (b == 0) b c (Lr (block b) t e) (part t e e)).count x else 0) = (DG (b == 0) b c (Lr (block b) t e) []).count x := by
    rw [part_self, if_pos (by decide)]
  rw [Lr_succ, List.map_flatMap]
  match e, hc, hl, one, two, zero with
  | 0, hc, hl, one, two, zero =>
    rw [show List.range (0 + 1) = [0] from rfl, List.flatMap_cons, List.flatMap_nil, List.append_nil, cell_count hb ht (Nat.le_refl _) hc, zero]
    rw [if_neg (by omega), if_neg (by omega), if_neg (by omega)]
    omega
  | 1, hc, hl, one, two, zero =>
    rw [show List.range (1 + 1) = [0, 1] from rfl, List.flatMap_cons, List.flatMap_cons, List.flatMap_nil, List.append_nil, List.count_append, cell_count hb ht (Nat.zero_le _) hc, cell_count hb ht (Nat.le_refl _) hc, zero, one 0 (by omega) rfl]
    rw [if_neg (show ¬ (2 ≤ 1 ∧ _) by omega)]
    omega
  | m + 2, hc, hl, one, two, zero =>
    have e1 : List.range (m + 2 + 1) = List.range m ++ [m, m + 1, m + 2] := by rw [List.range_succ, List.range_succ, List.range_succ]; simp
    have e2 : ((List.range m).flatMap fun s => List.map (fun r => (r, ([] : List Nat))) ((sh (block b) (part t s (m + 2 + 1))).flatMap fun n => (Lr (block b) t s).map (· ++ [n]))) = [] := by
      rw [List.flatMap_eq_nil_iff]
      intro s hs
      have := List.mem_range.mp hs
      rw [cell_none hb ht (by omega) hc]; rfl
    rw [e1, List.flatMap_append, e2, List.nil_append, List.flatMap_cons, List.flatMap_cons, List.flatMap_cons, List.flatMap_nil, List.append_nil, List.count_append, List.count_append,
      cell_count hb ht (by omega) hc, cell_count hb ht (by omega) hc, cell_count hb ht (Nat.le_refl _) hc, zero, one (m + 1) (by omega) rfl, two m (by omega) rfl]
    omega

theorem live_succ {e c : Nat} (hc : t[e]? = some c) : liveAt z b t (e + 1) = (liveAt z b t e).flatMap (turn1 z b c) := by
  obtain ⟨hl, rfl⟩ := List.getElem?_eq_some_iff.mp hc
  unfold liveAt
  rw [List.take_succ_eq_append_getElem hl, List.foldl_append]
  rfl
theorem live_comb {b : Int} (hb : b % 256 = 0) (ht : ∀ x ∈ t, x ∈ signsL) : ∀ e, e ≤ t.length → (liveAt (b == 0) b t e).Perm (comb (block b) t e)
  | 0, _ => by
    have : comb (block b) t 0 = [([], [])] := by
      unfold comb pend
      rw [if_neg (by omega), if_neg (by omega), if_neg (by omega)]
      rfl
    rw [this]; exact List.Perm.refl _
  | e + 1, he => by
    have ih := live_comb hb ht e (by omega)
    have hc : t[e]? = some t[e] := List.getElem?_eq_getElem (by omega)
    generalize t[e] = c at hc
    rw [live_succ hc]
    refine (ih.flatMap_right _).trans ?_
    rw [List.perm_iff_count]
    intro x
    unfold comb
    rw [List.flatMap_append, List.flatMap_append, List.flatMap_append]
    simp only [List.count_append]
    rw [Lr_count hb ht hc, grp_turn, pend_turn, pend_turn, pend_turn]
    -- the waiting ones
    have w0 : (WG c (Lr (block b) t e) []).count x = (pend (block b) t (e + 1) 1 [33]).count x + (pend (block b) t (e + 1) 1 [94]).count x := by
      unfold WG pend
      rw [show e + 1 - 1 = e by omega, part_succ (Nat.le_refl _) hc, part_self, List.nil_append]
      by_cases c1 : c = 33
      · subst c1; rw [if_pos (by decide), if_pos ⟨by omega, rfl⟩, if_neg (by simp)]; rfl
      · by_cases c2 : c = 94
        · subst c2; rw [if_pos (by decide), if_neg (by simp), if_pos ⟨by omega, rfl⟩]; simp
        · rw [if_neg (by simp [waits, c1, c2]), if_neg (by simp [c1]), if_neg (by simp [c2])]; rfl
    have w1 : (if 1 ≤ e ∧ part t (e - 1) e = [33] then (WG c (Lr (block b) t (e - 1)) [33]).count x else 0) = (pend (block b) t (e + 1) 2 [33, 94]).count x := by
      unfold WG pend
      by_cases h1 : 1 ≤ e
      · rw [show e + 1 - 2 = e - 1 by omega, part_succ (by omega) hc]
        have hpl := part_len (t := t) (s := e - 1) (e := e) (by omega)
        generalize hw : part t (e - 1) e = w at *
        have h2 : w.length = 1 := by omega
        match w, h2 with
        | [y], _ =>
          by_cases y1 : y = 33
          · subst y1
            rw [if_pos ⟨h1, rfl⟩]
            by_cases c2 : c = 94
            · subst c2; rw [if_pos (by decide), if_pos ⟨by omega, rfl⟩]; rfl
            · rw [if_neg (by simp [waits, c2]), if_neg (by simp [c2])]
          · rw [if_neg (by simp [y1]), if_neg (by simp [y1])]; rfl
      · rw [if_neg (by omega), if_neg (by omega)]; rfl
    have w2 : (if 1 ≤ e ∧ part t (e - 1) e = [94] then (WG c (Lr (block b) t (e - 1)) [94]).count x else 0) = 0 := by
      unfold WG
      split
      · rw [if_neg (by simp [waits])]; rfl
      · rfl
    have w3 : (if 2 ≤ e ∧ part t (e - 2) e = [33, 94] then (WG c (Lr (block b) t (e - 2)) [33, 94]).count x else 0) = 0 := by
      unfold WG
      split
      · rw [if_neg (by simp [waits])]; rfl
      · rfl
    have sp : ∀ (p : Prop) [Decidable p] (u v : Nat), (if p then u + v else 0) = (if p then u else 0) + (if p then v else 0) := by
      intro p _ u v; split <;> rfl
    rw [sp, sp, sp, w0, w1, w2, w3]
    omega

theorem live_len (z : Bool) (b : Int) (t : List Nat) : ∀ e, e ≤ t.length → (liveAt z b t e).length ≤ 2 ^ e
  | 0, _ => Nat.le_refl 1
  | e + 1, he => by
    have ih := live_len z b t e (by omega)
    have hc : t[e]? = some t[e] := List.getElem?_eq_getElem (by omega)
    rw [live_succ hc]
    generalize liveAt z b t e = l at ih
    have : ∀ l : List (List Int × List Nat), (l.flatMap (turn1 z b t[e])).length ≤ 2 * l.length := by
      intro l
      induction l with
      | nil => simp
      | cons p l ih =>
        rw [List.flatMap_cons, List.length_append, List.length_cons]
        have : (turn1 z b t[e] p).length ≤ 2 := by
          unfold turn1
          rw [List.length_append]
          split <;> split <;> simp
        omega
    have := this l
    rw [Nat.pow_succ]; omega
theorem Lr_len {b : Int} (hb : b % 256 = 0) (ht : ∀ x ∈ t, x ∈ signsL) (e : Nat) (he : e ≤ t.length) : (Lr (block b) t e).length ≤ 2 ^ e := by
  have h1 := live_len (b == 0) b t e he
  rw [(live_comb hb ht e he).length_eq] at h1
  unfold comb at h1
  rw [List.length_append, List.length_map] at h1
  omega
theorem law2_plain {b : Int} (hb : b % 256 = 0) (ht : ∀ x ∈ t, x ∈ signsL) : (laidRows (block b) t).Perm (readRows (b == 0) b t) := by
  have h := live_comb hb ht t.length (Nat.le_refl _)
  have h2 := (h.filter fun p => p.2 == []).map (·.1)
  refine List.Perm.symm (h2.trans ?_)
  unfold comb
  have fp : ∀ k w, w ≠ [] → (pend (block b) t t.length k w).filter (fun p => p.2 == []) = [] := by
    intro k w hw
    rw [List.filter_eq_nil_iff]
    intro p hp
    unfold pend at hp
    split at hp
    · obtain ⟨r, _, rfl⟩ := List.mem_map.mp hp
      simpa using hw
    · cases hp
  rw [List.filter_append, List.filter_append, List.filter_append, fp 1 [33] (by simp), fp 1 [94] (by simp), fp 2 [33, 94] (by simp)]
  have : ((Lr (block b) t t.length).map fun r => (r, ([] : List Nat))).filter (fun p => p.2 == []) = (Lr (block b) t t.length).map fun r => (r, ([] : List Nat)) := by
    rw [List.filter_eq_self]
    intro p hp
    obtain ⟨r, _, rfl⟩ := List.mem_map.mp hp
    rfl
  rw [this, List.append_nil, List.append_nil, List.append_nil, List.map_map]
  have e : ((fun p : List Int × List Nat => p.1) ∘ fun r => (r, ([] : List Nat))) = id := rfl
  rw [e, List.map_id]
  exact List.Perm.refl _
end
end Mine
end
section
open PySem PySem.W PyProof.Rows PySem.Calls
set_option maxRecDepth 100000
namespace Mine

def lbeg (n : Int) : Int := if n % 3 = 0 then 0 else if n % 3 = 1 then -256 - n / 3 * 256 else n / 3 * 256
theorem lbeg_mod (n : Int) : lbeg n % 256 = 0 := by unfold lbeg; split <;> (try split) <;> omega
theorem fd {a b : Int} (hb : 0 ≤ b) : a.fdiv b = a / b := Int.fdiv_eq_ediv_of_nonneg a hb
theorem fm {a b : Int} (hb : 0 ≤ b) : a.fmod b = a % b := Int.fmod_eq_emod_of_nonneg a hb

section
variable {prog : Program} {w : World} {A : Around} {s₀ : Shared} {env : Env} {mg mb : Str → Option Value}

theorem ev_neg {a : Int} {e : Expr} {pos : Pos} (h : Ev prog w A s₀ (eval e env) (fun v _ => IsI a v)) : Ev prog w A s₀ (eval (.UnaryOp .USub e pos) env) (fun v _ => IsI (-a) v) :=
  Ev.of fun s Q E k hQ => UnaryOp_ (h.at k fun v s₁ k₁ pv => by
    obtain ⟨t, rfl⟩ := pv
    exact neg_int (hQ _ _ (kp_trans k₁ (kp_tok _ _)) ⟨_, rfl⟩))
theorem ev_modc {a b : Int} {l r : Expr} {pos : Pos} (h1 : Ev prog w A s₀ (eval l env) (fun v _ => IsI a v)) (h2 : Ev prog w A s₀ (eval r env) (fun v _ => IsI b v)) (hb : 0 < b) :
    Ev prog w A s₀ (eval (.BinOp l .Mod r pos) env) (fun v _ => IsI (a % b) v) := by
  have := ev_mod (pos := pos) h1 h2 (by omega)
  rwa [fm (by omega)] at this
theorem ev_divc {a b : Int} {l r : Expr} {pos : Pos} (h1 : Ev prog w A s₀ (eval l env) (fun v _ => IsI a v)) (h2 : Ev prog w A s₀ (eval r env) (fun v _ => IsI b v)) (hb : 0 < b) (hs : b.natAbs < 1073741824) :
    Ev prog w A s₀ (eval (.BinOp l .FloorDiv r pos) env) (fun v _ => IsI (a / b) v) := by
  have := ev_div (pos := pos) h1 h2 (by omega) hs
  rwa [fd (by omega)] at this

theorem begin_call {n : Int} {v : Value} {a : Addr} (B : Base mg mb s₀.heap) (R : Room A 1) (f : FnAt mg s₀.heap (stAt 5) a) (hv : IsI n v) :
    Ev prog w A s₀ (call (.ref a) [v]) (fun u _ => IsI (lbeg n) u) := by
  refine enter B.lim (by have := R.depth; omega) f (binds := [(Str.ofString "head", v)]) (fun _ _ _ => rfl) fun pm code doc s L s₁ k i => ?_
  have er : ∀ (c' : Shared) pos, Keeps s₁ c' → Ev prog w (A.deeper (fenv (stAt 5) pm code doc L a)) c' (eval (.Name (Str.ofString "head") pos) (fenv (stAt 5) pm code doc L a)) (fun u _ => IsI n u) :=
    fun c' pos k' => (ev_loc (kp_ns k' i.ns) rfl).mono fun _ _ _ e => e ▸ hv
  have ks := InCall.keeps i
  refine st_if (ev_tEq (ev_modc (er _ _ (kp_refl _)) ev_int (by decide)) ev_int) (fun e c₃ k₃ => st_ret ev_int fun u c₄ k₄ hu => ⟨?_, kp_trans ks (kp_trans k₃ k₄)⟩) fun e1 c₃ k₃ => wpAny_execs_nil ?_
  · unfold lbeg; rw [if_pos (by simpa using e)]; exact hu
  have e1 : ¬ n % 3 = 0 := by simpa using e1
  refine st_if (ev_tEq (ev_modc (er _ _ k₃) ev_int (by decide)) ev_int) (fun e c₄ k₄ => st_ret (ev_sub (ev_neg ev_int) (ev_mul (ev_divc (er _ _ (kp_trans k₃ k₄)) ev_int (by decide) (by decide)) ev_int (IntMulOk.of_right (by decide)))) fun u c₅ k₅ hu => ⟨?_, kp_trans ks (kp_trans k₃ (kp_trans k₄ k₅))⟩) fun e2 c₄ k₄ => wpAny_execs_nil ?_
  · unfold lbeg; rw [if_neg e1, if_pos (by simpa using e)]; exact hu
  have e2 : ¬ n % 3 = 1 := by simpa using e2
  have k₄ := kp_trans k₃ k₄
  refine st_ret (ev_mul (ev_divc (er _ _ k₄) ev_int (by decide) (by decide)) ev_int (IntMulOk.of_right (by decide))) fun u c₅ k₅ hu => ⟨?_, kp_trans ks (kp_trans k₄ k₅)⟩
  unfold lbeg; rw [if_neg e1, if_neg e2]; exact hu

theorem last_at : ∀ (r : List Nat) (b : Nat), (b :: r)[r.length]? = some (r.getLastD b)
  | [], b => rfl
  | c :: r, b => by rw [List.getLastD_cons, List.length_cons, List.getElem?_cons_succ]; exact last_at r c
theorem idx_last {w : List Nat} (h : 1 ≤ w.length) : (seqIndex? (-1) (txt w).length).bind ((txt w).cps[·]?) = some (w.getLastD 0) := by
  have e : (txt w).length = w.length := by show w.toArray.size = _; simp
  have e1 : seqIndex? (-1) w.length = some (w.length - 1) := by
    unfold seqIndex?
    simp only [show ((-1 : Int) < 0) from by decide, if_true]
    rw [if_pos (by simp; omega)]
    congr 1; omega
  rw [e, e1]
  show w.toArray[w.length - 1]? = _
  rw [List.getElem?_toArray]
  cases w with
  | nil => simp at h
  | cons a r =>
    rw [List.getLastD_cons]
    exact last_at r a
theorem idx_first {c : Nat} {w : List Nat} : (seqIndex? 0 (txt (c :: w)).length).bind ((txt (c :: w)).cps[·]?) = some c := by
  have e : (txt (c :: w)).length = w.length + 1 := by show (c :: w).toArray.size = _; simp
  rw [e, seqIndex_of (Int.le_refl _) (by omega)]
  rfl
theorem slice_from {w : List Nat} (h : 1 ≤ w.length) : Txt.slice (txt w) (some 1) none = txt (w.drop 1) := by
  have e : (txt w).length = w.length := by show w.toArray.size = _; simp
  rw [slice_from_eq (b := (txt w).length) (by decide) (by rw [e]; omega) rfl, e]
  show (⟨((w.toArray.toList.drop 1).take ((w.length : Int) - 1).toNat).toArray⟩ : Str) = ⟨(w.drop 1).toArray⟩
  rw [List.toList_toArray, List.take_of_length_le (by rw [List.length_drop]; omega)]
theorem slice_part {t : List Nat} {a b : Nat} (h1 : a ≤ b) (h2 : b ≤ t.length) : Txt.slice (txt t) (some (a : Int)) (some (b : Int)) = txt (part t a b) := by
  have e : (txt t).length = t.length := by show t.toArray.size = _; simp
  have := slice_closesL (x := txt t) (i := (a : Int)) (j := (b : Int)) (by omega) (by omega) (by rw [e]; omega)
  rw [eq_of_beq this]
  show (⟨((t.toArray.toList.drop a).take ((b : Int) - (a : Int)).toNat).toArray⟩ : Str) = ⟨(part t a b).toArray⟩
  unfold part
  rw [List.toList_toArray, List.drop_take]
  congr 3; omega

theorem told_call {x : List Nat} {b : Int} {v u : Value} {a : Addr} (B : Base mg mb s₀.heap) (R : Room A 1) (f : FnAt mg s₀.heap (stAt 6) a) (hv : IsS (txt x) v) (hu : IsI b u) (h1 : 1 ≤ x.length) (h3 : x.length ≤ 100) :
    Ev prog w A s₀ (call (.ref a) [v, u]) (fun r _ => IsI (told (b == 0) x) r) := by
  refine enter B.lim (by have := R.depth; omega) f (binds := [(Str.ofString "word", v), (Str.ofString "begin", u)]) (fun _ _ _ => rfl) fun pm code doc s L s₁ k i => ?_
  have Bk : ∀ c', Keeps s c' → Base mg mb c'.heap := fun c' k' => B.keeps (kp_keep (kp_trans k k'))
  have tl : ∀ y : List Nat, (txt y).length = y.length := fun y => by show y.toArray.size = _; simp
  -- behind the first test
  have fin : ∀ c₁ (m : Str → Option Value) vw vh, InCall s L m c₁ → m (Str.ofString "word") = some vw → m (Str.ofString "high") = some vh → m (Str.ofString "begin") = some u → IsS (txt (tWord x)) vw → IsI (tHigh x) vh → 1 ≤ (tWord x).length → (tWord x).length ≤ 100 →
      wpAny (model prog w) (A.deeper (fenv (stAt 6) pm code doc L a)) (execs ((fBody (stAt 6)).drop 2) (fenv (stAt 6) pm code doc L a)) (fun f s' => IsI (told (b == 0) x) (match f with | .ret v => v | _ => .none) ∧ Keeps s s') (fun _ _ => False) c₁ := by
    intro c₁ m vw vh i₁ hw hh hb hvw hvh g1 g2
    refine st_assign i₁ rfl (P := fun r _ => IsI ((tWord x).getLastD 0 : Int) r) (ev_call1 (ev_bname (Bk _ (InCall.keeps i₁)) (by decide) bt_ord) (ev_idxS (i := -1) ((ev_loc i₁.ns hw).mono fun _ _ _ e => e ▸ hvw) (ev_neg ev_int) (by decide) (idx_last g1)) fun r s₂ k₂ hr => ev_ord hr) fun vc c₂ c₃ k₂ hc i₃ kb₃ => ?_
    obtain ⟨m₃, hm₃⟩ : ∃ m₃ : Str → Option Value, m₃ = fun y => if y = Str.ofString "code" then some vc else m y := ⟨_, rfl⟩
    rw [← hm₃] at i₃
    have mw : m₃ (Str.ofString "word") = some vw := by rw [hm₃]; show (if _ then _ else _) = _; rw [if_neg (by decide)]; exact hw
    have mh : m₃ (Str.ofString "high") = some vh := by rw [hm₃]; show (if _ then _ else _) = _; rw [if_neg (by decide)]; exact hh
    have mb' : m₃ (Str.ofString "begin") = some u := by rw [hm₃]; show (if _ then _ else _) = _; rw [if_neg (by decide)]; exact hb
    have mc : m₃ (Str.ofString "code") = some vc := by rw [hm₃]; show (if _ then _ else _) = _; rw [if_pos rfl]
    generalize hcode : ((tWord x).getLastD 0 : Int) = cd at hc
    have ks := InCall.keeps i₃
    have ec : ∀ (c' : Shared) pos, Keeps c₃ c' → Ev prog w (A.deeper (fenv (stAt 6) pm code doc L a)) c' (eval (.Name (Str.ofString "code") pos) (fenv (stAt 6) pm code doc L a)) (fun r _ => IsI cd r) :=
      fun c' pos k' => (ev_loc (kp_ns k' i₃.ns) mc).mono fun _ _ _ e => e ▸ hc
    have eh : ∀ (c' : Shared) pos, Keeps c₃ c' → Ev prog w (A.deeper (fenv (stAt 6) pm code doc L a)) c' (eval (.Name (Str.ofString "high") pos) (fenv (stAt 6) pm code doc L a)) (fun r _ => IsI (tHigh x) r) :=
      fun c' pos k' => (ev_loc (kp_ns k' i₃.ns) mh).mono fun _ _ _ e => e ▸ hvh
    unfold told
    rw [hcode]
    refine st_if (ev_tEq (a := (tWord x).length) (b := 1) (ev_call1 (ev_bname (Bk _ ks) (by decide) bt_len) ((ev_loc i₃.ns mw).mono fun _ _ _ e => e ▸ hvw) fun r s₂ k₂ hr => (ev_lenS hr (by rw [tl]; omega)).mono fun _ _ _ h => by rwa [tl] at h) ev_int) (fun e c₄ k₄ => ?_) fun e1 c₄ k₄ => wpAny_execs_nil ?_
    · have e : (tWord x).length = 1 := by have : ((tWord x).length : Int) = 1 := by simpa using e
                                          omega
      rw [if_pos e]
      refine st_ret (P := fun r _ => IsI (if cd < 127 then cd + tHigh x else -1) r) (ev_ifexp (ev_tLt (ec _ _ k₄) ev_int) (fun e' => (ev_add (ec _ _ k₄) (eh _ _ k₄)).mono fun _ _ _ h => by rw [if_pos (of_decide_eq_true e')]; exact h) (fun e' => (ev_neg ev_int).mono fun _ _ _ h => by rw [if_neg (of_decide_eq_false e')]; exact h)) fun r c₅ k₅ hr => ⟨hr, kp_trans ks (kp_trans k₄ k₅)⟩
    have e1 : ¬ (tWord x).length = 1 := by
      intro q
      rw [q] at e1; simp at e1
    rw [if_neg e1]
    refine st_if (ev_tchainLl ev_int (ec _ _ k₄) ev_int) (fun e c₅ k₅ => st_ret (ev_add (ev_sub (ec _ _ (kp_trans k₄ k₅)) ev_int) (eh _ _ (kp_trans k₄ k₅))) fun r c₆ k₆ hr => ⟨?_, kp_trans ks (kp_trans k₄ (kp_trans k₅ k₆))⟩) fun e2 c₅ k₅ => wpAny_execs_nil ?_
    · rw [if_pos (of_decide_eq_true e)]; exact hr
    have e2 := of_decide_eq_false e2
    rw [if_neg e2]
    have k₅ := kp_trans k₄ k₅
    refine st_assign (InCall.kp i₃ k₅) rfl (P := fun r _ => IsB ((b == 0) && (tHigh x == 0)) r) (ev_bandB (ev_eqI ((ev_loc (kp_ns k₅ i₃.ns) mb').mono fun _ _ _ e => e ▸ hu) ev_int) (ev_eqI (eh _ _ k₅) ev_int)) fun vl c₆ c₇ k₆ hl i₇ kb₇ => ?_
    obtain ⟨m₇, hm₇⟩ : ∃ m₇ : Str → Option Value, m₇ = fun y => if y = Str.ofString "lone" then some vl else m₃ y := ⟨_, rfl⟩
    rw [← hm₇] at i₇
    have mc7 : m₇ (Str.ofString "code") = some vc := by rw [hm₇]; show (if _ then _ else _) = _; rw [if_neg (by decide)]; exact mc
    have mh7 : m₇ (Str.ofString "high") = some vh := by rw [hm₇]; show (if _ then _ else _) = _; rw [if_neg (by decide)]; exact mh
    have ml7 : m₇ (Str.ofString "lone") = some vl := by rw [hm₇]; show (if _ then _ else _) = _; rw [if_pos rfl]
    have ks7 := InCall.keeps i₇
    have ec7 : ∀ (c' : Shared) pos, Keeps c₇ c' → Ev prog w (A.deeper (fenv (stAt 6) pm code doc L a)) c' (eval (.Name (Str.ofString "code") pos) (fenv (stAt 6) pm code doc L a)) (fun r _ => IsI cd r) :=
      fun c' pos k' => (ev_loc (kp_ns k' i₇.ns) mc7).mono fun _ _ _ e => e ▸ hc
    have el7 : ∀ (c' : Shared) pos, Keeps c₇ c' → Ev prog w (A.deeper (fenv (stAt 6) pm code doc L a)) c' (eval (.Name (Str.ofString "lone") pos) (fenv (stAt 6) pm code doc L a)) (fun r _ => IsB ((b == 0) && (tHigh x == 0)) r) :=
      fun c' pos k' => (ev_loc (kp_ns k' i₇.ns) ml7).mono fun _ _ _ e => e ▸ hl
    have hq : ((((cd == 63) && ((b == 0) && (tHigh x == 0))) || ((cd == 159) && !((b == 0) && (tHigh x == 0)))) = true) ↔ ((cd = 63 ∧ ((b == 0) = true ∧ tHigh x = 0)) ∨ (cd = 159 ∧ ¬ ((b == 0) = true ∧ tHigh x = 0))) := by
      by_cases q1 : b = 0 <;> by_cases q2 : tHigh x = 0 <;> simp [q1, q2]
    refine st_if (b := ((cd == 63) && ((b == 0) && (tHigh x == 0))) || ((cd == 159) && !((b == 0) && (tHigh x == 0)))) (ev_tor (ev_tand (ev_tEq (ec7 _ _ (kp_refl _)) ev_int) fun _ => ev_tval (el7 _ _ (kp_refl _)) ev_truB) fun _ => ev_tand (ev_tEq (ec7 _ _ (kp_refl _)) ev_int) fun _ => ev_tnot (ev_tval (el7 _ _ (kp_refl _)) ev_truB)) (fun e c₈ k₈ => ?_) fun e c₈ k₈ => wpAny_execs_nil ?_
    · refine st_ret (ev_add ev_int ((ev_loc (kp_ns k₈ i₇.ns) mh7).mono fun _ _ _ e => e ▸ hvh)) fun r c₉ k₉ hr => ⟨?_, kp_trans ks7 (kp_trans k₈ k₉)⟩
      rw [if_pos (hq.mp e)]; exact hr
    · refine st_ret (ev_neg ev_int) fun r c₉ k₉ hr => ⟨?_, kp_trans ks7 (kp_trans k₈ k₉)⟩
      rw [if_neg (fun q => by rw [hq.mpr q] at e; cases e)]; exact hr
  refine st_assign i rfl (P := fun r _ => IsI 0 r) ev_int fun vh c₁ c₂ k₁ hh i₂ kb₂ => ?_
  obtain ⟨m₂, hm₂⟩ : ∃ m₂ : Str → Option Value, m₂ = fun y => if y = Str.ofString "high" then some vh else [(Str.ofString "word", v), (Str.ofString "begin", u)].reverse.lookup y := ⟨_, rfl⟩
  rw [← hm₂] at i₂
  have mw : m₂ (Str.ofString "word") = some v := by rw [hm₂]; rfl
  have mh : m₂ (Str.ofString "high") = some vh := by rw [hm₂]; rfl
  have mb' : m₂ (Str.ofString "begin") = some u := by rw [hm₂]; rfl
  have ew : ∀ (c' : Shared) pos, Keeps c₂ c' → Ev prog w (A.deeper (fenv (stAt 6) pm code doc L a)) c' (eval (.Name (Str.ofString "word") pos) (fenv (stAt 6) pm code doc L a)) (fun r _ => IsS (txt x) r) :=
    fun c' pos k' => (ev_loc (kp_ns k' i₂.ns) mw).mono fun _ _ _ e => e ▸ hv
  obtain ⟨c0, r0, hx⟩ : ∃ c0 r0, x = c0 :: r0 := by
    cases x with
    | nil => simp at h1
    | cons c0 r0 => exact ⟨c0, r0, rfl⟩
  refine st_if (b := tHi x) ((ev_tand (c := decide ((x.length : Int) > 1)) (d := ([c0] == [33])) (ev_tGt (a := x.length) (b := 1) (ev_call1 (ev_bname (Bk _ (InCall.keeps i₂)) (by decide) bt_len) (ew _ _ (kp_refl _)) fun r s₂ k₂ hr => (ev_lenS hr (by rw [tl]; omega)).mono fun _ _ _ h => by rwa [tl] at h) ev_int) fun _ => ?_).mono fun d _ _ hd => ?_) (fun e c₃ k₃ => ?_) (fun e c₃ k₃ => wpAny_execs_nil ?_)
  · refine (ev_tEqS (x := ⟨#[c0]⟩) (y := Str.ofString "!") (ev_idxS (i := 0) (ew _ _ (kp_refl _)) ev_int (by decide) (by rw [hx]; exact idx_first)) ev_str).mono fun d _ _ hd => ?_
    rw [hd, sBang]
  · rw [hd, hx]
    unfold tHi
    have : decide (((c0 :: r0).length : Int) > 1) = decide (1 < (c0 :: r0).length) := by
      apply decide_eq_decide.mpr
      omega
    rw [this]
    congr 1
    simp
  · refine st_assign (InCall.kp i₂ k₃) rfl (P := fun r _ => IsI 128 r) ev_int fun vh' c₄ c₅ k₄ hh' i₅ kb₅ => ?_
    have mw5 : (fun y => if y = Str.ofString "high" then some vh' else m₂ y) (Str.ofString "word") = some v := by show (if _ then _ else _) = _; rw [if_neg (by decide)]; exact mw
    refine st_assign i₅ rfl (P := fun r _ => IsS (txt (x.drop 1)) r) ((ev_sliceS1 (x := txt x) (i := 1) ((ev_loc (m := fun y => if y = Str.ofString "high" then some vh' else m₂ y) (v := v) i₅.ns mw5).mono fun _ _ _ e => e ▸ hv) ev_int (by rw [tl, sizeLine_eq]; omega)).mono fun _ _ _ h => by rwa [slice_from h1] at h) fun vw c₆ c₇ k₆ hw i₇ kb₇ => wpAny_execs_nil ?_
    have eW : tWord x = x.drop 1 := by unfold tWord; rw [if_pos e]
    have eH : tHigh x = 128 := by unfold tHigh; rw [if_pos e]
    have e' := e
    unfold tHi at e'
    simp only [Bool.and_eq_true, decide_eq_true_eq] at e'
    refine fin c₇ _ vw vh' i₇ rfl (by show (if _ then _ else _) = _; rw [if_neg (by decide)]; show (if _ then _ else _) = _; rw [if_pos rfl]) ?_ (by rw [eW]; exact hw) (by rw [eH]; exact hh') (by rw [eW, List.length_drop]; omega) (by rw [eW, List.length_drop]; omega)
    show (if _ then _ else _) = _
    rw [if_neg (by decide)]; show (if _ then _ else _) = _; rw [if_neg (by decide)]; exact mb'
  · have eW : tWord x = x := by unfold tWord; rw [e]; rfl
    have eH : tHigh x = 0 := by unfold tHigh; rw [e]; rfl
    exact fin c₃ m₂ v vh (InCall.kp i₂ k₃) mw mh mb' (by rw [eW]; exact hv) (by rw [eH]; exact hh) (by rw [eW]; exact h1) (by rw [eW]; exact h3)
end
end Mine
end
section
open PySem PySem.W PyProof.Rows PySem.Calls PySem.SeqAt
set_option maxRecDepth 100000
namespace Mine
section
variable {prog : Program} {w : World} {A : Around} {s₀ : Shared} {env : Env} {mg mb : Str → Option Value}

theorem waits_strs (x : List Nat) : ([Str.ofString "!", Str.ofString "^", Str.ofString "!^"] : List Str).contains (txt x) = waits x := by
  have e1 : Str.ofString "!" = txt [33] := by decide
  have e2 : Str.ofString "^" = txt [94] := by decide
  have e3 : Str.ofString "!^" = txt [33, 94] := by decide
  have inj : ∀ a b : List Nat, (txt a == txt b) = (a == b) := fun a b => by
    by_cases h : a = b
    · subst h; simp
    · have : txt a ≠ txt b := fun q => h (by injection q with q; simpa using q)
      rw [beq_eq_false_iff_ne.mpr this, beq_eq_false_iff_ne.mpr h]
  unfold waits
  rw [e1, e2, e3]
  simp only [List.contains_cons, inj, List.contains_nil]

/-- the words that wait are short -/
theorem live_word (z : Bool) (b : Int) (t : List Nat) : ∀ e, e ≤ t.length → ∀ p ∈ liveAt z b t e, p.2.length ≤ 2 ∧ p.1.length ≤ e
  | 0, _, p, hp => by
    have : p = ([], []) := by simpa [liveAt] using hp
    subst this; simp
  | e + 1, he, p, hp => by
    have hc : t[e]? = some t[e] := List.getElem?_eq_getElem (by omega)
    rw [live_succ hc] at hp
    obtain ⟨q, hq, hpq⟩ := List.mem_flatMap.mp hp
    have ih := live_word z b t e (by omega) q hq
    unfold turn1 at hpq
    rcases List.mem_append.mp hpq with h | h
    · split at h
      · have : p = (q.1 ++ [b + told z (q.2 ++ [t[e]])], []) := by simpa using h
        subst this; simp; omega
      · cases h
    · split at h
      · rename_i hw
        have : p = (q.1, q.2 ++ [t[e]]) := by simpa using h
        subst this
        have h4 : ∀ w ∈ ([[33], [94], [33, 94]] : List (List Nat)), w.length ≤ 2 := by decide
        refine ⟨h4 _ (by simpa [waits] using hw), by show q.1.length ≤ e + 1; omega⟩
      · cases h
theorem take_flat {α β : Type} {l : List α} {f : α → List β} {j : Nat} {a : α} (h : l[j]? = some a) : (l.take (j + 1)).flatMap f = (l.take j).flatMap f ++ f a := by
  obtain ⟨hl, rfl⟩ := List.getElem?_eq_some_iff.mp h
  rw [List.take_succ_eq_append_getElem hl, List.flatMap_append]; simp
theorem take_flat_len {α β : Type} (l : List α) (f : α → List β) (j : Nat) : ((l.take j).flatMap f).length ≤ (l.flatMap f).length := by
  conv => rhs; rw [← List.take_append_drop j l, List.flatMap_append, List.length_append]
  omega
theorem paired_snoc {α : Type} {F : α → Value → Prop} {as : List α} {vs : List Value} {a : α} {v : Value} (h : Paired F as vs) (hv : F a v) : Paired F (as ++ [a]) (vs ++ [v]) := Paired.snoc h hv
theorem isl_ne_ns {h : Heap} {b L : Addr} {vs : Array Value} {m : Str → Option Value} (h1 : h.IsList b vs) (h2 : h.Ns L m) : b ≠ L := by
  rintro rfl
  obtain ⟨o, e, _, n, hd⟩ := h1
  obtain ⟨o', es, ep, e', hd', _⟩ := h2
  rw [e] at e'; cases e'; rw [hd] at hd'; cases hd'

theorem InCall.gen {s c : Shared} {L : Addr} {m : Str → Option Value} {x : Str} {v : Value} (i : InCall s L (fun z => if z = x then some v else m z) c) : ∃ m', InCall s L m' c ∧ m' x = some v ∧ ∀ y, y ≠ x → m' y = m y :=
  ⟨_, i, by simp, fun y h => by simp [h]⟩
theorem InCall.gen2 {s c : Shared} {L : Addr} {m : Str → Option Value} {x y : Str} {v u : Value} (i : InCall s L (fun z => if z = y then some u else if z = x then some v else m z) c) (hxy : x ≠ y) : ∃ m', InCall s L m' c ∧ m' x = some v ∧ m' y = some u ∧ ∀ q, q ≠ x → q ≠ y → m' q = m q :=
  ⟨_, i, by simp [hxy], by simp, fun q h1 h2 => by simp [h1, h2]⟩
theorem InCall.off {s c c' : Shared} {L : Addr} {m : Str → Option Value} {X : List Addr} (i : InCall s L m c) (hL : L ∉ X) (hs : ∀ b ∈ X, s.heap.get? b = none) (he : ∃ h tk, c' = { c with heap := h, toks := tk }) (hk : KeepsOff X c c') : InCall s L m c' := by
  obtain ⟨h'', tk'', rfl⟩ := he
  refine ⟨?_, i.ns.at' fun o e => hk _ o hL e, fun b o e => ?_, i.fresh⟩
  · obtain ⟨h₁, tk, e⟩ := i.same
    exact ⟨h'', tk'', by rw [e]⟩
  · refine hk b o (fun hbX => ?_) (i.keep b o e)
    rw [hs b hbX] at e; cases e
theorem ev_tcmpS {l r : Expr} {op : CmpOp} {pos : Pos} {whole : Sem Value} {p1 : Value → Prop} {P2 : Value → Shared → Prop} {c : Bool} (h1 : Ev prog w A s₀ (eval l env) (fun v _ => p1 v)) (h2 : Ev prog w A s₀ (eval r env) P2)
    (h3 : ∀ a b s₂, p1 a → Keeps s₀ s₂ → P2 b s₂ → Ev prog w A s₂ (compareOp op a b) (fun v _ => IsB c v)) (hm : behindInMarks op r = false := by with_unfolding_all rfl) :
    Ev prog w A s₀ (isTrue (.Compare l [op] [r] pos) env whole) (fun b _ => b = c) :=
  Ev.of fun s Q E k hQ => wpAny_isTrue_Compare1 (h1.at k fun a s₁ k₁ pa => h2.at (kp_trans k k₁) fun b s₂ k₂ pb => (h3 a b s₂ pa (kp_trans (kp_trans k k₁) k₂) pb).use fun v s₃ k₃ pv => by
    cases pv; exact wpAny_truthy_bool (hQ c s₃ (kp_trans (kp_trans k₁ k₂) k₃) rfl)) hm
theorem ko_kb {M : List Addr} {L : Addr} {a b : Shared} (h : KeepsBut L a b) (hL : L ∈ M) : KeepsOff M a b := fun x o hx e => h x o (fun q => hx (q ▸ hL)) e
theorem ko_kp {M : List Addr} {a b : Shared} (h : Keeps a b) : KeepsOff M a b := fun _ _ _ e => kp_get h e
theorem ko_trans {M : List Addr} {a b c : Shared} (h : KeepsOff M a b) (k : KeepsOff M b c) : KeepsOff M a c := fun x o hx e => k x o hx (h x o hx e)

set_option maxHeartbeats 4000000 in
theorem read_call {t : List Nat} {b : Int} {v u : Value} {a : Addr} (B : Base mg mb s₀.heap) (R : Room A 2) (f : FnAt mg s₀.heap (stAt 7) a) (hv : IsS (txt t) v) (hu : IsI b u) (ht : t.length ≤ 10) :
    Ev prog w A s₀ (call (.ref a) [v, u]) (fun r c => ∃ D out, r = .ref D ∧ c.heap.PlainList D (List.toArray out) ∧ Paired (RowAt c.heap) (readRows (b == 0) b t) out) := by
  refine enter B.lim (by have := R.depth; omega) f (binds := [(Str.ofString "text", v), (Str.ofString "begin", u)]) (fun _ _ _ => rfl) fun pm code doc s L s₁ k i => ?_
  have Bk : ∀ c', Keeps s c' → Base mg mb c'.heap := fun c' k' => B.keeps (kp_keep (kp_trans k k'))
  have R' : Room (A.deeper (fenv (stAt 7) pm code doc L a)) 1 := R.deeper _
  have hh := R'.handled
  generalize hz : (b == 0) = z
  have hsz : (txt t).cps.size = t.length := by show t.toArray.size = _; simp
  -- live = [([], '')]
  refine st_assign i rfl (P := fun r c => ∃ D x, r = .ref D ∧ c.heap.PlainList D #[x] ∧ LiveM [L] c.heap ([], []) x ∧ s₁.heap.get? D = none) ((ev_List1 (P := fun x c => LiveM [L] c.heap ([], []) x) ((ev_Tuple2 (P1 := fun x c => RowM [L] c.heap [] x) (P2 := fun x _ => IsS (txt []) x) (ev_List0.mono fun x c kc hx => ?_) (fun s₂ k₂ => ev_str.mono fun x _ _ hx => ?_) (fun x s s' k hx => hx.keeps fun b o _ e => kp_get k e) (fun _ _ _ _ h => h)).mono fun x c kc hx => ?_) (fun x s s' k hx => hx.keeps fun b o _ e => kp_get k e)).mono fun r c _ hr => ?_) fun vl c₁ c₂ k₁ hl i₂ kb₂ => ?_
  · obtain ⟨l, rfl, hl, hn⟩ := hx
    refine ⟨l, [], rfl, fun q => ?_, hl.isList, .nil⟩
    simp only [List.mem_cons, List.not_mem_nil, or_false] at q
    obtain ⟨o, _, _, e, _⟩ := i.ns
    rw [q, e] at hn; cases hn
  · have e : Str.ofString "" = txt [] := by decide
    rw [← e]; exact hx
  · obtain ⟨T, x1, x2, rfl, hT, h1, h2, hn⟩ := hx
    refine ⟨T, x1, x2, rfl, fun q => ?_, hT, h1, h2⟩
    simp only [List.mem_cons, List.not_mem_nil, or_false] at q
    obtain ⟨o, _, _, e, _⟩ := i.ns
    rw [q, e] at hn; cases hn
  · obtain ⟨l, x, h1, h2, h3, h4⟩ := hr
    exact ⟨l, x, h1, h2, h3, h4⟩
  obtain ⟨D₀, x₀, rfl, hD₀, hx₀, hn₀⟩ := hl
  have hD₀L : D₀ ≠ L := isl_ne_ns hD₀.isList (kp_ns k₁ i.ns)
  have hD₀2 : c₂.heap.IsList D₀ #[x₀] := hD₀.isList.at fun o e => kb₂ _ o hD₀L e
  have hx₀2 : LiveM [L] c₂.heap ([], []) x₀ := hx₀.keeps fun b o hb e => kb₂ b o (fun q => hb (by simp [q])) e
  obtain ⟨m₂, hm₂⟩ : ∃ m₂ : Str → Option Value, m₂ = fun y => if y = Str.ofString "live" then some (.ref D₀) else [(Str.ofString "text", v), (Str.ofString "begin", u)].reverse.lookup y := ⟨_, rfl⟩
  rw [← hm₂] at i₂
  have mt : m₂ (Str.ofString "text") = some v := by rw [hm₂]; rfl
  have mb' : m₂ (Str.ofString "begin") = some u := by rw [hm₂]; rfl
  have ml : m₂ (Str.ofString "live") = some (.ref D₀) := by rw [hm₂]; rfl
  have lL : ∃ o, c₂.heap.get? L = some o := by obtain ⟨o, _, _, e, _⟩ := i₂.ns; exact ⟨o, e⟩
  refine st_for (n := (txt t).cps.size) (F := []) [L] (fun X j c => ∃ m D vs, InCall s L m c ∧ m (Str.ofString "begin") = some u ∧ m (Str.ofString "live") = some (.ref D) ∧ D ∉ X ∧ c.heap.IsList D (List.toArray vs) ∧ Paired (LiveM (L :: X) c.heap) (liveAt z b t j) vs)
    (src_str (y := Str.ofString "sign") hh ((ev_loc i₂.ns mt).mono fun _ _ _ e => e ▸ hv)) ?_ ?_ ?_ ?_ ?_
  · intro q hq
    simp only [List.mem_cons, List.not_mem_nil, or_false] at hq
    subst hq
    exact ⟨by simp, lL⟩
  · intro X c' hX k'
    refine ⟨m₂, D₀, [x₀], InCall.kp i₂ k', mb', ml, fun q => ?_, hD₀2.at fun o e => kp_get k' e, .cons (((hx₀2.more hX).less fun q hq => ?_).keeps fun b o _ e => kp_get k' e) .nil⟩
    · obtain ⟨o, e, _⟩ := hD₀2
      rw [hX _ q] at e; cases e
    · rcases List.mem_cons.mp hq with rfl | hq
      · exact List.mem_append_right _ (.head _)
      · exact List.mem_append_left _ hq
  · rintro X j c c' hX ⟨m, D, vs, i', h1, h2, h3, h4, h5⟩ he hk
    have hLX : L ∉ X := fun q => by obtain ⟨o, e⟩ := lL; rw [hX _ q] at e; cases e
    exact ⟨m, D, vs, InCall.off i' hLX (fun q hq => none_of (InCall.keeps i₂) (hX q hq)) he hk, h1, h2, h3, h4.at fun o e => hk _ o h3 e, paired_mono h5 fun _ _ r => r.keeps fun b o hb e => hk b o (fun q => hb (.tail _ q)) e⟩
  · rintro X j c x hj hX hXl ⟨m, D, vs, i', hmb, hml, hDX, hD, hP⟩ ⟨ch, hch, hx⟩
    have hLX : L ∉ X := fun q => by obtain ⟨o, e⟩ := lL; rw [hX _ q] at e; cases e
    have hcj : t[j]? = some ch := by simpa using hch
    have hjt : j < t.length := by omega
    have hDL : D ≠ L := isl_ne_ns hD i'.ns
    refine wpAny_assign_Name (st_store i' rfl fun c₃ i₃ kb₃ => ?_)
    obtain ⟨m₃, i₃, e3, o3⟩ := InCall.gen i₃
    have hD3 : c₃.heap.IsList D (List.toArray vs) := hD.at fun o e => kb₃ _ o hDL e
    have hP3 : Paired (LiveM (L :: X) c₃.heap) (liveAt z b t j) vs := paired_mono hP fun _ _ r => r.keeps fun b o hb e => kb₃ b o (fun q => hb (by rw [q]; exact .head _)) e
    -- onward = []
    refine st_assign i₃ rfl (P := fun r c' => ∃ D2, r = .ref D2 ∧ c'.heap.PlainList D2 #[] ∧ c₃.heap.get? D2 = none) ev_List0 fun vo c₄ c₅ k₄ ho i₅ kb₅ => ?_
    obtain ⟨D2, rfl, hD2, hn2⟩ := ho
    obtain ⟨m₅, i₅, e5, o5⟩ := InCall.gen i₅
    have lL3 : ∃ o, c₃.heap.get? L = some o := by obtain ⟨o, _, _, e, _⟩ := i₃.ns; exact ⟨o, e⟩
    have hD2L : D2 ≠ L := fun q => by obtain ⟨o, e⟩ := lL3; rw [← q, hn2] at e; cases e
    have lX3 : ∀ q ∈ X, ∃ o, c₃.heap.get? q = some o := fun q hq => by
      obtain ⟨o, e⟩ := hXl q hq
      exact ⟨o, kb₃ q o (fun q' => hLX (q' ▸ hq)) e⟩
    have hD2X : D2 ∉ X := fun q => by obtain ⟨o, e⟩ := lX3 D2 q; rw [hn2] at e; cases e
    have hD2D : D2 ≠ D := fun q => by obtain ⟨o, e, _⟩ := hD3; rw [← q, hn2] at e; cases e
    have k35 : ∀ q o, q ≠ L → c₃.heap.get? q = some o → c₅.heap.get? q = some o := fun q o hq e => kb₅ q o hq (kp_get k₄ e)
    have hD25 : c₅.heap.PlainList D2 #[] := hD2.at fun o e => kb₅ _ o hD2L e
    have hD5 : c₅.heap.IsList D (List.toArray vs) := hD3.at fun o e => k35 _ o hDL e
    have hP5 : Paired (LiveM (D2 :: L :: X) c₅.heap) (liveAt z b t j) vs := paired_mono hP3 fun _ _ r => (r.more (X := [D2]) fun q hq => by
      simp only [List.mem_cons, List.not_mem_nil, or_false] at hq
      rw [hq]; exact hn2).keeps fun q o hq e => k35 q o (fun q' => hq (by rw [q']; exact .tail _ (.head _))) e
    have hs2 : s.heap.get? D2 = none := none_of (InCall.keeps i₃) hn2
    have hlen : vs.length ≤ 1024 := by
      rw [← hP.length]
      have := live_len z b t j (by omega)
      have : 2 ^ j ≤ 2 ^ 10 := Nat.pow_le_pow_right (by decide) (by omega)
      omega
    have hfl : ((liveAt z b t j).flatMap (turn1 z b ch)).length ≤ 1024 := by
      rw [← live_succ hcj]
      have := live_len z b t (j + 1) (by omega)
      have : 2 ^ (j + 1) ≤ 2 ^ 10 := Nat.pow_le_pow_right (by decide) (by omega)
      omega
    have lL5 : ∃ o, c₅.heap.get? L = some o := by obtain ⟨o, _, _, e, _⟩ := i₅.ns; exact ⟨o, e⟩
    refine st_for (n := vs.length) (F := [D]) [L, D2] (fun Y q c' => ∃ m' ys, InCall s L m' c' ∧ m' (Str.ofString "begin") = some u ∧ m' (Str.ofString "sign") = some x ∧ m' (Str.ofString "onward") = some (.ref D2) ∧ c'.heap.PlainList D2 (List.toArray ys) ∧
        Paired (LiveM (D2 :: L :: (Y ++ X)) c'.heap) (((liveAt z b t j).take q).flatMap (turn1 z b ch)) ys ∧ Paired (LiveM (D2 :: L :: (Y ++ X)) c'.heap) (liveAt z b t j) vs ∧ KeepsOff [L, D2] c₅ c')
      (src_pairs hh (fun y hy => ?_) ((ev_loc i₅.ns ((o5 _ (by decide)).trans ((o3 _ (by decide)).trans hml))).mono fun r c' kc hr => ⟨D, hr, hD5.at fun o e => kp_get kc e, Or.inr (by simp)⟩)) ?_ ?_ ?_ ?_ ?_
    · obtain ⟨p, T, _, _, h1, _⟩ := paired_mem hP y hy
      exact ⟨T, h1⟩
    · intro q hq
      simp only [List.mem_cons, List.not_mem_nil, or_false] at hq ⊢
      rcases hq with rfl | rfl
      · exact ⟨Ne.symm hDL, lL5⟩
      · obtain ⟨n, e⟩ := hD25
        exact ⟨hD2D, _, e⟩
    · intro Y c' hY k'
      refine ⟨m₅, [], InCall.kp i₅ k', (o5 _ (by decide)).trans ((o3 _ (by decide)).trans hmb), (o5 _ (by decide)).trans e3, e5, hD25.at fun o e => kp_get k' e, by simpa using Paired.nil, paired_mono hP5 fun _ _ r => ((r.more hY).less fun q hq => ?_).keeps fun b o _ e => kp_get k' e, ko_kp k'⟩
      simp only [List.mem_cons, List.mem_append] at hq ⊢
      rcases hq with rfl | rfl | hq | hq
      · exact Or.inr (Or.inl rfl)
      · exact Or.inr (Or.inr (Or.inl rfl))
      · exact Or.inl hq
      · exact Or.inr (Or.inr (Or.inr hq))
    · rintro Y q c' c'' hY ⟨m', ys, i6, g1, g2, g3, g4, g5, g6, g7⟩ he hk
      have hLY : L ∉ Y := fun q' => by obtain ⟨o, e⟩ := lL5; rw [hY _ q'] at e; cases e
      have hD2Y : D2 ∉ Y := fun q' => by obtain ⟨n, e⟩ := hD25; rw [hY _ q'] at e; cases e
      have kk : ∀ b o, b ∉ D2 :: L :: (Y ++ X) → c'.heap.get? b = some o → c''.heap.get? b = some o := fun b o hb e => hk b o (fun q' => hb (.tail _ (.tail _ (List.mem_append_left _ q')))) e
      refine ⟨m', ys, InCall.off i6 hLY (fun q' hq' => none_of (InCall.keeps i₅) (hY q' hq')) he hk, g1, g2, g3, g4.at fun o e => hk _ o hD2Y e, paired_mono g5 fun _ _ r => r.keeps kk, paired_mono g6 fun _ _ r => r.keeps kk, fun b o hb e => hk b o (fun q' => ?_) (g7 b o hb e)⟩
      rw [hY _ q'] at e; cases e
    · rintro Y q c' xv hq hY hYl ⟨m', ys, i6, g1, g2, g3, g4, g5, g6, g7⟩ hvq
      obtain ⟨p, hp, T, ra, wb, rfl, hTM, hT, hra, hwb⟩ := paired_get g6 hvq
      obtain ⟨Mx, hMx⟩ : ∃ Mx, Mx = D2 :: L :: (Y ++ X) := ⟨_, rfl⟩
      rw [← hMx] at g5 g6 hra
      have hLM : L ∈ Mx := by rw [hMx]; exact .tail _ (.head _)
      have hDM : D2 ∈ Mx := by rw [hMx]; exact .head _
      have hLY : L ∉ Y := fun q' => by obtain ⟨o, e⟩ := lL5; rw [hY _ q'] at e; cases e
      have lM : ∀ r ∈ Mx, ∃ o, c'.heap.get? r = some o := by
        intro r hr
        rw [hMx] at hr
        simp only [List.mem_cons, List.mem_append] at hr
        rcases hr with rfl | rfl | hr | hr
        · obtain ⟨n, e⟩ := g4; exact ⟨_, e⟩
        · obtain ⟨o, _, _, e, _⟩ := i6.ns; exact ⟨o, e⟩
        · exact hYl r hr
        · obtain ⟨o, e⟩ := lX3 r hr
          exact ⟨o, g7 r o (by simp only [List.mem_cons, List.not_mem_nil, or_false, not_or]; exact ⟨fun q' => hLX (q' ▸ hr), fun q' => hD2X (q' ▸ hr)⟩) (k35 r o (fun q' => hLX (q' ▸ hr)) e)⟩
      have hpl := live_word z b t j (by omega) p (List.mem_of_getElem? hp)
      refine st_bindPair hh i6 rfl hT fun c₇ i₇ kb₇ => ?_
      obtain ⟨m₇, i₇, e7r, e7w, o7⟩ := InCall.gen2 i₇ (by decide)
      -- word += sign
      refine st_iaddS i₇ rfl e7w hwb ((ev_loc i₇.ns ((o7 _ (by decide) (by decide)).trans g2)).mono fun _ _ _ e => e ▸ hx) (by show p.2.toArray.size + 1 ≤ _; rw [sizeLine_eq]; simp; omega) fun vw c₈ hvw i₈ kb₈ => ?_
      obtain ⟨m₈, i₈, e8, o8⟩ := InCall.gen i₈
      have hvw : IsS (txt (p.2 ++ [ch])) vw := by
        have : (txt p.2 ++ (⟨#[ch]⟩ : Str)) = txt (p.2 ++ [ch]) := by
          apply Str.ext'
          show p.2.toArray ++ #[ch] = (p.2 ++ [ch]).toArray
          simp
        rwa [this] at hvw
      -- code = _law_told(word, begin)
      have B₈ := Bk c₈ (InCall.keeps i₈)
      obtain ⟨a6, f6⟩ := B₈.fn 6 (by decide)
      obtain ⟨o6, _, _, _, q1, q2, q3, _⟩ := id f6
      have m8b : m₈ (Str.ofString "begin") = some u := (o8 _ (by decide)).trans ((o7 _ (by decide) (by decide)).trans g1)
      refine st_assign i₈ rfl (P := fun r _ => IsI (told z (p.2 ++ [ch])) r) (ev_callF2 (ev_glob B₈.g q1) q2 q3 (ev_loc i₈.ns e8) (ev_loc i₈.ns m8b) fun y y' hy hy' => by
        subst hy hy'
        rw [← hz]
        exact told_call B₈ R' f6 hvw hu (by simp) (by simp; omega)) fun vc c₉ c₁₀ k₉ hc i₁₀ kb₁₀ => ?_
      obtain ⟨m₁₀, i₁₀, e10, o10⟩ := InCall.gen i₁₀
      have kLL : KeepsBut L c' c₁₀ := kb_trans (kb_trans (kb_trans kb₇ kb₈) (kb_kp k₉)) kb₁₀
      have kM : ∀ r o, r ∉ Mx → c'.heap.get? r = some o → c₁₀.heap.get? r = some o := fun r o hr e => kLL r o (fun q' => hr (q' ▸ hLM)) e
      have n10r : m₁₀ (Str.ofString "row") = some ra := (o10 _ (by decide)).trans ((o8 _ (by decide)).trans e7r)
      have n10w : m₁₀ (Str.ofString "word") = some vw := (o10 _ (by decide)).trans e8
      have n10b : m₁₀ (Str.ofString "begin") = some u := (o10 _ (by decide)).trans m8b
      have n10o : m₁₀ (Str.ofString "onward") = some (.ref D2) := (o10 _ (by decide)).trans ((o8 _ (by decide)).trans ((o7 _ (by decide) (by decide)).trans g3))
      have n10s : m₁₀ (Str.ofString "sign") = some x := (o10 _ (by decide)).trans ((o8 _ (by decide)).trans ((o7 _ (by decide) (by decide)).trans g2))
      have lM10 : ∀ r ∈ Mx, ∃ o, c₁₀.heap.get? r = some o := fun r hr => by
        by_cases hrL : r = L
        · subst hrL; obtain ⟨o, _, _, e, _⟩ := i₁₀.ns; exact ⟨o, e⟩
        · obtain ⟨o, e⟩ := lM r hr; exact ⟨o, kLL r o hrL e⟩
      have hpart := take_flat (f := turn1 z b ch) hp
      have hylen : ys.length ≤ 1024 := by
        rw [← g5.length]
        exact Nat.le_trans (take_flat_len _ _ _) hfl
      obtain ⟨pre, hpre⟩ : ∃ pre, pre = ((liveAt z b t j).take q).flatMap (turn1 z b ch) ++ (if 0 ≤ told z (p.2 ++ [ch]) then [(p.1 ++ [b + told z (p.2 ++ [ch])], ([] : List Nat))] else []) := ⟨_, rfl⟩
      have hfin : ((liveAt z b t j).take (q + 1)).flatMap (turn1 z b ch) = pre ++ (if waits (p.2 ++ [ch]) = true then [(p.1, p.2 ++ [ch])] else []) := by
        rw [hpart, hpre]; unfold turn1; rw [List.append_assoc]
      have hsr : ∀ c₁₁ : Shared, (∃ o, c₁₁.heap.get? L = some o) → True := fun _ _ => trivial
      apply cut_at (F := fun TT : Shared → Prop => ∀ c₁₁ ys', InCall s L m₁₀ c₁₁ → c₁₁.heap.PlainList D2 (List.toArray ys') → ys'.length ≤ 1025 → Paired (LiveM Mx c₁₁.heap) pre ys' → RowM Mx c₁₁.heap p.1 ra → Paired (LiveM Mx c₁₁.heap) (liveAt z b t j) vs → KeepsOff [L, D2] c' c₁₁ →
        (∀ r ∈ Mx, ∃ o, c₁₁.heap.get? r = some o) → TT c₁₁)
      · intro tail
        have ec : ∀ (c₁₁ : Shared) pos, Keeps c₁₀ c₁₁ → Ev prog w (A.deeper (fenv (stAt 7) pm code doc L a)) c₁₁ (eval (.Name (Str.ofString "code") pos) (fenv (stAt 7) pm code doc L a)) (fun r _ => IsI (told z (p.2 ++ [ch])) r) :=
          fun c₁₁ pos k' => (ev_loc (kp_ns k' i₁₀.ns) e10).mono fun _ _ _ e => e ▸ hc
        refine st_if (ev_tGe (ec _ _ (kp_refl _)) ev_int) (fun e c₁₁ k₁₁ => ?_) (fun e c₁₁ k₁₁ => wpAny_execs_nil ?_)
        · have e := of_decide_eq_true e
          have i₁₁ := InCall.kp i₁₀ k₁₁
          have hra11 : RowM Mx c₁₁.heap p.1 ra := (hra.keeps kM).keeps fun b o _ e => kp_get k₁₁ e
          have lM11 : ∀ r ∈ Mx, ∃ o, c₁₁.heap.get? r = some o := fun r hr => let ⟨o, e⟩ := lM10 r hr; ⟨o, kp_get k₁₁ e⟩
          have hD11 : c₁₁.heap.PlainList D2 (List.toArray ys) := (g4.at fun o e => kLL _ o hD2L e).at fun o e => kp_get k₁₁ e
          refine st_append i₁₁ hD2L hs2 (ev_loc i₁₁.ns n10o) hD11 (by rw [sizeLine_eq]; omega) (P := fun r c => LiveM Mx c.heap (p.1 ++ [b + told z (p.2 ++ [ch])], []) r)
            ((ev_Tuple2 (P1 := fun y c => RowM Mx c.heap (p.1 ++ [b + told z (p.2 ++ [ch])]) y) (P2 := fun y _ => IsS (txt []) y)
              (ev_rowAdd (ev_loc i₁₁.ns n10r) hra11 (fun s₂ k₂ => ev_add ((ev_loc (kp_ns k₂ i₁₁.ns) n10b).mono fun _ _ _ e => e ▸ hu) (ec _ _ (kp_trans k₁₁ k₂))) lM11 (by omega))
              (fun s₂ k₂ => ev_str.mono fun y _ _ hy => by
                have e : Str.ofString "" = txt [] := by decide
                rw [← e]; exact hy) (fun y s s' k hy => hy.keeps fun b o _ e => kp_get k e) (fun _ _ _ _ h => h)).mono fun y c kc hy => by
                obtain ⟨T', x1, x2, rfl, hT', h1, h2, hn⟩ := hy
                refine ⟨T', x1, x2, rfl, fun q' => ?_, hT', h1, h2⟩
                obtain ⟨o, e⟩ := lM11 _ q'
                rw [hn] at e; cases e) fun y c₁₂ c₁₃ k₁₂ hy i₁₃ hD13 kb₁₃ => wpAny_execs_nil ?_
          have kM13 : ∀ r o, r ∉ Mx → c₁₀.heap.get? r = some o → c₁₃.heap.get? r = some o := fun r o hr e => kb₁₃ r o (fun q' => hr (q' ▸ hDM)) (kp_get k₁₂ (kp_get k₁₁ e))
          refine tail c₁₃ (ys ++ [y]) i₁₃ hD13 (by simp; omega) ?_ ((hra.keeps kM).keeps kM13) (paired_mono g6 fun _ _ r => (r.keeps kM).keeps kM13) ?_ ?_
          · rw [hpre, if_pos e]
            refine paired_snoc (paired_mono g5 fun _ _ r => (r.keeps kM).keeps kM13) (hy.keeps fun r o hr e => kb₁₃ r o (fun q' => hr (q' ▸ hDM)) e)
          · intro r o hr e
            simp only [List.mem_cons, List.not_mem_nil, or_false, not_or] at hr
            exact kb₁₃ r o hr.2 (kp_get k₁₂ (kp_get k₁₁ (kLL r o hr.1 e)))
          · intro r hr
            by_cases hrD : r = D2
            · subst hrD; obtain ⟨n, e⟩ := hD13; exact ⟨_, e⟩
            · obtain ⟨o, e⟩ := lM11 r hr; exact ⟨o, kb₁₃ r o hrD (kp_get k₁₂ e)⟩
        · have e := of_decide_eq_false e
          refine tail c₁₁ ys (InCall.kp i₁₀ k₁₁) ((g4.at fun o e => kLL _ o hD2L e).at fun o e => kp_get k₁₁ e) (by omega) ?_ ((hra.keeps kM).keeps fun b o _ e => kp_get k₁₁ e) (paired_mono g6 fun _ _ r => (r.keeps kM).keeps fun b o _ e => kp_get k₁₁ e) ?_ ?_
          · rw [hpre, if_neg e, List.append_nil]
            exact paired_mono g5 fun _ _ r => (r.keeps kM).keeps fun b o _ e => kp_get k₁₁ e
          · exact ko_trans (ko_kb kLL (by simp)) (ko_kp k₁₁)
          · intro r hr
            obtain ⟨o, e⟩ := lM10 r hr; exact ⟨o, kp_get k₁₁ e⟩
      · intro c₁₁ ys' i₁₁ hD11 hl11 hP11 hra11 hL11 hk11 lM11
        refine st_if (b := waits (p.2 ++ [ch])) ?_ (fun e c₁₂ k₁₂ => ?_) (fun e c₁₂ k₁₂ => wpAny_execs_nil (wpAny_execs_nil ⟨?_, ?_⟩))
        · refine ev_tcmpS (p1 := IsS (txt (p.2 ++ [ch]))) ((ev_loc i₁₁.ns n10w).mono fun _ _ _ e => e ▸ hvw) (ev_List (ev_spliceS (ns := [Str.ofString "!", Str.ofString "^", Str.ofString "!^"]) rfl ?_) (fun vs s h => by rw [← h.length]; decide) (fun _ _ _ _ h => h)) fun y y' s₂ hy k₂ hy' => ?_
          · intro i e n h1 h2
            match i, h1, h2 with
            | 0, h1, h2 => cases h1; cases h2; exact ⟨_, _, rfl⟩
            | 1, h1, h2 => cases h1; cases h2; exact ⟨_, _, rfl⟩
            | 2, h1, h2 => cases h1; cases h2; exact ⟨_, _, rfl⟩
            | k + 3, h1, h2 => cases h1
          · obtain ⟨ll, ws, rfl, hll, hws, _⟩ := hy'
            rw [← waits_strs]
            exact in_strs hy hll.isList hws
        · have i₁₂ := InCall.kp i₁₁ k₁₂
          have lM12 : ∀ r ∈ Mx, ∃ o, c₁₂.heap.get? r = some o := fun r hr => let ⟨o, e⟩ := lM11 r hr; ⟨o, kp_get k₁₂ e⟩
          refine st_append i₁₂ hD2L hs2 (ev_loc i₁₂.ns n10o) (hD11.at fun o e => kp_get k₁₂ e) (by rw [sizeLine_eq]; omega) (P := fun r c => LiveM Mx c.heap (p.1, p.2 ++ [ch]) r)
            ((ev_Tuple2 (P1 := fun y c => RowM Mx c.heap p.1 y) (P2 := fun y _ => IsS (txt (p.2 ++ [ch])) y) ((ev_loc i₁₂.ns n10r).mono fun y c kc hy => by
                subst hy; exact hra11.keeps fun b o _ e => kp_get (kp_trans k₁₂ kc) e)
              (fun s₂ k₂ => (ev_loc (kp_ns k₂ i₁₂.ns) n10w).mono fun _ _ _ e => e ▸ hvw) (fun y s s' k hy => hy.keeps fun b o _ e => kp_get k e) (fun _ _ _ _ h => h)).mono fun y c kc hy => by
                obtain ⟨T', x1, x2, rfl, hT', h1, h2, hn⟩ := hy
                refine ⟨T', x1, x2, rfl, fun q' => ?_, hT', h1, h2⟩
                obtain ⟨o, e⟩ := lM12 _ q'
                rw [hn] at e; cases e) fun y c₁₃ c₁₄ k₁₃ hy i₁₄ hD14 kb₁₄ => wpAny_execs_nil (wpAny_execs_nil ⟨?_, ?_⟩)
          · have kM14 : ∀ r o, r ∉ Mx → c₁₁.heap.get? r = some o → c₁₄.heap.get? r = some o := fun r o hr e => kb₁₄ r o (fun q' => hr (q' ▸ hDM)) (kp_get k₁₃ (kp_get k₁₂ e))
            refine ⟨m₁₀, ys' ++ [y], i₁₄, n10b, n10s, n10o, hD14, ?_, ?_, ?_⟩
            · rw [← hMx, hfin, if_pos e]
              exact paired_snoc (paired_mono hP11 fun _ _ r => r.keeps kM14) (hy.keeps fun r o hr e => kb₁₄ r o (fun q' => hr (q' ▸ hDM)) e)
            · rw [← hMx]
              exact paired_mono hL11 fun _ _ r => r.keeps kM14
            · refine ko_trans g7 (ko_trans hk11 fun r o hr e => ?_)
              simp only [List.mem_cons, List.not_mem_nil, or_false, not_or] at hr
              exact kb₁₄ r o hr.2 (kp_get k₁₃ (kp_get k₁₂ e))
          · refine ko_trans hk11 fun r o hr e => ?_
            simp only [List.mem_cons, List.not_mem_nil, or_false, not_or] at hr
            exact kb₁₄ r o hr.2 (kp_get k₁₃ (kp_get k₁₂ e))
        · refine ⟨m₁₀, ys', InCall.kp i₁₁ k₁₂, n10b, n10s, n10o, hD11.at fun o e => kp_get k₁₂ e, ?_, ?_, ko_trans g7 (ko_trans hk11 (ko_kp k₁₂))⟩
          · rw [← hMx, hfin, if_neg (by rw [e]; decide), List.append_nil]
            exact paired_mono hP11 fun _ _ r => r.keeps fun b o _ e => kp_get k₁₂ e
          · rw [← hMx]
            exact paired_mono hL11 fun _ _ r => r.keeps fun b o _ e => kp_get k₁₂ e
        · exact ko_trans hk11 (ko_kp k₁₂)
    · rintro Y c' hY ⟨m', ys, i6, g1, g2, g3, g4, g5, g6, g7⟩
      -- live = onward
      refine st_assign i6 rfl (P := fun r _ => r = .ref D2) (ev_loc i6.ns g3) fun r c₆ c₇ k₆ hr i₇ kb₇ => wpAny_execs_nil ⟨?_, ?_⟩
      · subst hr
        obtain ⟨m₇, i₇, e7, o7⟩ := InCall.gen i₇
        refine ⟨m₇, D2, ys, i₇, (o7 _ (by decide)).trans g1, e7, hD2X, g4.isList.at fun o e => kb₇ _ o hD2L (kp_get k₆ e), ?_⟩
        have : (liveAt z b t j).take vs.length = liveAt z b t j := List.take_of_length_le (by rw [hP.length]; omega)
        rw [this, ← live_succ hcj] at g5
        refine paired_mono g5 fun _ _ r => (r.less fun q hq => ?_).keeps fun b o hb e => kb₇ b o (fun q' => hb (by rw [q']; exact .head _)) (kp_get k₆ e)
        rcases List.mem_cons.mp hq with rfl | hq
        · exact .tail _ (.head _)
        · exact .tail _ (.tail _ (List.mem_append_right _ hq))
      · intro q o hq e
        simp only [List.mem_cons, List.not_mem_nil, or_false] at hq
        have e5 := k35 q o hq (kb₃ q o hq e)
        refine kb₇ q o hq (kp_get k₆ (g7 q o ?_ e5))
        simp only [List.mem_cons, List.not_mem_nil, or_false, not_or]
        refine ⟨hq, fun q' => ?_⟩
        have := kb₃ q o hq e
        rw [q', hn2] at this; cases this
  · rintro X c hX ⟨m, D, vs, i', hmb, hml, hDX, hD, hP⟩
    rw [hsz] at hP
    obtain ⟨live, hlive⟩ : ∃ live, live = liveAt z b t t.length := ⟨_, rfl⟩
    rw [← hlive] at hP
    have hlen : vs.length ≤ 1024 := by
      rw [← hP.length, hlive]
      have := live_len z b t t.length (Nat.le_refl _)
      have : 2 ^ t.length ≤ 2 ^ 10 := Nat.pow_le_pow_right (by decide) ht
      omega
    have hR : ∀ j, j ≤ vs.length → True := fun _ _ => trivial
    refine st_ret (P := fun r c => ∃ D out, r = .ref D ∧ c.heap.PlainList D (List.toArray out) ∧ Paired (RowAt c.heap) (readRows z b t) out) ((ev_comp (fun j m => ∃ x y, m (Str.ofString "row") = some x ∧ m (Str.ofString "word") = some y ∧ ∃ p, live[j]? = some p ∧ RowAt c.heap p.1 x ∧ IsS (txt p.2) y)
      (fun X j ys h => Paired (RowM X h) (((live.take j).filter fun p => p.2 == []).map (·.1)) ys) (F := refsOf vs ++ [D])
      (src_tuples (p := fun j x y => ∃ p, live[j]? = some p ∧ RowAt c.heap p.1 x ∧ IsS (txt p.2) y) hh (fun j v hv => ?_) ((ev_loc i'.ns hml).mono fun r c' kc hr => ⟨D, hr, hD.at fun o e => kp_get kc e, Or.inr (by simp)⟩)) (by rw [sizeLine_eq]; omega) (binds_pair hh) (fun X h => .nil)
      (fun X j ys h h' hr hk => paired_mono hr fun _ _ r => r.keeps hk) (fun C X j s₂ m₂ ys hj hk hns hT hR hX => ?_) (closureFor_none (by decide))).mono fun r c' kc hr => ?_) fun r c' kc hr => ⟨hr, kp_trans (InCall.keeps i') kc⟩
    · obtain ⟨p, hp, T, x, y, rfl, _, hT, hx, hy⟩ := paired_get hP hv
      exact ⟨T, x, y, rfl, hT, p, hp, hx.at, hy⟩
    · obtain ⟨x, y, hmx, hmy, p, hp, hx, hy⟩ := hT
      obtain ⟨hpl, hpe⟩ := List.getElem?_eq_some_iff.mp hp
      have htk : live.take (j + 1) = live.take j ++ [p] := by rw [List.take_succ_eq_append_getElem hpl, hpe]
      refine ⟨p.2 == [], ev_tests1 ((ev_tEqS (x := txt p.2) (y := Str.ofString "") ((ev_loc hns hmy).mono fun _ _ _ e => e ▸ hy) ev_str).mono fun d _ _ hd => ?_), fun e h' hk' => ?_, fun e => (ev_loc hns hmx).mono fun r c' kc hr => ?_⟩
      · rw [hd, sNone]
      · rw [htk, List.filter_append, List.filter_cons, if_neg (by rw [e]; decide), List.filter_nil, List.append_nil]
        exact paired_mono hR fun _ _ r => r.keeps fun b o _ e => hk' b o e
      · subst hr
        rw [htk, List.filter_append, List.filter_cons, if_pos e, List.filter_nil, List.map_append]
        refine paired_snoc (paired_mono hR fun _ _ r => r.keeps fun b o _ e => kp_get kc e) ?_
        obtain ⟨l, us, rfl, hl, hu'⟩ := hx
        refine ⟨l, us.toList, rfl, fun q => ?_, ?_, hu'⟩
        · obtain ⟨o, e, _⟩ := hl
          rw [(hX l q).2] at e; cases e
        · have := hl.at (h' := c'.heap) fun o e => kp_get kc (hk _ o e)
          simpa using this
    · obtain ⟨D', ys, X', rfl, hD', hR', _, _⟩ := hr
      refine ⟨D', ys, rfl, hD', ?_⟩
      have : live.take vs.length = live := List.take_of_length_le (by rw [hP.length]; omega)
      rw [this, hlive] at hR'
      exact paired_mono hR' fun _ _ r => r.at
end
end Mine
end
section
open PySem PySem.W PyProof.Rows PySem.Calls PySem.SeqAt
set_option maxRecDepth 100000
namespace Mine

theorem Lr_row {nums : List Int} {t : List Nat} (e : Nat) : ∀ r ∈ Lr nums t e, r.length ≤ e := by
  induction e using Nat.strongRecOn with
  | ind e ih =>
    intro r hr
    cases e with
    | zero =>
      have : r = [] := by simpa [Lr, tab] using hr
      subst this; simp
    | succ e =>
      rw [Lr_succ] at hr
      obtain ⟨s, hs, hr⟩ := List.mem_flatMap.mp hr
      obtain ⟨n, _, hr⟩ := List.mem_flatMap.mp hr
      obtain ⟨r', hr', rfl⟩ := List.mem_map.mp hr
      have hs := List.mem_range.mp hs
      have := ih s (by omega) r' hr'
      rw [List.length_append]; simp; omega
theorem Lr_ending {nums : List Int} {t : List Nat} (e : Nat) : Lr nums t (e + 1) = ending nums t (tab nums t e) (e + 1) := by
  show (tab nums t e ++ [ending nums t (tab nums t e) (e + 1)]).getD (e + 1) [] = _
  rw [List.getD_eq_getElem?_getD, List.getElem?_append_right (by rw [tab_len]; omega), tab_len, Nat.sub_self]; rfl
theorem sh_snoc (nums : List Int) (n : Int) (w : List Nat) : sh (nums ++ [n]) w = if w = us n then sh nums w ++ [n] else sh nums w := by
  unfold sh
  rw [List.filter_append, List.filter_cons, List.filter_nil]
  by_cases h : w = us n
  · rw [if_pos h, if_pos (by rw [h]; simp)]
  · rw [if_neg h, if_neg (by simpa using fun q => h q.symm), List.append_nil]

/-- a list of rows off M -/
def LvM (M : List Addr) (h : Heap) (rows : List (List Int)) (v : Value) : Prop := ∃ l vs, v = .ref l ∧ l ∉ M ∧ h.IsList l (List.toArray vs) ∧ Paired (RowM M h) rows vs
theorem LvM.keeps {M : List Addr} {h h' : Heap} {rows : List (List Int)} {v : Value} (r : LvM M h rows v) (hk : ∀ b o, b ∉ M → h.get? b = some o → h'.get? b = some o) : LvM M h' rows v :=
  let ⟨l, vs, h1, h2, h3, h4⟩ := r; ⟨l, vs, h1, h2, h3.at fun o e => hk _ o h2 e, paired_mono h4 fun _ _ r => r.keeps hk⟩
theorem LvM.less {M M' : List Addr} {h : Heap} {rows : List (List Int)} {v : Value} (r : LvM M h rows v) (hM : ∀ b ∈ M', b ∈ M) : LvM M' h rows v :=
  let ⟨l, vs, h1, h2, h3, h4⟩ := r; ⟨l, vs, h1, fun q => h2 (hM _ q), h3, paired_mono h4 fun _ _ r => r.less hM⟩
theorem LvM.more {M X : List Addr} {h : Heap} {rows : List (List Int)} {v : Value} (r : LvM M h rows v) (hX : ∀ b ∈ X, h.get? b = none) : LvM (X ++ M) h rows v := by
  obtain ⟨l, vs, h1, h2, h3, h4⟩ := r
  refine ⟨l, vs, h1, fun q => ?_, h3, paired_mono h4 fun _ _ r => r.more hX⟩
  rcases List.mem_append.mp q with q | q
  · obtain ⟨o, e, _⟩ := h3; rw [hX _ q] at e; cases e
  · exact h2 q

section
variable {prog : Program} {w : World} {A : Around} {s₀ : Shared} {env : Env} {mg mb : Str → Option Value}

def fenvC (st : Stmt) (pm code doc : Value) (L a : Addr) : Env := callEnvC (docDef (fName st) (fArgs st) (fBody st) (fScope st) pm code doc) L a
theorem enterC {st : Stmt} {a : Addr} {vals : List Value} {binds : List (Str × Value)} {P : Value → Shared → Prop} (lim : s₀.heap.NoLimit) (R : A.depth < recursionLimit) (f : FnAt mg s₀.heap st a)
    (hbind : ∀ pm code doc, bindArgs (docDef (fName st) (fArgs st) (fBody st) (fScope st) pm code doc) ⟨vals, []⟩ = pure binds)
    (h : ∀ pm code doc s L s₁, Keeps s₀ s → InCallC s L (bindL (fenvC st pm code doc L a).kindOf binds fun _ => none) (fenvC st pm code doc L a).cells (bindC (fenvC st pm code doc L a).kindOf binds fun _ => none) s₁ →
      wpAny (model prog w) (A.deeper (fenvC st pm code doc L a)) (execs (fBody st) (fenvC st pm code doc L a)) (fun f s' => P (match f with | .ret v => v | _ => .none) s' ∧ Keeps s s') (fun _ _ => False) s₁)
    (hloc : (binds.all fun x => decide ((fScope st).names.lookup x.1 = some .local)) = true := by rfl)
    (hco : (fScope st).isCoroutine = false := by rfl) (hgen : (fScope st).isGenerator = false := by rfl) (hk : (fScope st).kind = .function := by rfl) :
    Ev prog w A s₀ (call (.ref a) vals) P := by
  obtain ⟨o, pm, code, doc, h1, h2, h3, h4⟩ := f
  exact ev_enterC R h2 h3 lim h4 rfl (hbind pm code doc) rfl (locs hloc) (fun s L s₁ k i => h pm code doc s L s₁ k i) hco hgen hk

/-- the names that stay -/
structure Nm (m : Str → Option Value) (v : Value) (d Dr : Addr) : Prop where
  text : m (Str.ofString "text") = some v
  shown : m (Str.ofString "shown") = some (.ref d)
  rows : m (Str.ofString "rows") = some (.ref Dr)
theorem Nm.of {m m' : Str → Option Value} {v : Value} {d Dr : Addr} (h : Nm m v d Dr) {x : Str} (o : ∀ y, y ≠ x → m' y = m y) (h1 : Str.ofString "text" ≠ x := by decide) (h2 : Str.ofString "shown" ≠ x := by decide) (h3 : Str.ofString "rows" ≠ x := by decide) : Nm m' v d Dr :=
  ⟨(o _ h1).trans h.text, (o _ h2).trans h.shown, (o _ h3).trans h.rows⟩
theorem cell_kb {c c' : Shared} {C L : Addr} {o : Option Value} (h : c.heap.IsCell C o) (hk : KeepsBut L c c') (hCL : C ≠ L) : c'.heap.IsCell C o := let ⟨oc, e, r⟩ := h; ⟨oc, hk C oc hCL e, r⟩
theorem cell_ko {c c' : Shared} {C : Addr} {M : List Addr} {o : Option Value} (h : c.heap.IsCell C o) (hk : KeepsOff M c c') (hC : C ∉ M) : c'.heap.IsCell C o := let ⟨oc, e, r⟩ := h; ⟨oc, hk C oc hC e, r⟩
theorem ev_loc' {env : Env} {x : Str} {pos : Pos} {m : Str → Option Value} {c : Shared} {v : Value} (n : c.heap.Ns env.locals m) (hv : m x = some v) (hk : env.scope.kind = .function := by rfl) (hl : env.kindOf x = some .local := by rfl) (hd : (x == ("__debug__" : Str)) = false := by decide) {c' : Shared} (k : Keeps c c') :
    Ev prog w A c' (eval (.Name x pos) env) (fun u _ => u = v) := ev_loc (kp_ns k n) hv hk hl hd

set_option maxHeartbeats 4000000 in
theorem laid_call {t : List Nat} {nums : List Int} {v : Value} {ln : Addr} {nvs : List Value} {a : Addr} (B : Base mg mb s₀.heap) (R : Room A 4) (f : FnAt mg s₀.heap (stAt 8) a) (hv : IsS (txt t) v) (hn : s₀.heap.IsList ln nvs.toArray) (hp : Paired IsI nums nvs)
    (ht : t.length ≤ 10) (hnl : nums.length ≤ 1000) (hsz : ∀ e, e ≤ t.length → (Lr nums t e).length ≤ 1024) :
    Ev prog w A s₀ (call (.ref a) [v, .ref ln]) (fun r c => ∃ D out, r = .ref D ∧ c.heap.IsList D (List.toArray out) ∧ Paired (RowAt c.heap) (laidRows nums t) out) := by
  refine enterC B.lim (by have := R.depth; omega) f (binds := [(Str.ofString "text", v), (Str.ofString "numbers", .ref ln)]) (fun _ _ _ => rfl) fun pm code doc s L s₁ k ic => ?_
  have Bk : ∀ c', Keeps s c' → Base mg mb c'.heap := fun c' k' => B.keeps (kp_keep (kp_trans k k'))
  have R' : Room (A.deeper (fenvC (stAt 8) pm code doc L a)) 3 := R.deeper _
  have hh := R'.handled
  have i := ic.toInCall
  obtain ⟨C, hC⟩ : ∃ C : Addr, C = L + 1 := ⟨_, rfl⟩
  have hCl : (fenvC (stAt 8) pm code doc L a).cells.lookup (Str.ofString "number") = some C := by rw [hC]; rfl
  have hcell : s₁.heap.IsCell C none := by rw [hC]; exact ic.cell (Str.ofString "number") (L + 1) rfl
  have hCL : C ≠ L := by rw [hC]; exact Nat.ne_of_gt (Nat.lt_succ_self L)
  have hCs : s.heap.get? C = none := new_none (by rw [hC]; exact Nat.le_succ_of_le i.fresh)
  obtain ⟨m₀, hm₀⟩ : ∃ m₀, m₀ = bindL (fenvC (stAt 8) pm code doc L a).kindOf [(Str.ofString "text", v), (Str.ofString "numbers", .ref ln)] fun _ => none := ⟨_, rfl⟩
  rw [← hm₀] at i
  have mt : m₀ (Str.ofString "text") = some v := by rw [hm₀]; rfl
  have mn : m₀ (Str.ofString "numbers") = some (.ref ln) := by rw [hm₀]; rfl
  clear ic
  have lC1 : ∃ o, s₁.heap.get? C = some o := by obtain ⟨o, e, _⟩ := hcell; exact ⟨o, e⟩
  have lL1 : ∃ o, s₁.heap.get? L = some o := by obtain ⟨o, _, _, e, _⟩ := i.ns; exact ⟨o, e⟩
  -- shown = {}
  refine st_assign i rfl (P := fun r c => ∃ d, r = .ref d ∧ c.heap.DictOf (strKind prog w) d [] ∧ s₁.heap.get? d = none ∧ ∀ b o, s₁.heap.get? b = some o → @LT.lt Nat instLTNat b d) ev_Dict0 fun vd c₁ c₂ k₁ hd i₂ kb₂ => ?_
  obtain ⟨d, rfl, hd, hdn, hdl⟩ := hd
  have hdsys : (d == sysModules) = false := by
    obtain ⟨o, _, _, e, _⟩ := (Bk s₁ (InCall.keeps i)).g
    have := hdl _ _ e
    have h3 : @LT.lt Nat instLTNat 3 d := this
    rw [beq_eq_false_iff_ne]
    intro q
    have q : @Eq Nat d 1 := q
    omega
  have hdL : d ≠ L := fun q => by obtain ⟨o, e⟩ := lL1; rw [← q, hdn] at e; cases e
  have hdC : d ≠ C := fun q => by obtain ⟨o, e⟩ := lC1; rw [← q, hdn] at e; cases e
  obtain ⟨m₂, i₂, e2, o2⟩ := InCall.gen i₂
  have hcell2 : c₂.heap.IsCell C none := by
    obtain ⟨o, e, r⟩ := hcell
    exact ⟨o, kb₂ C o hCL (kp_get k₁ e), r⟩
  have S2 : ShownAt prog w s [L, C] c₂.heap d [] := by
    refine ⟨?_, (fun x hx => by cases hx), (fun x hx => by cases hx), List.nodup_nil, ?_, none_of (InCall.keeps i) hdn⟩
    · obtain ⟨o, es, ep, ho, r⟩ := hd
      exact ⟨o, es, ep, kb₂ d o hdL ho, r⟩
    · simp only [List.mem_cons, List.not_mem_nil, or_false, not_or]
      exact ⟨hdL, hdC⟩
  have ks2 := InCall.keeps i₂
  have hn2 : c₂.heap.IsList ln nvs.toArray := hn.at fun o e => kp_get (kp_trans k ks2) e
  have lns : ∃ o, s.heap.get? ln = some o := by obtain ⟨o, e, _⟩ := hn; exact ⟨o, kp_get k e⟩
  -- for number in numbers
  refine st_for2 (n := nvs.length) (F := [ln]) (fun X Y j c => ∃ ls o, InCall s L m₂ c ∧ c.heap.IsCell C o ∧ L ∉ X ∧ C ∉ X ∧ d ∉ X ∧ ShownAt prog w s (L :: C :: X) c.heap d ls ∧ ls.length ≤ j ∧ (∀ y ∈ ls, y.2.2.length ≤ j) ∧ ∀ wd : Str, Paired IsI (sh (nums.take j) wd.cps.toList) (lookS ls wd))
    (src_list (x := Str.ofString "number") hh ((ev_loc i₂.ns ((o2 _ (by decide)).trans mn)).mono fun r c' kc hr => ⟨ln, hr, hn2.at fun o e => kp_get kc e, Or.inr (by simp)⟩)) ?_ ?_ ?_ ?_
  · intro X Y c' hY hX hYX k'
    have out : ∀ b, (∃ o, c₂.heap.get? b = some o) → s.heap.get? b = none → b ∉ X := fun b ⟨o, e⟩ hs hb => by
      rcases hX b hb with q | q
      · rw [q] at e; cases e
      · simp only [List.mem_cons, List.not_mem_nil, or_false] at q
        obtain ⟨o', e'⟩ := lns
        rw [q, e'] at hs; cases hs
    have sL : s.heap.get? L = none := new_none i.fresh
    have lL2 : ∃ o, c₂.heap.get? L = some o := by obtain ⟨o, _, _, e, _⟩ := i₂.ns; exact ⟨o, e⟩
    have lC2 : ∃ o, c₂.heap.get? C = some o := by obtain ⟨o, e, _⟩ := hcell2; exact ⟨o, e⟩
    have hLX := out L lL2 sL
    have hCX := out C lC2 hCs
    have hdX := out d S2.live.1 S2.dM.2
    refine ⟨[], none, InCall.kp i₂ k', hcell2.keeps (kp_keep k'), hLX, hCX, hdX, ?_, Nat.le_refl _, (fun y hy => by cases hy), fun wd => by simpa [sh, lookS] using Paired.nil⟩
    refine (ShownAt.keeps (M := L :: C :: X) ⟨S2.dict, S2.lists, (fun x hx => by cases hx), S2.nodup, ?_, S2.dM.2⟩ fun b o _ e => kp_get k' e)
    simp only [List.mem_cons, not_or]
    exact ⟨hdL, hdC, hdX⟩
  · rintro X Y j c c' hY hYX ⟨ls, o, i', g1, g2, g3, g4, g5, g6, g7, g8⟩ he hk
    refine ⟨ls, o, InCall.off i' (fun q => g2 (hYX _ q)) (fun q hq => none_of ks2 (hY q hq)) he hk, ?_, g2, g3, g4, g5.keeps fun b o hb e => hk b o (fun q => hb (.tail _ (.tail _ (hYX _ q)))) e, g6, g7, g8⟩
    obtain ⟨oc, e, r⟩ := g1
    exact ⟨oc, hk C oc (fun q => g3 (hYX _ q)) e, r⟩
  · rintro X Y j c x hj hY hXl ⟨ls, o, i', g1, g2, g3, g4, g5, g6, g7, g8⟩ hx
    obtain ⟨n, hnj, hxn⟩ := paired_get hp hx
    refine wpAny_assign_Name (st_storeC (env := fenvC (stAt 8) pm code doc L a) i' hCl g1 hCL hCs fun c₃ i₃ hc₃ kb₃ => ?_)
    have S3 : ShownAt prog w s (L :: C :: X) c₃.heap d ls := g5.keeps fun b o hb e => kb₃ b o (fun q => hb (by rw [q]; exact .tail _ (.head _))) e
    have B₃ := Bk c₃ (InCall.keeps i₃)
    obtain ⟨a3, f3⟩ := B₃.fn 3 (by decide)
    obtain ⟨o3, _, _, _, q1, q2, q3, _⟩ := id f3
    have en : ∀ (c' : Shared) pos, c'.heap.IsCell C (some x) → Ev prog w (A.deeper (fenvC (stAt 8) pm code doc L a)) c' (eval (.Name (Str.ofString "number") pos) (fenvC (stAt 8) pm code doc L a)) (fun r _ => r = x) := fun c' pos hc => ev_cell hCl hc
    have lM3 : ∀ b ∈ L :: C :: X, ∃ o, c₃.heap.get? b = some o := by
      intro b hb
      simp only [List.mem_cons] at hb
      rcases hb with rfl | rfl | hb
      · obtain ⟨o, _, _, e, _⟩ := i₃.ns; exact ⟨o, e⟩
      · obtain ⟨o, e, _⟩ := hc₃; exact ⟨o, e⟩
      · obtain ⟨o, e⟩ := hXl b hb; exact ⟨o, kb₃ b o (fun q => g3 (q ▸ hb)) e⟩
    have hjn : j < nums.length := by rw [hp.length]; exact hj
    refine st_setapp (p := fun r => r = x) (x := unc n) (j := j) i₃ S3 hdsys (.head _) lM3 (by omega) g7 (by omega) (ev_loc i₃.ns e2) (ev_callF (ev_glob B₃.g q1) q2 q3 (en _ _ hc₃) fun r s₂ k₂ hr => ?_) (fun c' hk' => ?_) fun r c₄ ls' hr i₄ S4 hlook hll hlen4 hko => wpAny_execs_nil ⟨?_, ?_⟩
    · subst hr
      exact unctrl_call (B₃.keeps (kp_keep k₂)) R' (f3.keeps (kp_keep k₂)) (Or.inl hxn)
    · obtain ⟨oc, e, r⟩ := hc₃
      exact en c' _ ⟨oc, hk' C oc (Ne.symm hdC) e, r⟩
    · subst hr
      refine ⟨ls', some r, i₄, ?_, g2, g3, g4, S4, by omega, hlen4, fun wd => ?_⟩
      · obtain ⟨oc, e, r'⟩ := hc₃
        refine ⟨oc, hko C oc ?_ e, r'⟩
        simp only [List.mem_cons, not_or, List.mem_map, not_exists, not_and]
        exact ⟨Ne.symm hdC, fun y hy q => (S3.off y hy).1 (by rw [q]; exact .tail _ (.head _))⟩
      · have htk : nums.take (j + 1) = nums.take j ++ [n] := by
          obtain ⟨h1, h2⟩ := List.getElem?_eq_some_iff.mp hnj
          rw [List.take_succ_eq_append_getElem h1, h2]
        rw [htk, sh_snoc, hlook]
        by_cases hwd : wd = unc n
        · rw [if_pos hwd, if_pos (by rw [hwd]; rfl)]
          exact paired_snoc (g8 wd) hxn
        · have : ¬ wd.cps.toList = us n := fun q => hwd (Str.ext' (by unfold us at q; exact Array.toList_inj.mp q))
          rw [if_neg hwd, if_neg this]
          exact g8 wd
    · intro b hb o e
      refine hko b o ?_ (kb₃ b o (fun q => g3 (q ▸ hb)) e)
      simp only [List.mem_cons, not_or, List.mem_map, not_exists, not_and]
      exact ⟨fun q => g4 (q ▸ hb), fun y hy q => (S3.off y hy).1 (by rw [q]; exact .tail _ (.tail _ hb))⟩
  · rintro X₀ Y₀ c hY₀ ⟨ls, oc, i₅, g1, g2, g3, g4, g5, g6, g7, g8⟩
    clear hY₀ g2 g3 g4
    have S5 : ShownAt prog w s [L, C] c.heap d ls := g5.less fun q hq => by
      simp only [List.mem_cons, List.not_mem_nil, or_false] at hq
      rcases hq with rfl | rfl
      · exact .head _
      · exact .tail _ (.head _)
    clear g5
    have hshow : ∀ wd : Str, Paired IsI (sh nums wd.cps.toList) (lookS ls wd) := fun wd => by
      have := g8 wd
      rwa [List.take_of_length_le (by rw [hp.length]; omega)] at this
    have lL5 : ∃ o, c.heap.get? L = some o := by obtain ⟨o, _, _, e, _⟩ := i₅.ns; exact ⟨o, e⟩
    have lC5 : ∃ o, c.heap.get? C = some o := by obtain ⟨o, e, _⟩ := g1; exact ⟨o, e⟩
    have notLC : ∀ q, c.heap.get? q = none → q ∉ [L, C] := fun q hq hm => by
      simp only [List.mem_cons, List.not_mem_nil, or_false] at hm
      rcases hm with rfl | rfl
      · obtain ⟨o, e⟩ := lL5; rw [hq] at e; cases e
      · obtain ⟨o, e⟩ := lC5; rw [hq] at e; cases e
    -- rows = [[[]]]
    refine st_assign i₅ rfl (P := fun r c' => ∃ Dr x, r = .ref Dr ∧ c'.heap.PlainList Dr #[x] ∧ LvM [Dr, L, C] c'.heap [[]] x ∧ c.heap.get? Dr = none) ((ev_List1n (P := fun x c' => LvM [L, C] c'.heap [[]] x) ((ev_List1 (P := fun x c' => RowM [L, C] c'.heap [] x) (ev_List0.mono fun x c' kc hx => ?_) (fun x s s' k hx => hx.keeps fun b o _ e => kp_get k e)).mono fun x c' kc hx => ?_)).mono fun r c' kc hr => ?_) fun vr c₆ c₇ k₆ hr i₇ kb₇ => ?_
    · obtain ⟨l, rfl, hl, hn⟩ := hx
      exact ⟨l, [], rfl, notLC l hn, hl.isList, .nil⟩
    · obtain ⟨l, y, rfl, hl, hy, hn⟩ := hx
      exact ⟨l, [y], rfl, notLC l hn, hl.isList, .cons hy .nil⟩
    · obtain ⟨l, x, s₂, rfl, hl, hx, k1, k2, hn⟩ := hr
      refine ⟨l, x, rfl, hl, (hx.more (X := [l]) fun q hq => ?_).keeps fun b o _ e => kp_get k2 e, none_of k1 hn⟩
      simp only [List.mem_cons, List.not_mem_nil, or_false] at hq
      rw [hq]; exact hn
    obtain ⟨Dr, x₀, rfl, hDr, hx₀, hDrn⟩ := hr
    obtain ⟨m₇, i₇, e7, o7⟩ := InCall.gen i₇
    have nm7 : Nm m₇ v d Dr := ⟨(o7 _ (by decide)).trans ((o2 _ (by decide)).trans mt), (o7 _ (by decide)).trans e2, e7⟩
    have hDrL : Dr ≠ L := fun q => by obtain ⟨o, e⟩ := lL5; rw [← q, hDrn] at e; cases e
    have hDrC : Dr ≠ C := fun q => by obtain ⟨o, e⟩ := lC5; rw [← q, hDrn] at e; cases e
    have hcell7 : c₇.heap.IsCell C oc := cell_kb (g1.keeps (kp_keep k₆)) kb₇ hCL
    have hDr7 : c₇.heap.PlainList Dr #[x₀] := hDr.at fun o e => kb₇ _ o hDrL e
    have hx7 : LvM [Dr, L, C] c₇.heap [[]] x₀ := hx₀.keeps fun b o hb e => kb₇ b o (fun q => hb (by rw [q]; exact .tail _ (.head _))) e
    have S7 : ShownAt prog w s [Dr, L, C] c₇.heap d ls := (S5.more (X := [Dr]) fun q hq => by
      simp only [List.mem_cons, List.not_mem_nil, or_false] at hq
      rw [hq]; exact hDrn).keeps fun b o hb e => kb₇ b o (fun q => hb (by rw [q]; exact .tail _ (.head _))) (kp_get k₆ e)
    have hDrs : s.heap.get? Dr = none := none_of (InCall.keeps i₅) hDrn
    have ks7 := InCall.keeps i₇
    have lL7 : ∃ o, c₇.heap.get? L = some o := by obtain ⟨o, _, _, e, _⟩ := i₇.ns; exact ⟨o, e⟩
    have lC7 : ∃ o, c₇.heap.get? C = some o := by obtain ⟨o, e, _⟩ := hcell7; exact ⟨o, e⟩
    have lD7 : ∃ o, c₇.heap.get? Dr = some o := by obtain ⟨n, e⟩ := hDr7; exact ⟨_, e⟩
    have tl : (txt t).length = t.length := by show t.toArray.size = _; simp
    have tn : ((t.length : Int) + 1 - 1).toNat = t.length := by omega
    -- for end in range(1, len(text) + 1)
    refine st_for (n := ((t.length : Int) + 1 - 1).toNat) (F := []) [L, C, Dr] (fun X j c => ∃ m ws o, InCall s L m c ∧ Nm m v d Dr ∧ c.heap.IsCell C o ∧ ShownAt prog w s (Dr :: L :: C :: X) c.heap d ls ∧ c.heap.PlainList Dr (List.toArray ws) ∧ Paired (LvM (Dr :: L :: C :: X) c.heap) (tab nums t j) ws)
      (src_range (x := Str.ofString "end") (a := 1) (n := (t.length : Int) + 1) hh (by decide) (by omega) (by omega) (ev_callT2 (p1 := IsI 1) (p2 := IsI ((t.length : Int) + 1)) (ev_bname (Bk _ ks7) (by decide) bt_range) ev_int (ev_add (ev_call1 (ev_bname (Bk _ ks7) (by decide) bt_len) ((ev_loc i₇.ns nm7.text).mono fun _ _ _ e => e ▸ hv) fun r s₂ k₂ hr => (ev_lenS hr (by rw [tl]; omega)).mono fun _ _ _ h => by rwa [tl] at h) ev_int) fun x y hx hy => ev_range2 hx hy)) ?_ ?_ ?_ ?_ ?_
    · intro q hq
      simp only [List.mem_cons, List.not_mem_nil, or_false] at hq
      refine ⟨by simp, ?_⟩
      rcases hq with rfl | rfl | rfl
      · exact lL7
      · exact lC7
      · exact lD7
    · intro X c' hX k'
      have lessM : ∀ q, q ∈ Dr :: L :: C :: X → q ∈ X ++ [Dr, L, C] := fun q hq => by
        simp only [List.mem_cons, List.mem_append, List.not_mem_nil, or_false] at hq ⊢
        rcases hq with h | h | h | h
        · exact Or.inr (Or.inl h)
        · exact Or.inr (Or.inr (Or.inl h))
        · exact Or.inr (Or.inr (Or.inr h))
        · exact Or.inl h
      exact ⟨m₇, [x₀], oc, InCall.kp i₇ k', nm7, hcell7.keeps (kp_keep k'), ((S7.more hX).less lessM).keeps fun b o _ e => kp_get k' e, hDr7.at fun o e => kp_get k' e, .cons (((hx7.more hX).less lessM).keeps fun b o _ e => kp_get k' e) .nil⟩
    · rintro X j c c' hX ⟨m, ws, o, i', h1, h2, h3, h4, h5⟩ he hk
      have nX : ∀ q, (∃ o, c₇.heap.get? q = some o) → q ∉ X := fun q ⟨o, e⟩ hq => by rw [hX q hq] at e; cases e
      have kk : ∀ b o, b ∉ Dr :: L :: C :: X → c.heap.get? b = some o → c'.heap.get? b = some o := fun b o hb e => hk b o (fun q => hb (.tail _ (.tail _ (.tail _ q)))) e
      exact ⟨m, ws, o, InCall.off i' (nX L lL7) (fun q hq => none_of ks7 (hX q hq)) he hk, h1, cell_ko h2 hk (nX C lC7), h3.keeps kk, h4.at fun o e => hk _ o (nX Dr lD7) e, paired_mono h5 fun _ _ r => r.keeps kk⟩
    · rintro X j c x hj hX hXl ⟨m, ws, o, i', h1, h2, h3, h4, h5⟩ hx
      have hjt : j < t.length := by omega
      have nX : ∀ q, (∃ o, c₇.heap.get? q = some o) → q ∉ X := fun q ⟨o, e⟩ hq => by rw [hX q hq] at e; cases e
      have hLX := nX L lL7
      have hCX := nX C lC7
      refine wpAny_assign_Name (st_store i' rfl fun c₈ i₈ kb₈ => ?_)
      obtain ⟨m₈, i₈, e8, o8⟩ := InCall.gen i₈
      have nm8 := h1.of o8
      have kM8 : ∀ b o, b ∉ Dr :: L :: C :: X → c.heap.get? b = some o → c₈.heap.get? b = some o := fun b o hb e => kb₈ b o (fun q => hb (by rw [q]; exact .tail _ (.head _))) e
      have cell8 := cell_kb h2 kb₈ hCL
      -- ending = []
      refine st_assign i₈ rfl (P := fun r c' => ∃ De, r = .ref De ∧ c'.heap.PlainList De #[] ∧ c₈.heap.get? De = none) ev_List0 fun ve c₉ c₁₀ k₉ he i₁₀ kb₁₀ => ?_
      obtain ⟨De, rfl, hDe, hDen⟩ := he
      obtain ⟨m₁₀, i₁₀, e10, o10⟩ := InCall.gen i₁₀
      have nm10 := nm8.of o10
      have lL8 : ∃ o, c₈.heap.get? L = some o := by obtain ⟨o, _, _, e, _⟩ := i₈.ns; exact ⟨o, e⟩
      have lC8 : ∃ o, c₈.heap.get? C = some o := by obtain ⟨o, e, _⟩ := cell8; exact ⟨o, e⟩
      have lX8 : ∀ b ∈ X, ∃ o, c₈.heap.get? b = some o := fun b hb => by
        obtain ⟨o, e⟩ := hXl b hb
        exact ⟨o, kb₈ b o (fun q => hLX (q ▸ hb)) e⟩
      have hDr8 : c₈.heap.PlainList Dr (List.toArray ws) := h4.at fun o e => kb₈ _ o hDrL e
      have fr8 : ∀ b, (∃ o, c₈.heap.get? b = some o) → De ≠ b := fun b ⟨o, e⟩ q => by rw [← q, hDen] at e; cases e
      have hDeL := fr8 L lL8
      have hDeC := fr8 C lC8
      have hDeDr : De ≠ Dr := fr8 Dr (by obtain ⟨n, e⟩ := hDr8; exact ⟨_, e⟩)
      have hDeX : De ∉ X := fun q => fr8 De (lX8 De q) rfl
      have hDes : s.heap.get? De = none := none_of (InCall.keeps i₈) hDen
      have k810 : ∀ b o, b ≠ L → c₈.heap.get? b = some o → c₁₀.heap.get? b = some o := fun b o hb e => kb₁₀ b o hb (kp_get k₉ e)
      have De1 : ∀ q ∈ [De], c₈.heap.get? q = none := fun q hq => by
        simp only [List.mem_cons, List.not_mem_nil, or_false] at hq
        rw [hq]; exact hDen
      have kM10 : ∀ b o, b ∉ De :: Dr :: L :: C :: X → c₈.heap.get? b = some o → c₁₀.heap.get? b = some o := fun b o hb e => k810 b o (fun q => hb (by rw [q]; exact .tail _ (.tail _ (.head _)))) e
      have S10 : ShownAt prog w s (De :: Dr :: L :: C :: X) c₁₀.heap d ls := ((h3.keeps kM8).more De1).keeps kM10
      have P10 : Paired (LvM (De :: Dr :: L :: C :: X) c₁₀.heap) (tab nums t j) ws := paired_mono h5 fun _ _ r => ((r.keeps kM8).more De1).keeps kM10
      have Dr10 : c₁₀.heap.PlainList Dr (List.toArray ws) := hDr8.at fun o e => k810 _ o hDrL e
      have De10 : c₁₀.heap.PlainList De #[] := hDe.at fun o e => kb₁₀ _ o hDeL e
      have cell10 : c₁₀.heap.IsCell C o := cell_kb (cell8.keeps (kp_keep k₉)) kb₁₀ hCL
      have lX10 : ∀ b ∈ X, ∃ o, c₁₀.heap.get? b = some o := fun b hb => by
        obtain ⟨o, e⟩ := lX8 b hb
        exact ⟨o, k810 b o (fun q => hLX (q ▸ hb)) e⟩
      have lL10 : ∃ o, c₁₀.heap.get? L = some o := by obtain ⟨o, _, _, e, _⟩ := i₁₀.ns; exact ⟨o, e⟩
      have lC10 : ∃ o, c₁₀.heap.get? C = some o := by obtain ⟨o, e, _⟩ := cell10; exact ⟨o, e⟩
      have lDe10 : ∃ o, c₁₀.heap.get? De = some o := by obtain ⟨n, e⟩ := De10; exact ⟨_, e⟩
      have lDr10 : ∃ o, c₁₀.heap.get? Dr = some o := by obtain ⟨n, e⟩ := Dr10; exact ⟨_, e⟩
      have ks10 := InCall.keeps i₁₀
      have jn : (1 + (j : Int) - 0).toNat = j + 1 := by omega
      have hwl : ws.length = j + 1 := by rw [← h5.length, tab_len]
      have hLr : Lr nums t (j + 1) = (List.range (j + 1)).flatMap (cellRows nums t (tab nums t j) (j + 1)) := by rw [Lr_ending]; rfl
      have hLb := hsz (j + 1) (by omega)
      -- for start in range(end)
      refine st_for (n := (1 + (j : Int) - 0).toNat) (F := []) [L, C, De] (fun Y q c' => ∃ m' ys o', InCall s L m' c' ∧ Nm m' v d Dr ∧ m' (Str.ofString "end") = some x ∧ m' (Str.ofString "ending") = some (.ref De) ∧ c'.heap.IsCell C o' ∧ ShownAt prog w s (De :: Dr :: L :: C :: (Y ++ X)) c'.heap d ls ∧ c'.heap.PlainList Dr (List.toArray ws) ∧
          Paired (LvM (De :: Dr :: L :: C :: (Y ++ X)) c'.heap) (tab nums t j) ws ∧ c'.heap.PlainList De (List.toArray ys) ∧ Paired (RowM (De :: Dr :: L :: C :: (Y ++ X)) c'.heap) (((List.range (j + 1)).take q).flatMap (cellRows nums t (tab nums t j) (j + 1))) ys ∧ KeepsOff [L, C, De] c₁₀ c')
        (src_range (x := Str.ofString "start") (a := 0) (n := 1 + (j : Int)) hh (by decide) (by omega) (by omega) (ev_callT (ev_bname (Bk _ ks10) (by decide) bt_range) (ev_loc i₁₀.ns ((o10 _ (by decide)).trans e8)) fun r s₂ k₂ hr => by
          subst hr; exact ev_range1 hx)) ?_ ?_ ?_ ?_ ?_
      · intro q hq
        simp only [List.mem_cons, List.not_mem_nil, or_false] at hq
        refine ⟨by simp, ?_⟩
        rcases hq with rfl | rfl | rfl
        · exact lL10
        · exact lC10
        · exact lDe10
      · intro Y c' hY k'
        have lessM : ∀ q, q ∈ De :: Dr :: L :: C :: (Y ++ X) → q ∈ Y ++ (De :: Dr :: L :: C :: X) := fun q hq => by
          simp only [List.mem_cons, List.mem_append] at hq ⊢
          rcases hq with h | h | h | h | h | h
          · exact Or.inr (Or.inl h)
          · exact Or.inr (Or.inr (Or.inl h))
          · exact Or.inr (Or.inr (Or.inr (Or.inl h)))
          · exact Or.inr (Or.inr (Or.inr (Or.inr (Or.inl h))))
          · exact Or.inl h
          · exact Or.inr (Or.inr (Or.inr (Or.inr (Or.inr h))))
        exact ⟨m₁₀, [], o, InCall.kp i₁₀ k', nm10, (o10 _ (by decide)).trans e8, e10, cell10.keeps (kp_keep k'), ((S10.more hY).less lessM).keeps fun b o _ e => kp_get k' e, Dr10.at fun o e => kp_get k' e, paired_mono P10 fun _ _ r => ((r.more hY).less lessM).keeps fun b o _ e => kp_get k' e, De10.at fun o e => kp_get k' e, by simpa using Paired.nil, ko_kp k'⟩
      · rintro Y q c' c'' hY ⟨m', ys, o', i6, g1, g2, g3, g4, g5, g6, g7, g8, g9, g10⟩ he hk
        have nY : ∀ q, (∃ o, c₁₀.heap.get? q = some o) → q ∉ Y := fun q ⟨o, e⟩ hq => by rw [hY q hq] at e; cases e
        have kk : ∀ b o, b ∉ De :: Dr :: L :: C :: (Y ++ X) → c'.heap.get? b = some o → c''.heap.get? b = some o := fun b o hb e => hk b o (fun q => hb (.tail _ (.tail _ (.tail _ (.tail _ (List.mem_append_left _ q)))))) e
        exact ⟨m', ys, o', InCall.off i6 (nY L lL10) (fun q hq => none_of ks10 (hY q hq)) he hk, g1, g2, g3, cell_ko g4 hk (nY C lC10), g5.keeps kk, g6.at fun o e => hk _ o (nY Dr lDr10) e, paired_mono g7 fun _ _ r => r.keeps kk, g8.at fun o e => hk _ o (nY De lDe10) e, paired_mono g9 fun _ _ r => r.keeps kk,
          fun b o hb e => hk b o (nY b ⟨o, e⟩) (g10 b o hb e)⟩
      · rintro Y q c' x' hq hY hYl ⟨m', ys, o', i6, g1, g2, g3, g4, g5, g6, g7, g8, g9, g10⟩ hx'
        have hqj : q < j + 1 := by omega
        have nY : ∀ q, (∃ o, c₁₀.heap.get? q = some o) → q ∉ Y := fun q ⟨o, e⟩ hq => by rw [hY q hq] at e; cases e
        refine wpAny_assign_Name (st_store i6 rfl fun c₁₁ i₁₁ kb₁₁ => ?_)
        obtain ⟨m₁₁, i₁₁, e11, o11⟩ := InCall.gen i₁₁
        have nm11 := g1.of o11
        have n11e : m₁₁ (Str.ofString "end") = some x := (o11 _ (by decide)).trans g2
        have n11g : m₁₁ (Str.ofString "ending") = some (.ref De) := (o11 _ (by decide)).trans g3
        obtain ⟨My, hMy⟩ : ∃ My, My = De :: Dr :: L :: C :: (Y ++ X) := ⟨_, rfl⟩
        rw [← hMy] at g5 g7 g9
        have LMy : L ∈ My := by rw [hMy]; exact .tail _ (.tail _ (.head _))
        have CMy : C ∈ My := by rw [hMy]; exact .tail _ (.tail _ (.tail _ (.head _)))
        have DMy : De ∈ My := by rw [hMy]; exact .head _
        have kM11 : ∀ b o, b ∉ My → c'.heap.get? b = some o → c₁₁.heap.get? b = some o := fun b o hb e => kb₁₁ b o (fun q => hb (q ▸ LMy)) e
        have S11 := g5.keeps kM11
        have P11 : Paired (LvM My c₁₁.heap) (tab nums t j) ws := paired_mono g7 fun _ _ r => r.keeps kM11
        have R11 : Paired (RowM My c₁₁.heap) (((List.range (j + 1)).take q).flatMap (cellRows nums t (tab nums t j) (j + 1))) ys := paired_mono g9 fun _ _ r => r.keeps kM11
        have Dr11 : c₁₁.heap.PlainList Dr (List.toArray ws) := g6.at fun o e => kb₁₁ _ o hDrL e
        have De11 : c₁₁.heap.PlainList De (List.toArray ys) := g8.at fun o e => kb₁₁ _ o hDeL e
        have cell11 := cell_kb g4 kb₁₁ hCL
        have lL11 : ∃ o, c₁₁.heap.get? L = some o := by obtain ⟨o, _, _, e, _⟩ := i₁₁.ns; exact ⟨o, e⟩
        have lC11 : ∃ o, c₁₁.heap.get? C = some o := by obtain ⟨o, e, _⟩ := cell11; exact ⟨o, e⟩
        have lDe11 : ∃ o, c₁₁.heap.get? De = some o := by obtain ⟨n, e⟩ := De11; exact ⟨_, e⟩
        have lDr11 : ∃ o, c₁₁.heap.get? Dr = some o := by obtain ⟨n, e⟩ := Dr11; exact ⟨_, e⟩
        have lM11 : ∀ b ∈ My, ∃ o, c₁₁.heap.get? b = some o := by
          intro b hb
          rw [hMy] at hb
          simp only [List.mem_cons, List.mem_append] at hb
          rcases hb with rfl | rfl | rfl | rfl | hb | hb
          · exact lDe11
          · exact lDr11
          · exact lL11
          · exact lC11
          · obtain ⟨o, e⟩ := hYl b hb
            exact ⟨o, kb₁₁ b o (fun q => nY L lL10 (q ▸ hb)) e⟩
          · obtain ⟨o, e⟩ := lX10 b hb
            refine ⟨o, kb₁₁ b o (fun q => hLX (q ▸ hb)) (g10 b o ?_ e)⟩
            simp only [List.mem_cons, List.not_mem_nil, or_false, not_or]
            exact ⟨fun q => hLX (q ▸ hb), fun q => hCX (q ▸ hb), fun q => hDeX (q ▸ hb)⟩
        have ks11 := InCall.keeps i₁₁
        -- the place of the rows that start there
        obtain ⟨y, hy⟩ : ∃ y, ws[q]? = some y := ⟨_, List.getElem?_eq_getElem (by omega)⟩
        obtain ⟨rws, hrw, lq, us₁, rfl, hlqM, hlq, hus⟩ := paired_get P11 hy
        have hrwD : (tab nums t j).getD q [] = rws := by rw [List.getD_eq_getElem?_getD, hrw]; rfl
        have hrwL : rws = Lr nums t q := by rw [← hrwD]; exact tab_get (by omega)
        have hrwb : rws.length ≤ 1024 := by rw [hrwL]; exact hsz q (by omega)
        obtain ⟨wl, hwl'⟩ : ∃ wl, wl = part t q (j + 1) := ⟨_, rfl⟩
        obtain ⟨base, hbase⟩ : ∃ base, base = ((List.range (j + 1)).take q).flatMap (cellRows nums t (tab nums t j) (j + 1)) := ⟨_, rfl⟩
        rw [← hbase] at R11
        have hcell : cellRows nums t (tab nums t j) (j + 1) q = (sh nums wl).flatMap fun n => rws.map (· ++ [n]) := by unfold cellRows; rw [hrwD, hwl']
        have hnext : ((List.range (j + 1)).take (q + 1)).flatMap (cellRows nums t (tab nums t j) (j + 1)) = base ++ (sh nums wl).flatMap fun n => rws.map (· ++ [n]) := by
          rw [take_flat (f := cellRows nums t (tab nums t j) (j + 1)) (a := q) (by rw [List.getElem?_range hqj]), ← hbase, hcell]
        have hbound : ∀ r, (base ++ ((sh nums wl).take r).flatMap fun n => rws.map (· ++ [n])).length ≤ 1024 := fun r => by
          have b1 := take_flat_len (List.range (j + 1)) (cellRows nums t (tab nums t j) (j + 1)) (q + 1)
          rw [← hLr, hnext, List.length_append] at b1
          have b2 := take_flat_len (sh nums wl) (fun n => rws.map (· ++ [n])) r
          rw [List.length_append]; omega
        have hwdl : (txt wl).cps.toList = wl := by show wl.toArray.toList = _; simp
        have hshw : Paired IsI (sh nums wl) (lookS ls (txt wl)) := by have := hshow (txt wl); rwa [hwdl] at this
        have eslice : ∀ (c : Shared) p1 p2 p3 p4 p5, Keeps c₁₁ c → Ev prog w (A.deeper (fenvC (stAt 8) pm code doc L a)) c (eval (.Subscript (.Name (Str.ofString "text") p1) (.Slice (some (.Name (Str.ofString "start") p2)) (some (.Name (Str.ofString "end") p3)) none p4) p5) (fenvC (stAt 8) pm code doc L a)) (fun r _ => IsS (txt wl) r) := fun c p1 p2 p3 p4 p5 kc => by
          have := ev_sliceS2 (prog := prog) (w := w) (A := A.deeper (fenvC (stAt 8) pm code doc L a)) (s₀ := c) (env := fenvC (stAt 8) pm code doc L a) (pos := p5) (p := p4) (x := txt t) (i := 0 + (q : Int)) (j := 1 + (j : Int))
            ((ev_loc' (pos := p1) i₁₁.ns nm11.text (k := kc)).mono fun _ _ _ e => e ▸ hv) ((ev_loc' (pos := p2) i₁₁.ns e11 (k := kc)).mono fun _ _ _ e => e ▸ hx') ((ev_loc' (pos := p3) i₁₁.ns n11e (k := kc)).mono fun _ _ _ e => e ▸ hx) (by rw [tl, sizeLine_eq]; omega)
          have e1 : (0 + (q : Int)) = ((q : Nat) : Int) := by omega
          have e2 : (1 + (j : Int)) = ((j + 1 : Nat) : Int) := by omega
          rw [e1, e2, slice_part (by omega) (by omega), ← hwl'] at this
          exact this
        -- for number in shown.get(text[start:end], [])
        refine st_for (n := (lookS ls (txt wl)).length) (F := ls.map (·.2.1)) [L, C, De] (fun Z r c'' => ∃ ys o', InCall s L m₁₁ c'' ∧ c''.heap.IsCell C o' ∧ ShownAt prog w s (Z ++ My) c''.heap d ls ∧ c''.heap.PlainList Dr (List.toArray ws) ∧ Paired (LvM (Z ++ My) c''.heap) (tab nums t j) ws ∧
            c''.heap.PlainList De (List.toArray ys) ∧ Paired (RowM (Z ++ My) c''.heap) (base ++ ((sh nums wl).take r).flatMap fun n => rws.map (· ++ [n])) ys ∧ KeepsOff [L, C, De] c₁₁ c'')
          (src_list (x := Str.ofString "number") hh (ev_getS S11 hdsys (ev_loc i₁₁.ns nm11.shown) (eslice _ _ _ _ _ _ (kp_refl _)))) ?_ ?_ ?_ ?_ ?_
        · intro b hb
          have hoff : b ∈ My → b ∉ ls.map (·.2.1) := fun hb hm => by
            obtain ⟨z, hz, rfl⟩ := List.mem_map.mp hm
            exact (S11.off z hz).1 hb
          simp only [List.mem_cons, List.not_mem_nil, or_false] at hb
          rcases hb with rfl | rfl | rfl
          · exact ⟨hoff LMy, lL11⟩
          · exact ⟨hoff CMy, lC11⟩
          · exact ⟨hoff DMy, lDe11⟩
        · intro Z c'' hZ k'
          exact ⟨ys, o', InCall.kp i₁₁ k', cell11.keeps (kp_keep k'), (S11.more hZ).keeps fun b o _ e => kp_get k' e, Dr11.at fun o e => kp_get k' e, paired_mono P11 fun _ _ r => (r.more hZ).keeps fun b o _ e => kp_get k' e, De11.at fun o e => kp_get k' e, by
            rw [List.take_zero, List.flatMap_nil, List.append_nil]
            exact paired_mono R11 fun _ _ r => (r.more hZ).keeps fun b o _ e => kp_get k' e, ko_kp k'⟩
        · rintro Z r a₁ a₂ hZ ⟨ys, o', b1, b2, b3, b4, b5, b6, b7, b8⟩ he hk
          have nZ : ∀ q, (∃ o, c₁₁.heap.get? q = some o) → q ∉ Z := fun q ⟨o, e⟩ hq => by rw [hZ q hq] at e; cases e
          have kk : ∀ b o, b ∉ Z ++ My → a₁.heap.get? b = some o → a₂.heap.get? b = some o := fun b o hb e => hk b o (fun q => hb (List.mem_append_left _ q)) e
          exact ⟨ys, o', InCall.off b1 (nZ L lL11) (fun q hq => none_of ks11 (hZ q hq)) he hk, cell_ko b2 hk (nZ C lC11), b3.keeps kk, b4.at fun o e => hk _ o (nZ Dr lDr11) e, paired_mono b5 fun _ _ r => r.keeps kk, b6.at fun o e => hk _ o (nZ De lDe11) e, paired_mono b7 fun _ _ r => r.keeps kk,
            fun b o hb e => hk b o (nZ b ⟨o, e⟩) (b8 b o hb e)⟩
        · rintro Z r a₁ y hr hZ hZl ⟨ys, o', b1, b2, b3, b4, b5, b6, b7, b8⟩ hyr
          obtain ⟨n, hn', hyn⟩ := paired_get hshw hyr
          have nZ : ∀ q, (∃ o, c₁₁.heap.get? q = some o) → q ∉ Z := fun q ⟨o, e⟩ hq => by rw [hZ q hq] at e; cases e
          refine wpAny_assign_Name (st_storeC (env := fenvC (stAt 8) pm code doc L a) b1 hCl b2 hCL hCs fun a₂ j₂ hc₂ kb₂' => ?_)
          obtain ⟨Mz, hMz⟩ : ∃ Mz, Mz = Z ++ My := ⟨_, rfl⟩
          rw [← hMz] at b3 b5 b7
          have LMz : L ∈ Mz := by rw [hMz]; exact List.mem_append_right _ LMy
          have CMz : C ∈ Mz := by rw [hMz]; exact List.mem_append_right _ CMy
          have DMz : De ∈ Mz := by rw [hMz]; exact List.mem_append_right _ DMy
          have kMz : ∀ b o, b ∉ Mz → a₁.heap.get? b = some o → a₂.heap.get? b = some o := fun b o hb e => kb₂' b o (fun q => hb (q ▸ CMz)) e
          have offM : ∀ b, b ∉ My → b ∉ [L, C, De] := fun b hb hm => by
            simp only [List.mem_cons, List.not_mem_nil, or_false] at hm
            rcases hm with rfl | rfl | rfl
            · exact hb LMy
            · exact hb CMy
            · exact hb DMy
          have k11 : ∀ b o, b ∉ My → c₁₁.heap.get? b = some o → a₂.heap.get? b = some o := fun b o hb e => kb₂' b o (fun q => hb (q ▸ CMy)) (b8 b o (offM b hb) e)
          have De2 : a₂.heap.PlainList De (List.toArray ys) := b6.at fun o e => kb₂' _ o hDeC e
          have Dr2 : a₂.heap.PlainList Dr (List.toArray ws) := b4.at fun o e => kb₂' _ o hDrC e
          have lM2 : ∀ b ∈ Mz, ∃ o, a₂.heap.get? b = some o := by
            intro b hb
            by_cases hbC : b = C
            · subst hbC; obtain ⟨o, e, _⟩ := hc₂; exact ⟨o, e⟩
            · rw [hMz] at hb
              rcases List.mem_append.mp hb with hb | hb
              · obtain ⟨o, e⟩ := hZl b hb; exact ⟨o, kb₂' b o hbC e⟩
              · by_cases hbL : b = L
                · subst hbL; obtain ⟨o, _, _, e, _⟩ := j₂.ns; exact ⟨o, e⟩
                · by_cases hbD : b = De
                  · subst hbD; obtain ⟨n, e⟩ := De2; exact ⟨_, e⟩
                  · obtain ⟨o, e⟩ := lM11 b hb
                    refine ⟨o, kb₂' b o hbC (b8 b o ?_ e)⟩
                    simp only [List.mem_cons, List.not_mem_nil, or_false, not_or]
                    exact ⟨hbL, hbC, hbD⟩
          have hlq2 : a₂.heap.IsList lq (List.toArray us₁) := hlq.at fun o e => k11 _ o hlqM e
          have hus2 : Paired (RowM Mz a₂.heap) rws us₁ := by
            rw [hMz]
            exact paired_mono hus fun _ _ r => (r.more hZ).keeps fun b o hb e => k11 b o (fun q => hb (List.mem_append_right _ q)) e
          have hul : us₁.length ≤ 1024 := by rw [← hus.length]; exact hrwb
          have hysl : ys.length ≤ 1024 := by rw [← b7.length]; exact hbound r
          refine st_extend j₂ hDeL hDes (ev_loc j₂.ns n11g) De2 (P := fun zs c => Paired (RowM Mz c.heap) (rws.map (· ++ [n])) zs) ((ev_comp (cl := [(Str.ofString "number", C)]) (fun k m => ∃ x, m (Str.ofString "row") = some x ∧ us₁[k]? = some x) (fun X' k zs h => Paired (RowM (X' ++ Mz) h) ((rws.take k).map (· ++ [n])) zs) (F := [lq])
            (src_list (x := Str.ofString "row") hh ((ev_idxL (i := 0 + (q : Int)) (ev_loc j₂.ns nm11.rows) Dr2.isList ((ev_loc j₂.ns e11).mono fun _ _ _ e => e ▸ hx') (by omega) (by omega) (by rw [show (0 + (q : Int)).toNat = q by omega]; exact hy)).mono fun r' c' kc hr' => ⟨lq, hr', hlq2.at fun o e => kp_get kc e, Or.inr (by simp)⟩))
            (by rw [sizeLine_eq]; omega) (binds_name) (fun X' h => by simpa using Paired.nil) (fun X' k zs h h' hR hk => paired_mono hR fun _ _ r => r.keeps fun b o hb e => hk b o (fun q => hb (List.mem_append_left _ q)) e) (fun C' X' k s₂ m₂' zs hk hbs hns hT hR hX' => ?_) (by rw [hC]; rfl)).mono fun r' c' kc hr' => ?_) (fun zs c' hzs => ?_) fun zs a₃ a₄ k₃ hzs j₄ hDe4 kb₄ => wpAny_execs_nil ⟨?_, ?_⟩
          · obtain ⟨xr, hmx, hux⟩ := hT
            obtain ⟨rr, hrr, hxr⟩ := paired_get hus2 hux
            obtain ⟨hkl, hke⟩ := List.getElem?_eq_some_iff.mp hrr
            refine ⟨true, fun s E _ => wpAny_pure ⟨rfl, kp_refl _⟩, fun h => (by cases h), fun _ => ?_⟩
            have hrl : rr.length ≤ 1000 := by
              have := Lr_row (nums := nums) (t := t) q rr (by rw [← hrwL]; exact List.mem_of_getElem? hrr)
              omega
            have hcs : s₂.heap.IsCell C (some y) := hc₂.keeps hbs
            refine (ev_rowAdd (M := X' ++ Mz) (ns := rr) (n := n) (ev_loc hns hmx) ((hxr.more fun b hb => (hX' b hb).2).keeps fun b o _ e => hbs b o e) (fun s₃ k₃ => (ev_cell (c := C) rfl (hcs.keeps (kp_keep k₃))).mono fun _ _ _ e => e ▸ hyn) (fun b hb => ?_) hrl).mono fun v' c' kc hv' => ?_
            · rcases List.mem_append.mp hb with hb | hb
              · exact (hX' b hb).1
              · obtain ⟨o, e⟩ := lM2 b hb; exact ⟨o, hbs b o e⟩
            · rw [List.take_succ_eq_append_getElem hkl, hke, List.map_append]
              exact paired_snoc (paired_mono hR fun _ _ r => r.keeps fun b o _ e => kp_get kc e) hv'
          · obtain ⟨D', zs, X', rfl, hD', hR', _, _⟩ := hr'
            refine ⟨D', zs, rfl, hD', ?_⟩
            rw [List.take_of_length_le (by rw [hus.length]; omega)] at hR'
            exact paired_mono hR' fun _ _ r => r.less fun q hq => List.mem_append_right _ hq
          · have := hzs.length
            rw [List.length_map] at this
            omega
          · have kM4 : ∀ b o, b ∉ Mz → a₁.heap.get? b = some o → a₄.heap.get? b = some o := fun b o hb e => kb₄ b o (fun q => hb (q ▸ DMz)) (kp_get k₃ (kMz b o hb e))
            refine ⟨ys ++ zs, some y, j₄, cell_kb (hc₂.keeps (kp_keep k₃)) kb₄ (Ne.symm hDeC), ?_, Dr2.at fun o e => kb₄ _ o (Ne.symm hDeDr) (kp_get k₃ e), ?_, hDe4, ?_, ?_⟩
            · rw [← hMz]; exact b3.keeps kM4
            · rw [← hMz]; exact paired_mono b5 fun _ _ r => r.keeps kM4
            · rw [← hMz, take_flat (f := fun n => rws.map (· ++ [n])) hn', ← List.append_assoc]
              have papp : ∀ {as bs : List (List Int)} {us ws : List Value} {G : List Int → Value → Prop}, Paired G as us → Paired G bs ws → Paired G (as ++ bs) (us ++ ws) := by
                intro as bs us ws G h1 h2
                induction h1 with
                | nil => exact h2
                | cons h _ ih => exact .cons h ih
              exact papp (paired_mono b7 fun _ _ r => r.keeps kM4) (paired_mono hzs fun _ _ r => r.keeps fun b o hb e => kb₄ b o (fun q => hb (q ▸ DMz)) e)
            · intro b o hb e
              have hb' := hb
              simp only [List.mem_cons, List.not_mem_nil, or_false, not_or] at hb'
              exact kb₄ b o hb'.2.2 (kp_get k₃ (kb₂' b o hb'.2.1 (b8 b o hb e)))
          · intro b o hb e
            simp only [List.mem_cons, List.not_mem_nil, or_false, not_or] at hb
            exact kb₄ b o hb.2.2 (kp_get k₃ (kb₂' b o hb.2.1 e))
        · rintro Z a₁ hZ ⟨ys, o', b1, b2, b3, b4, b5, b6, b7, b8⟩
          refine wpAny_execs_nil ⟨?_, ?_⟩
          · rw [List.take_of_length_le (by rw [hshw.length]; omega), ← hnext] at b7
            refine ⟨m₁₁, ys, o', b1, nm11, n11e, n11g, b2, ?_, b4, ?_, b6, ?_, fun b o hb e => ?_⟩
            · rw [← hMy]; exact b3.less fun q hq => List.mem_append_right _ hq
            · rw [← hMy]; exact paired_mono b5 fun _ _ r => r.less fun q hq => List.mem_append_right _ hq
            · rw [← hMy]; exact paired_mono b7 fun _ _ r => r.less fun q hq => List.mem_append_right _ hq
            · have hb' := hb
              simp only [List.mem_cons, List.not_mem_nil, or_false, not_or] at hb'
              exact b8 b o hb (kb₁₁ b o hb'.1 (g10 b o hb e))
          · intro b o hb e
            have hb' := hb
            simp only [List.mem_cons, List.not_mem_nil, or_false, not_or] at hb'
            exact b8 b o hb (kb₁₁ b o hb'.1 e)
      · rintro Y c' hY ⟨m', ys, o', i6, g1, g2, g3, g4, g5, g6, g7, g8, g9, g10⟩
        -- rows.append(ending)
        refine st_append i6 hDrL hDrs (ev_loc i6.ns g1.rows) g6 (by rw [sizeLine_eq]; omega) (P := fun r _ => r = .ref De) (ev_loc i6.ns g3) fun r c₁₂ c₁₃ k₁₂ hr i₁₃ hDr13 kb₁₃ => wpAny_execs_nil ⟨?_, ?_⟩
        · subst hr
          have less1 : ∀ q, q ∈ Dr :: L :: C :: X → q ∈ De :: Dr :: L :: C :: (Y ++ X) := fun q hq => by
            simp only [List.mem_cons, List.mem_append] at hq ⊢
            rcases hq with h | h | h | h
            · exact Or.inr (Or.inl h)
            · exact Or.inr (Or.inr (Or.inl h))
            · exact Or.inr (Or.inr (Or.inr (Or.inl h)))
            · exact Or.inr (Or.inr (Or.inr (Or.inr (Or.inr h))))
          have kk : ∀ b o, b ∉ Dr :: L :: C :: X → c'.heap.get? b = some o → c₁₃.heap.get? b = some o := fun b o hb e => kb₁₃ b o (fun q => hb (by rw [q]; exact .head _)) (kp_get k₁₂ e)
          refine ⟨m', ws ++ [.ref De], o', i₁₃, g1, cell_kb (g4.keeps (kp_keep k₁₂)) kb₁₃ (Ne.symm hDrC), (g5.less less1).keeps kk, hDr13, ?_⟩
          show Paired _ (tab nums t j ++ [ending nums t (tab nums t j) (j + 1)]) _
          refine paired_snoc (paired_mono g7 fun _ _ r => (r.less less1).keeps kk) ⟨De, ys, rfl, ?_, ?_, ?_⟩
          · simp only [List.mem_cons, not_or]
            exact ⟨hDeDr, hDeL, hDeC, hDeX⟩
          · exact (g8.at fun o e => kb₁₃ _ o hDeDr (kp_get k₁₂ e)).isList
          · rw [jn, List.take_of_length_le (by rw [List.length_range]; omega)] at g9
            exact paired_mono g9 fun _ _ r => (r.less less1).keeps kk
        · intro b o hb e
          simp only [List.mem_cons, List.not_mem_nil, or_false, not_or] at hb
          have e8 := kb₈ b o hb.1 e
          refine kb₁₃ b o hb.2.2 (kp_get k₁₂ (g10 b o ?_ (k810 b o hb.1 e8)))
          simp only [List.mem_cons, List.not_mem_nil, or_false, not_or]
          exact ⟨hb.1, hb.2.1, fun q => fr8 b ⟨o, e8⟩ q.symm⟩
    · rintro X c hX ⟨m, ws, o, i', h1, h2, h3, h4, h5⟩
      -- return rows[-1]
      rw [tn] at h5
      have hwl : ws.length = t.length + 1 := by rw [← h5.length, tab_len]
      obtain ⟨y, hy⟩ : ∃ y, ws[t.length]? = some y := ⟨_, List.getElem?_eq_getElem (by omega)⟩
      obtain ⟨rws, hrw, lr, us, rfl, _, hlr, hus⟩ := paired_get h5 hy
      refine st_ret (P := fun r _ => r = .ref lr) (ev_idxLneg (i := -1) (ev_loc i'.ns h1.rows) h4.isList (ev_neg ev_int) (by decide) (by rw [hwl]; omega) (by decide) (by rw [hwl, show (-1 + ((t.length + 1 : Nat) : Int)).toNat = t.length by omega]; exact hy)) fun r c' kc hr => ⟨⟨lr, us, hr, hlr.at fun o e => kp_get kc e, ?_⟩, kp_trans (InCall.keeps i') kc⟩
      have : laidRows nums t = rws := by unfold laidRows; rw [List.getD_eq_getElem?_getD, hrw]; rfl
      rw [this]
      exact paired_mono hus fun _ _ r => (r.at).keeps (kp_keep kc)
end
end Mine
end
section
open PySem PySem.W PyProof.Rows PySem.Calls PySem.SeqAt
set_option maxRecDepth 100000
namespace Mine
section
variable {prog : Program} {w : World} {A : Around} {s₀ : Shared} {env : Env} {mg mb : Str → Option Value}

theorem ev_pow {a b : Int} {l r : Expr} {pos : Pos} (h1 : Ev prog w A s₀ (eval l env) (fun v _ => IsI a v)) (h2 : Ev prog w A s₀ (eval r env) (fun v _ => IsI b v)) (hb : 0 ≤ b) (hsz : (Builtin.Int.intBits a : Int) * b ≤ 2 ^ 27) :
    Ev prog w A s₀ (eval (.BinOp l .Pow r pos) env) (fun v _ => IsI (a ^ b.toNat) v) :=
  ev_op h1 h2 fun _ _ ⟨_, e1⟩ ⟨_, e2⟩ => by subst e1 e2; exact ev_tok (fun s Q E h => pow_int hb hsz h) fun n => ⟨n, rfl⟩
/-- the first k -/
def upTo (vs : List Value) (k : Int) : List Value := (slicePick vs.toArray none (some k) none).toList
theorem ev_upto {value u : Expr} {p pos : Pos} {l : Addr} {vs : List Value} {k : Int} (hv : Ev prog w A s₀ (eval value env) (fun v _ => v = .ref l)) (hl : s₀.heap.IsList l vs.toArray) (hsz : vs.length ≤ sizeLine)
    (hu : Ev prog w A s₀ (eval u env) (fun v _ => IsI k v)) (ht : ∀ o r, letTemporaryGo value o r = pure () := by intro _ _; rfl) :
    Ev prog w A s₀ (eval (.Subscript value (.Slice none (some u) none p) pos) env) (fun v c => ∃ l', v = .ref l' ∧ c.heap.IsList l' (upTo vs k).toArray ∧ (s₀.heap.get? l' = none ∨ l' ∈ ([] : List Addr))) :=
  Ev.of fun s Q E kk hQ => wpAny_Subscript_list_slice (hv.at kk fun o s₁ k₁ ho => wpAny_evalPart_none (wpAny_evalPart_some (hu.at (kp_trans kk k₁) fun vu s₂ k₂ hvu => by
    subst ho
    obtain ⟨t, rfl⟩ := hvu
    refine ⟨l, vs.toArray, none, some k, rfl, hl.at fun o e => kp_get (kp_trans (kp_trans kk k₁) k₂) e, by simpa using hsz, .none, .int _ _, ?_⟩
    have kpp := kp_trans (kp_trans (kp_trans kk k₁) k₂) (kp_push s₂ { cls := .type "slice", data := .fields #[.none, .int k t, .none] })
    refine hQ _ _ (kp_trans (kp_trans k₁ k₂) (kp_trans (kp_push _ _) (kp_push _ _))) ⟨_, rfl, ⟨{ cls := .type "list", data := .seq (slicePick vs.toArray none (some k) none) }, ?_, rfl, 0, by simp [upTo]⟩, Or.inl ?_⟩
    · rw [← Heap.size_push]; exact push_live
    · rw [← Heap.size_push]
      exact kp_new kpp))) ht
theorem ev_cmpS {l r : Expr} {op : CmpOp} {pos : Pos} {P1 : Value → Shared → Prop} {P2 : Value → Shared → Prop} {P : Value → Shared → Prop} (h1 : Ev prog w A s₀ (eval l env) P1) (h2 : ∀ a s₁, Keeps s₀ s₁ → P1 a s₁ → Ev prog w A s₁ (eval r env) P2) (hm1 : ∀ v s s', Keeps s s' → P1 v s → P1 v s')
    (h3 : ∀ a b s₂, Keeps s₀ s₂ → P1 a s₂ → P2 b s₂ → Ev prog w A s₂ (compareOp op a b) P) (hm : behindInMarks op r = false := by with_unfolding_all rfl) : Ev prog w A s₀ (eval (.Compare l [op] [r] pos) env) P :=
  Ev.of fun s Q E k hQ => wpAny_Compare1 (h1.at k fun a s₁ k₁ pa => (h2 a s₁ (kp_trans k k₁) pa).use fun b s₂ k₂ pb => (h3 a b s₂ (kp_trans (kp_trans k k₁) k₂) (hm1 _ _ _ k₂ pa) pb).use fun v s₃ k₃ pv => hQ v s₃ (kp_trans (kp_trans k₁ k₂) k₃) pv) hm
/-- a list whose items are told by as -/
theorem src_listE {α : Type} {x : Str} {px : Pos} {t : Sem Value} {as : List α} {G : α → Value → Prop} {F : List Addr} (hh : A.handled = none) (h : Ev prog w A s₀ t (fun v c => ∃ l vs, v = .ref l ∧ c.heap.IsList l (List.toArray vs) ∧ Paired G as vs ∧ (s₀.heap.get? l = none ∨ l ∈ F))) :
    Src prog w A (.Name x px) s₀ t as.length (fun i v _ => ∃ a, as[i]? = some a ∧ G a v) F := by
  intro s E k
  refine h.at k fun v s₁ k₁ hv => ?_
  obtain ⟨l, vs, rfl, hl, hG, hF⟩ := hv
  refine wpAny_pyIter_list hl ?_
  have hne : l ≠ s₁.heap.objs.size := by
    obtain ⟨o, e, _⟩ := hl
    exact Nat.ne_of_lt (Heap.lt_size e)
  have W := Walks.list (prog := prog) (w := w) hh s₁.heap.objs.size l hne vs.toArray
  have hlen : as.length = vs.length := hG.length
  refine ⟨s₁.heap.objs.size, _, _, fun i h => Heap.IsListIter h s₁.heap.objs.size l i ∧ h.IsList l vs.toArray, rfl, ⟨W.sub, W.frame, ?_, ?_, by rw [hlen]; simpa using W.done, W.self⟩, ⟨⟨_, push_live, rfl, rfl⟩, ?_⟩, ?_, kp_trans k₁ (kp_push _ _), fun b hb => by
    simp only [List.mem_cons, List.not_mem_nil, or_false] at hb
    rcases hb with rfl | rfl
    · exact Or.inl (kp_new (kp_trans k k₁))
    · exact hF⟩
  · rintro i h ⟨⟨o, e, _⟩, ⟨o', e', _⟩⟩ b hb
    simp only [List.mem_cons, List.not_mem_nil, or_false] at hb
    rcases hb with rfl | rfl
    · exact ⟨o, e⟩
    · exact ⟨o', e'⟩
  · intro i s Q E hi st hQ
    refine W.item i s _ E (by rw [hlen] at hi; simpa using hi) st fun v h' tk p st' kk => ?_
    have hv : vs[i]? = some v := by simpa using p
    exact wpAny_pure (hQ _ h' tk (paired_get hG hv) st' kk)
  · obtain ⟨o, e, r⟩ := hl
    exact ⟨o, Heap.get?_push_of_some _ e, r⟩
  · intro b hb
    simp only [List.mem_cons, List.not_mem_nil, or_false] at hb
    subst hb
    exact kp_new k₁

def sg (n : Int) : Nat := signsL.getD (n % 16).toNat 0
theorem sg_mem (n : Int) : sg n ∈ signsL := by
  unfold sg
  have : (n % 16).toNat < signsL.length := by show _ < 16; omega
  rw [List.getD_eq_getElem?_getD, List.getElem?_eq_getElem this]
  exact List.getElem_mem this
theorem idx_sign (n : Int) : (seqIndex? (n % 16) (txt signsL).length).bind ((txt signsL).cps[·]?) = some (sg n) := by
  have e : (txt signsL).length = 16 := by decide
  rw [e, seqIndex_of (by omega) (by omega)]
  show signsL.toArray[(n % 16).toNat]? = _
  have : (n % 16).toNat < signsL.length := by show _ < 16; omega
  unfold sg
  rw [List.getD_eq_getElem?_getD, List.getElem?_toArray, List.getElem?_eq_getElem this]; rfl
theorem cat_signs (ns : List Int) : cat (ns.map fun n => (⟨#[sg n]⟩ : Str)) = txt (ns.map sg) := by
  unfold cat
  congr 1
  rw [List.flatMap_map]
  have : ∀ l : List Int, (l.flatMap fun a => ((⟨#[sg a]⟩ : Str).cps.toList)) = l.map sg := by
    intro l
    induction l with
    | nil => rfl
    | cons n r ih => rw [List.flatMap_cons, ih]; rfl
  rw [this]
def jj (b : Nat) : Int := ([0, 1, 30, 31] : List Int).getD b 0
theorem codes_at : ∀ k : Fin 32, codes[k.val]? = some (32 * (k.val / 4) + ([0, 1, 30, 31] : List Nat).getD (k.val % 4) 0) := by decide +kernel
theorem jj_at : ∀ k : Fin 4, jj k.val = ((([0, 1, 30, 31] : List Nat).getD k.val 0 : Nat) : Int) := by decide +kernel
theorem grid_block {b : Int} {ys : List Value} (h : GridTo 4 (fun i j v => IsI (b + 32 * (i : Int) + jj j) v) 8 0 ys) : Paired IsI (block b) ys := by
  have hl : codes.length = 32 := by decide +kernel
  refine paired_of (by rw [h.1, block_codes, List.length_map, hl]) fun k y n hy hn => ?_
  have hk : k < 32 := by
    have := (List.getElem?_eq_some_iff.mp hy).1
    rw [h.1] at this; omega
  rw [block_codes, List.getElem?_map, codes_at ⟨k, hk⟩] at hn
  simp only [Option.map_some, Option.some.injEq] at hn
  have := h.2 (k / 4) (k % 4) y (by omega) (by rw [show k / 4 * 4 + k % 4 = k by omega]; exact hy)
  have hj : jj (k % 4) = ((([0, 1, 30, 31] : List Nat).getD (k % 4) 0 : Nat) : Int) := jj_at ⟨k % 4, by omega⟩
  dsimp only at this
  rw [hj] at this
  rw [← hn]
  have e : b + 32 * ((k / 4 : Nat) : Int) + ((([0, 1, 30, 31] : List Nat).getD (k % 4) 0 : Nat) : Int) = b + ((32 * (k / 4) + ([0, 1, 30, 31] : List Nat).getD (k % 4) 0 : Nat) : Int) := by omega
  rw [← e]; exact this

/-- the law's own frame -/
abbrev lenvC (L fa : Addr) (cd : Value) : Env := envOfC (Str.ofString "law") (fScope (stAt 9)) L fa cd

set_option maxHeartbeats 4000000 in
theorem law2_body {s c : Shared} {L fa l : Addr} {cd : Value} {vs : List Value} {ns : List Int} {m : Str → Option Value} {o1 o2 : Option Value} (B : Base mg mb s.heap) (R : Room A 6) (i : InCall s L m c) (hm : m (Str.ofString "script") = some (.ref l))
    (hO : c.heap.IsCell (L + 1) o1) (hS : c.heap.IsCell (L + 1 + 1) o2) (hl : s.heap.IsList l vs.toArray) (hi : IntsAre vs ns) (hlen : vs.length ≤ 1048576) :
    wpAny (model prog w) A (execs (fBody (stAt 9)) (lenvC L fa cd)) (fun f c' => f = .ret (.bool true) ∧ Keeps s c') (fun _ _ => False) c := by
  have Bk : ∀ c', Keeps s c' → Base mg mb c'.heap := fun c' k' => B.keeps (kp_keep k')
  have hlc : c.heap.IsList l vs.toArray := hl.at fun o e => kp_get (InCall.keeps i) e
  have s8 : (ns.take 8).length ≤ 8 := by rw [List.length_take]; omega
  have p8 : Paired IsI (ns.take 8) (upTo vs 8) := ints_paired (slice_ints_uptoW hi (by decide))
  obtain ⟨C1, hC1⟩ : ∃ C1 : Addr, C1 = L + 1 := ⟨_, rfl⟩
  obtain ⟨C2, hC2⟩ : ∃ C2 : Addr, C2 = L + 1 + 1 := ⟨_, rfl⟩
  rw [← hC1] at hO
  rw [← hC2] at hS
  have l1 : (lenvC L fa cd).cells.lookup (Str.ofString "origin") = some C1 := by rw [hC1]; rfl
  have l2 : (lenvC L fa cd).cells.lookup (Str.ofString "signs") = some C2 := by rw [hC2]; rfl
  have c1L : C1 ≠ L := by rw [hC1]; exact Nat.ne_of_gt (Nat.lt_succ_self L)
  have c2L : C2 ≠ L := by rw [hC2]; exact Nat.ne_of_gt (Nat.lt_succ_of_lt (Nat.lt_succ_self L))
  have c12 : C1 ≠ C2 := by rw [hC1, hC2]; exact Nat.ne_of_lt (Nat.lt_succ_self _)
  have c1s : s.heap.get? C1 = none := new_none (by rw [hC1]; exact Nat.le_succ_of_le i.fresh)
  have c2s : s.heap.get? C2 = none := new_none (by rw [hC2]; exact Nat.le_succ_of_le (Nat.le_succ_of_le i.fresh))
  have lC1 : ∃ o, c.heap.get? C1 = some o := by obtain ⟨o, e, _⟩ := hO; exact ⟨o, e⟩
  have lC2 : ∃ o, c.heap.get? C2 = some o := by obtain ⟨o, e, _⟩ := hS; exact ⟨o, e⟩
  -- cells
  refine st_compP (F0 := []) IsI (fun n y => IsI (n % 1000000) y) i rfl R.handled p8 (ev_upto (ev_loc i.ns hm) hlc (by rw [sizeLine_eq]; omega) ev_int) (by rw [sizeLine_eq]; omega) (fun C n v s₁ m₁ hn hG hk hns hm => ?_) (fun D ys c₂ hD hys hDn i₂ kb₂ => ?_) (closureFor_none (by decide))
  · exact ev_modc (ev_callT (ev_bname ((Bk c (InCall.keeps i)).keeps hk) (by decide) bt_int) ((ev_loc hns hm).mono fun _ _ _ e => e ▸ hG) fun u s₂ k₂ hu => ev_intI hu) ((ev_pow (a := 10) (b := 6) ev_int ev_int (by decide) (by decide))) (by decide)
  generalize hcs : (ns.take 8).map (· % 1000000) = cs at *
  have hp : Paired IsI cs ys := by rw [← hcs]; exact paired_map hys
  have hcl : cs.length ≤ 8 := by rw [← hcs, List.length_map]; exact s8
  have hyl : ys.length ≤ 8 := by rw [← hp.length]; exact hcl
  obtain ⟨m₂, i₂, e2, q2⟩ := InCall.gen i₂
  have hO2 : c₂.heap.IsCell C1 o1 := cell_kb hO kb₂ c1L
  have hS2 : c₂.heap.IsCell C2 o2 := cell_kb hS kb₂ c2L
  have hDL : D ≠ L := isl_ne_ns hD.isList i₂.ns
  have hD1 : D ≠ C1 := fun q => by obtain ⟨o, e⟩ := lC1; rw [← q, hDn] at e; cases e
  have hD2 : D ≠ C2 := fun q => by obtain ⟨o, e⟩ := lC2; rw [← q, hDn] at e; cases e
  -- origin
  obtain ⟨hd, hhd⟩ : ∃ hd, hd = cs.headD 0 := ⟨_, rfl⟩
  have B₂ := Bk c₂ (InCall.keeps i₂)
  obtain ⟨a5, f5⟩ := B₂.fn 5 (by decide)
  obtain ⟨o5, _, _, _, r1, r2, r3, _⟩ := id f5
  refine st_assignC i₂ l1 hO2 c1L c1s (P := fun v _ => IsI (lbeg hd) v) (ev_callF (P1 := fun v _ => IsI hd v) (ev_glob B₂.g r1) r2 r3 (ev_ifexp (ev_tval (p := fun v => v = .ref D) (ev_loc i₂.ns e2) (ev_truL hD.isList (by omega))) (fun e => ?_) (fun e => ?_)) fun v s₁ k₁ hv => begin_call (B₂.keeps (kp_keep k₁)) (R.less (by omega)) (f5.keeps (kp_keep k₁)) hv) fun vo c₃ c₄ k₃ ho i₄ hO4 kb₄ => ?_
  · have e := of_decide_eq_true e
    obtain ⟨y, hy⟩ : ∃ y, ys[0]? = some y := ⟨_, List.getElem?_eq_getElem e⟩
    obtain ⟨n, hn, hyn⟩ := paired_get hp hy
    refine (ev_idxL (i := 0) (ev_loc i₂.ns e2) hD.isList ev_int (by decide) (by decide) hy).mono fun v _ _ hv => ?_
    subst hv
    have : hd = n := by
      rw [hhd]
      cases cs with
      | nil => simp at hn
      | cons a r => simpa using hn
    rw [this]; exact hyn
  · have e := of_decide_eq_false e
    have hc0 : cs = [] := List.eq_nil_of_length_eq_zero (by rw [hp.length]; omega)
    refine ev_int.mono fun v _ _ hv => ?_
    rw [hhd, hc0]; exact hv
  obtain ⟨b, hb⟩ : ∃ b, b = lbeg hd := ⟨_, rfl⟩
  rw [← hb] at ho
  have hbm : b % 256 = 0 := by rw [hb]; exact lbeg_mod hd
  have hS4 : c₄.heap.IsCell C2 o2 := cell_kb (hS2.keeps (kp_keep k₃)) kb₄ (Ne.symm c12)
  have hD4 : c₄.heap.PlainList D ys.toArray := (hD.at fun o e => kp_get k₃ e).at fun o e => kb₄ _ o hD1 e
  -- signs
  refine st_assignC i₄ l2 hS4 c2L c2s (P := fun v _ => IsS (txt signsL) v) ((ev_addS (y := ⟨#[159]⟩) ev_str (ev_call1 (ev_bname (Bk c₄ (InCall.keeps i₄)) (by decide) bt_chr) ev_int fun u s₂ k₂ hu => ev_chr hu (by decide) (by decide)) (by decide)).mono fun v _ _ hv => ?_) fun vsg c₅ c₆ k₅ hsg i₆ hS6 kb₆ => ?_
  · have : Str.ofString "!!!^^^^?@A_ >~a" ++ (⟨#[159]⟩ : Str) = txt signsL := by decide
    rwa [this] at hv
  have hO6 : c₆.heap.IsCell C1 (some vo) := cell_kb (hO4.keeps (kp_keep k₅)) kb₆ c12
  have hD6 : c₆.heap.PlainList D ys.toArray := (hD4.at fun o e => kp_get k₅ e).at fun o e => kb₆ _ o hD2 e
  -- page
  obtain ⟨t, htt⟩ : ∃ t, t = 33 :: 94 :: cs.map sg := ⟨_, rfl⟩
  have htl : t.length ≤ 10 := by rw [htt]; simp; omega
  have htm : ∀ x ∈ t, x ∈ signsL := by
    rw [htt]
    intro x hx
    simp only [List.mem_cons, List.mem_map] at hx
    rcases hx with rfl | rfl | ⟨n, _, rfl⟩
    · decide
    · decide
    · exact sg_mem n
  have hjl : ((cs.map fun n => (⟨#[sg n]⟩ : Str)).map (·.length)).sum ≤ 8 := by
    have : ∀ l : List Int, ((l.map fun n => (⟨#[sg n]⟩ : Str)).map (·.length)).sum = l.length := by
      intro l
      induction l with
      | nil => rfl
      | cons a r ih => rw [List.map_cons, List.map_cons, List.sum_cons, ih, List.length_cons]; show 1 + _ = _; omega
    rw [this]; exact hcl
  refine st_assign i₆ rfl (P := fun v _ => IsS (txt t) v) ((ev_addS (x := Str.ofString "!^") (y := txt (cs.map sg)) ev_str (ev_methS1 (P1 := fun r c' => ∃ D ys, r = .ref D ∧ c'.heap.PlainList D ys.toArray ∧ Paired (fun n y => IsS ⟨#[sg n]⟩ y) cs ys ∧ c₆.heap.get? D = none) F.slot_str_join F.type_str_join ev_str
    (ev_compP (cl := [(Str.ofString "signs", C2)]) (F0 := [D]) IsI (fun n y => IsS ⟨#[sg n]⟩ y) R.handled hp ((ev_loc i₆.ns e2).mono fun v s kk e => ⟨D, e, hD6.isList.at fun o e => kp_get kk e, Or.inr (by simp)⟩) (by rw [sizeLine_eq]; omega) (fun C n v s₁ m₁ hn hG hk hns hm => ?_) (by rw [hC2]; rfl)) (fun ov v s₁ hov k₁ hP => ?_)) ?_).mono fun v _ _ hv => ?_) fun vp c₇ c₈ k₇ hpg i₈ kb₈ => ?_
  · exact ev_idxS (i := n % 16) ((ev_cell (c := C2) rfl (hS6.keeps hk)).mono fun _ _ _ e => e ▸ hsg) (ev_modc ((ev_loc hns hm).mono fun _ _ _ e => e ▸ hG) ev_int (by decide)) (by
      have h1 : 0 ≤ n % 16 := by omega
      have h2 : n % 16 < 16 := by omega
      rw [Bool.or_eq_false_iff]
      exact ⟨decide_eq_false (by omega), decide_eq_false (by omega)⟩) (idx_sign n)
  · obtain ⟨D9, ys9, rfl, hD9, hys9, _⟩ := hP
    rw [← cat_signs]
    exact ev_join hov hD9.isList (paired_map (f := fun n => (⟨#[sg n]⟩ : Str)) hys9) (by omega)
  · have e1 : (Str.ofString "!^").length = 2 := by decide
    have e2 : (txt (cs.map sg)).length = cs.length := by show (cs.map sg).toArray.size = _; simp
    rw [e1, e2, sizeLine_eq]; omega
  · have : Str.ofString "!^" ++ txt (cs.map sg) = txt t := by
      apply Str.ext'
      show (Str.ofString "!^").cps ++ (cs.map sg).toArray = t.toArray
      have e : (Str.ofString "!^").cps = #[33, 94] := by decide
      rw [e, htt]; simp
    rwa [this] at hv
  obtain ⟨m₈, i₈, e8, q8⟩ := InCall.gen i₈
  have hO8 : c₈.heap.IsCell C1 (some vo) := cell_kb (hO6.keeps (kp_keep k₇)) kb₈ c1L
  -- block
  refine st_comp2 (cl := [(Str.ofString "origin", C1)]) (n1 := 8) (n2 := 4) (F0 := []) (P1 := fun a v => IsI (0 + (a : Int)) v) (P2 := fun j v => ∃ a, ([0, 1, 30, 31] : List Int)[j]? = some a ∧ IsI a v) (fun a b' v => IsI (b + 32 * (a : Int) + jj b') v) i₈ rfl
    (src_range (a := 0) (n := 8) R.handled (by decide) (by decide) (by decide) (ev_callT (ev_bname (Bk c₈ (InCall.keeps i₈)) (by decide) bt_range) ev_int fun u s₂ k₂ hu => ev_range1 hu))
    (fun C m₁ s₁ hk hns => src_listE (as := ([0, 1, 30, 31] : List Int)) R.handled ((ev_List (ev_spliceI (ns := [0, 1, 30, 31]) rfl ?_) (fun vs s h => by rw [← h.length]; decide) (fun _ _ _ _ h => h)).mono fun v c' kc hv => ?_)) (by decide) (by decide) (fun C a b' s₁ m₁ v1 v2 ha hb' hk hns h1 h2 g1 g2 => ?_) (fun D' zs c₉ hD' hG hDn' i₉ kb₉ => ?_) (by rw [hC1]; rfl)
  · intro i e n h1 h2
    match i, h1, h2 with
    | 0, h1, h2 => cases h1; cases h2; exact ⟨_, _, rfl⟩
    | 1, h1, h2 => cases h1; cases h2; exact ⟨_, _, rfl⟩
    | 2, h1, h2 => cases h1; cases h2; exact ⟨_, _, rfl⟩
    | 3, h1, h2 => cases h1; cases h2; exact ⟨_, _, rfl⟩
    | k + 4, h1, h2 => cases h1
  · obtain ⟨l', us, rfl, hl', hus, hn'⟩ := hv
    exact ⟨l', us, rfl, hl'.isList, hus, Or.inl hn'⟩
  · obtain ⟨jv, hjv, hv2⟩ := g2
    have hj : jj b' = jv := by unfold jj; rw [List.getD_eq_getElem?_getD, hjv]; rfl
    rw [hj]
    refine (ev_add (a := b + 32 * (0 + (a : Int))) (b := jv) (ev_add (a := b) (b := 32 * (0 + (a : Int))) ((ev_cell (c := C1) rfl (hO8.keeps hk)).mono fun _ _ _ e => e ▸ ho) (ev_mul (a := 32) (b := 0 + (a : Int)) ev_int ((ev_loc hns h1).mono fun _ _ _ e => e ▸ g1) (IntMulOk.of_left (by decide)))) ((ev_loc hns h2).mono fun _ _ _ e => e ▸ hv2)).mono fun v _ _ hv => ?_
    rwa [Int.zero_add] at hv
  have hbk : Paired IsI (block b) zs := grid_block hG
  obtain ⟨m₉, i₉, e9, q9⟩ := InCall.gen i₉
  have hO9 : c₉.heap.IsCell C1 (some vo) := cell_kb hO8 kb₉ c1L
  have hsz : ∀ e, e ≤ t.length → (Lr (block b) t e).length ≤ 1024 := fun e he => by
    have h1 := Lr_len hbm htm e he
    have : 2 ^ e ≤ 2 ^ 10 := Nat.pow_le_pow_right (by decide) (by omega)
    omega
  have hperm := law2_plain hbm htm
  have hll : (laidRows (block b) t).length ≤ 1024 := hsz t.length (Nat.le_refl _)
  have hrl : (readRows (b == 0) b t).length ≤ 1024 := by rw [← hperm.length_eq]; exact hll
  have hbl : (block b).length ≤ 1000 := by
    have : codes.length = 32 := by decide +kernel
    rw [block_codes, List.length_map, this]; decide
  have hu2 : A.units + 2 < cLine := by have := R.units; omega
  -- return
  have B₉ := Bk c₉ (InCall.keeps i₉)
  obtain ⟨a8, f8⟩ := B₉.fn 8 (by decide)
  obtain ⟨o8, _, _, _, t1, t2, t3, _⟩ := id f8
  refine st_ret (P := fun v _ => IsB true v) (ev_cmpS (P1 := fun v c => ∃ D out rows, v = .ref D ∧ c.heap.PlainList D (List.toArray out) ∧ Paired (RowAt c.heap) rows out ∧ rows.Perm (laidRows (block b) t) ∧ Rising rows) (P2 := fun v c => ∃ D out rows, v = .ref D ∧ c.heap.PlainList D (List.toArray out) ∧ Paired (RowAt c.heap) rows out ∧ rows.Perm (readRows (b == 0) b t) ∧ Rising rows)
    (ev_call1 (P1 := fun v c => ∃ D out, v = .ref D ∧ c.heap.IsList D (List.toArray out) ∧ Paired (RowAt c.heap) (laidRows (block b) t) out) (ev_bname B₉ (by decide) bt_sorted) (ev_callF2 (ev_glob B₉.g t1) t2 t3 (ev_loc i₉.ns ((q9 _ (by decide)).trans e8)) (ev_loc i₉.ns e9) fun v u hv hu => ?_) fun v s₁ k₁ hv => ?_)
    (fun x s₁ k₁ hx => ?_) ?_ fun x y s₂ k₂ hx hy => ?_) fun v c' kc hv => ⟨by rw [hv], kp_trans (InCall.keeps i₉) kc⟩
  · subst hv hu
    exact laid_call B₉ (R.less (by omega)) f8 hpg hD'.isList hbk htl hbl hsz
  · obtain ⟨D1, out, rfl, hD1, hout⟩ := hv
    refine (ev_sorted hD1 hout (by rw [← hout.length]; omega) hu2).mono fun v c' kc hv => ?_
    obtain ⟨D2, out2, rows, h1, h2, h3, h4, h5, _⟩ := hv
    exact ⟨D2, out2, rows, h1, h2, h3, h4, h5⟩
  · have B₁ := B₉.keeps (kp_keep k₁)
    obtain ⟨a7, f7⟩ := B₁.fn 7 (by decide)
    obtain ⟨o7, _, _, _, u1, u2, u3, _⟩ := id f7
    refine ev_call1 (P1 := fun v c => ∃ D out, v = .ref D ∧ c.heap.PlainList D (List.toArray out) ∧ Paired (RowAt c.heap) (readRows (b == 0) b t) out) (ev_bname B₁ (by decide) bt_sorted) (ev_callF2 (ev_glob B₁.g u1) u2 u3 (ev_loc (kp_ns k₁ i₉.ns) ((q9 _ (by decide)).trans e8)) (ev_cell l1 (hO9.keeps (kp_keep k₁))) fun v u hv hu => ?_) fun v s₂ k₂ hv => ?_
    · subst hv hu
      exact read_call B₁ (R.less (by omega)) f7 hpg ho htl
    · obtain ⟨D1, out, rfl, hD1, hout⟩ := hv
      refine (ev_sorted hD1.isList hout (by rw [← hout.length]; omega) hu2).mono fun v c' kc hv => ?_
      obtain ⟨D2, out2, rows, h1, h2, h3, h4, h5, _⟩ := hv
      exact ⟨D2, out2, rows, h1, h2, h3, h4, h5⟩
  · rintro v s s' k ⟨D1, out, rows, h1, ⟨n, e⟩, h3, h4, h5⟩
    exact ⟨D1, out, rows, h1, ⟨n, kp_get k e⟩, paired_mono h3 fun _ _ r => r.keeps (kp_keep k), h4, h5⟩
  · obtain ⟨D1, out1, rows1, rfl, h2, h3, h4, h5⟩ := hx
    obtain ⟨D2, out2, rows2, rfl, g2, g3, g4, g5⟩ := hy
    have : rows1 = rows2 := rising_eq (h4.trans (hperm.trans g4.symm)) h5 g5
    subst this
    exact ev_eqRows (by omega) h2.isList g2.isList h3 g3
end
end Mine
end
open PySem PySem.W PyProof.Rows
namespace Mine
theorem room_caller (env : Env) : Room (callerA.deeper env) 6 := ⟨rfl, by show 301 + 1 + 6 < 1000; decide, by show 4 + 3 + 8 * 6 < 9900; decide⟩
theorem fn_of {p : Program} {loose : List Str} {mean : ExcName → Option Value} {mg mb : Str → Option Value} {h : Heap} (T : Top p loose mean mg mb h) (st : Stmt) {pos : Pos}
    (hf : (recsOf p).find? (fun e => e.name == fName st) = some ⟨fName st, fArgs st, fBody st, fScope st, pos⟩) : ∃ a, FnAt mg h st a := by
  obtain ⟨a, o, pm, code, doc, h1, h2, h3, h4⟩ := T.fn _ (List.mem_of_find?_eq_some hf)
  exact ⟨a, o, pm, code, doc, h1, h2, h3, h4⟩
end Mine
set_option maxRecDepth 100000 in
set_option maxHeartbeats 8000000 in
theorem PySem.Challenge.cw_mg0004_02_holds : PySem.Challenge.rw_mg0004_02.Holds := by
  (w_on; o_law; k_head; (case hw => w_witness2); w_strict (k_go0; (all_goals try k_fold)))
  rename Top _ _ _ _ _ _ => T
  rename Fr _ _ _ _ => F
  rename News _ _ _ _ => N0
  rename IntsAre _ _ => hI
  rename Heap.IsList _ _ _ => hL
  rename (_ : Shared).gens = #[] => hg
  rename ¬ ((_ : Int) < _) => hc
  have hlen := hI.length
  have B : Mine.Base _ _ _ := ⟨T.g, T.b, T.nolimit, by
        intro n hn
        simp only [List.mem_cons, List.not_mem_nil, or_false] at hn
        rcases hn with rfl | rfl | rfl | rfl | rfl | rfl | rfl
        · exact Mine.fn_of T _ rfl
        · exact Mine.fn_of T _ rfl
        · exact Mine.fn_of T _ rfl
        · exact Mine.fn_of T _ rfl
        · exact Mine.fn_of T _ rfl
        · exact Mine.fn_of T _ rfl
        · exact Mine.fn_of T _ rfl,
        fun x hx => by
          simp only [List.mem_cons, List.not_mem_nil, or_false] at hx
          rcases hx with rfl | rfl | rfl | rfl | rfl | rfl | rfl | rfl <;> exact T.free _ (by decide +kernel) (by decide +kernel) (by decide +kernel) (by decide +kernel) (by decide +kernel),
        T.builtins⟩
  refine wpAny_mono (Mine.law2_body B (Mine.room_caller _) ⟨⟨_, _, rfl⟩, F.ns, F.keep, F.above⟩ rfl ⟨_, (N0 _ (.tail _ (.head _))).1, by assumption⟩ ⟨_, (N0 _ (.head _)).1, by assumption⟩ hL hI (by omega)) (fun f s' h => ?_) (fun _ _ h => h.elim)
  obtain ⟨rfl, hh, tk, rfl, hk⟩ := h
  exact ⟨Or.inl ⟨_, .bool true, [], rfl, fun cls => rfl, .bool true, postW_of (X := (true == true)) rfl (w_eq_bool (w_res rfl) w_lit) rfl, fun _ => ⟨.nil, fun _ h => nomatch h⟩⟩, hk, rfl, hg⟩
