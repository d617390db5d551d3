import PyProof.Rows.All
import Wide.All
import OpenK.AllK
import Wide.FinOn
import PySem.Challenge.RW_dm0101_08
open PySem PySem.W PyProof.Rows PySem.Calls
set_option Elab.async false
set_option linter.all false

namespace Mine
open Sem (wp)

/-! ## the logic, over contexts where no decoder holds a buffer
A bytearray's resize looks at the whole stack for a decoder that holds it; wpAny says nothing of the built-ins on the stack.
So: the same as wpAny and codeAny, but over the contexts whose codes are no such decoders. -/

noncomputable def QuietC (c : Code) : Bool := match c with
  | .builtin id _ => !Builtin.Bytes.decodersThatHold.contains id
  | _ => true
noncomputable def GoodB (Γ : Ctx) : Prop := ∀ x ∈ Γ.below, QuietC x.1 = true
noncomputable def GoodC (Γ : Ctx) : Prop := QuietC Γ.code = true ∧ GoodB Γ

noncomputable def wpR {α : Type} (M : Model) (A : Around) (t : Sem α) (Q : α → Shared → Prop) (E : Value → Shared → Prop) (s : Shared) : Prop :=
  ∀ Γ p, Γ.In A → GoodC Γ → wp M Γ t (fun a _ s' => Q a s') (fun e _ s' => E e s') p s
noncomputable def codeR (M : Model) (A : Around) (c : Code) (R : Result → Shared → Prop) (s : Shared) : Prop :=
  ∀ Γ p, Γ.code = c → Γ.Below A → GoodB Γ → wpCode M Γ R p s

section
variable {α β : Type} {M : Model} {A : Around} {E : Value → Shared → Prop} {s : Shared}

theorem toR {t : Sem α} {Q : α → Shared → Prop} (h : wpAny M A t Q E s) : wpR M A t Q E s := fun Γ p hΓ _ => h Γ p hΓ
theorem codeToR {c : Code} {R : Result → Shared → Prop} (h : codeAny M A c R s) : codeR M A c R s := fun Γ p hc hΓ _ => h Γ p hc hΓ

theorem wpR_pure {a : α} {Q : α → Shared → Prop} (h : Q a s) : wpR M A (pure a) Q E s := fun _ _ _ _ => h
theorem wpR_mono {t : Sem α} {Q Q' : α → Shared → Prop} {E' : Value → Shared → Prop} (h : wpR M A t Q E s)
    (hQ : ∀ a s, Q a s → Q' a s) (hE : ∀ e s, E e s → E' e s) : wpR M A t Q' E' s :=
  fun Γ p hΓ hg => Sem.wp_mono M Γ t (fun a _ s => hQ a s) (fun e _ s => hE e s) p s (h Γ p hΓ hg)
theorem wpR_bind {m : Sem α} {f : α → Sem β} {Q : β → Shared → Prop} (h : wpR M A m (fun a s' => wpR M A (f a) Q E s') E s) : wpR M A (m >>= f) Q E s := fun Γ p hΓ hg => by
  rw [Sem.wp_bind']
  exact Sem.wp_mono M Γ m (fun a p' s' h' => h' Γ p' hΓ hg) (fun _ _ _ h' => h') p s (h Γ p hΓ hg)
theorem wpR_onRaise {m : Sem α} {k : Value → Sem Unit} {Q : α → Shared → Prop}
    (h : wpR M A m Q (fun e s' => wpR M A (k e) (fun _ s'' => E e s'') E s') s) : wpR M A (m.onRaise k) Q E s := fun Γ p hΓ hg => by
  rw [Sem.wp_onRaise]
  exact Sem.wp_mono M Γ m (fun _ _ _ h' => h') (fun e p' s' h' => h' Γ p' hΓ hg) p s (h Γ p hΓ hg)
theorem wpR_attempt {m : Sem α} {Q : Except Value α → Shared → Prop} (h : wpR M A m (fun a => Q (.ok a)) (fun e => Q (.error e)) s) :
    wpR M A m.attempt Q E s := fun Γ p hΓ hg => by rw [Sem.wp_attempt]; exact h Γ p hΓ hg
theorem wpR_holding {vs : List Value} {m : Sem α} {Q : α → Shared → Prop} (h : wpR M A m Q E s) : wpR M A (holding vs m) Q E s :=
  fun Γ p hΓ hg => by rw [Sem.wp_holding]; exact h Γ p hΓ hg
theorem wpR_operate {vs : List Value} {m : Sem Value} {Q : Value → Shared → Prop} (h : wpR M A m Q E s) : wpR M A (operate vs m) Q E s :=
  fun Γ p hΓ hg => by rw [Sem.wp_operate]; exact h Γ p hΓ hg
theorem wpR_of_eq {t : Sem α} {a : α} {Q : α → Shared → Prop} (e : t = pure a) (h : Q a s) : wpR M A t Q E s := by rw [e]; exact wpR_pure h
theorem wpR_standAt {pos : Pos} {Q : Unit → Shared → Prop} (h : Q () s) : wpR M A (standAt pos) Q E s := fun _ _ _ _ => h
theorem wpR_rule {tag : String} {Q : Unit → Shared → Prop} (h : Q () s) : wpR M A (rule tag) Q E s := fun _ _ _ _ => h
theorem wpR_point {Q : Unit → Shared → Prop} (h : Q () s) : wpR M A point Q E s := fun _ _ _ _ => h
theorem wpR_release {vs keep : List Value} {Q : Unit → Shared → Prop} (h : Q () s) : wpR M A (release vs keep) Q E s := toR (wpAny_release' h)
theorem wpR_keep {vs : List Value} {m : Sem α} {Q : α → Shared → Prop} (h : wpR M A m Q E s) : wpR M A (m.keep vs) Q E s :=
  fun Γ p hΓ hg => by rw [Sem.wp_keep]; exact h Γ p hΓ hg
theorem GoodC.enter {Γ : Ctx} (hg : GoodC Γ) (c : Code) (h : Option Value) (p : Pos) : GoodB (Γ.enter c h p) := by
  intro x hx
  rcases List.mem_cons.mp hx with rfl | hx
  · exact hg.1
  · exact hg.2 x hx

theorem wpR_run {c : Code} {h : Option Value} {Q : Flow → Shared → Prop}
    (hc : codeR M (A.mark h) c (fun r s' => match r with | .ok f => Q f s' | .error e => E e s') s) (hnb : h ≠ some byPass := by intro x; cases x) : wpR M A (run c h) Q E s :=
  fun Γ p hΓ hg => by rw [Sem.wp_run]; exact hc _ p rfl (hΓ.enter c h p hnb) (hg.enter c h p)
theorem wpR_runValue {c : Code} {Q : Value → Shared → Prop}
    (hc : codeR M A c (fun r s' => match r with | .ok (.ret v) => Q v s' | .ok _ => False | .error e => E e s') s) : wpR M A (runValue c) Q E s :=
  fun Γ p hΓ hg => by rw [Sem.wp_runValue]; exact hc _ p rfl (hΓ.enter c none p (by intro x; cases x)) (hg.enter c none p)
theorem wpR_call {f : Value} {pos : List Value} {kw : List (Str × Value)} {Q : Value → Shared → Prop}
    (hc : codeR M A (.call f ⟨pos, kw⟩) (fun r s' => match r with | .ok (.ret v) => Q v s' | .ok _ => False | .error e => E e s') s) : wpR M A (call f pos kw) Q E s := wpR_runValue hc

theorem codeR_of_tree {c : Code} {R : Result → Shared → Prop} (hq : QuietC c = true)
    (h : wpR M (A.under c) (M.den c) (fun fin s' => match fin with | .done f => R (.ok f) s' | .again c' => c'.quiet = true ∧ codeR M A c' R s') (fun e s' => R (.error e) s') s) : codeR M A c R s := fun Γ p hc hΓ hg => by
  rw [wpCode_iff_wp, hc]
  refine Sem.wp_mono M Γ _ (fun fin p' s' h' => ?_) (fun _ _ _ h' => h') p s (h Γ p (hc ▸ hΓ.in) ⟨hc ▸ hq, hg⟩)
  cases fin with
  | done f => exact h'
  | again c' => exact ⟨h'.1, h'.2 (Γ.goto c') p' rfl (hΓ.goto c') hg⟩
theorem codeR_mono {c : Code} {R R' : Result → Shared → Prop} (h : codeR M A c R s) (hR : ∀ r s, R r s → R' r s) : codeR M A c R' s :=
  fun Γ p hc hΓ hg => wpCode_mono hR (h Γ p hc hΓ hg)

/-- what a resize asks -/
theorem wpR_exported {v : Value} {g : List Code} {Q : Bool → Shared → Prop} (hg : A.guards = some g) (hno : g = []) (h : Q false s) : wpR M A (Builtin.Bytes.exported v) Q E s := by
  intro Γ p hΓ hgood
  show Q (((Γ.code, p) :: Γ.below).any _) s
  have hgs : guardsOf ((Γ.code, p) :: Γ.below) = [] := by rw [guardsOf_cons]; exact (hΓ.2.2.2.1 g hg).trans hno
  have key : ∀ l : List (Code × Pos), guardsOf l = [] → (∀ x ∈ l, QuietC x.1 = true) → (l.any fun
    | (.builtin "bytearray.__contains__" ⟨v' :: _, _⟩, _) | (.builtin "bytearray.__mod__" ⟨v' :: _, _⟩, _)
    | (.builtin "bytearray.__rmod__" ⟨_ :: v' :: _, _⟩, _) | (.builtin "_struct.pack_into.held" ⟨v' :: _, _⟩, _) => Builtin.Bytes.sameRef v' v
    | (.builtin "bytearray.find.held" ⟨_ :: _ :: held, _⟩, _) => held.any (Builtin.Bytes.sameRef v)
    | (.builtin id ⟨v' :: _, _⟩, _) => Builtin.Bytes.sameRef v' v && Builtin.Bytes.decodersThatHold.contains id
    | _ => false) = false := by
    intro l
    induction l with
    | nil => intro _ _; rfl
    | cons x l ih =>
      intro hl hq
      obtain ⟨c, q⟩ := x
      rw [guardsOf_cons, List.append_eq_nil_iff] at hl
      have hng : c.isGuard = false := by
        cases hcg : c.isGuard with
        | false => rfl
        | true => have := hl.1; simp [Code.guards, hcg] at this
      have hqc := hq (c, q) (.head _)
      rw [List.any_cons, ih hl.2 fun x hx => hq x (.tail _ hx), Bool.or_false]
      split
      · rename_i heq; cases heq; exact absurd hng (by simp [Code.isGuard, guardIds])
      · rename_i heq; cases heq; exact absurd hng (by simp [Code.isGuard, guardIds])
      · rename_i heq; cases heq; exact absurd hng (by simp [Code.isGuard, guardIds])
      · rename_i heq; cases heq; exact absurd hng (by simp [Code.isGuard, guardIds])
      · rename_i heq; cases heq; exact absurd hng (by simp [Code.isGuard, guardIds])
      · rename_i id v' _ _ _ _ _ _ _ _ heq
        cases heq
        simp only [QuietC, Bool.not_eq_true'] at hqc
        rw [hqc, Bool.and_false]
      · rfl
  have := key ((Γ.code, p) :: Γ.below) hgs (fun x hx => by
    rcases List.mem_cons.mp hx with rfl | hx
    · exact hgood.1
    · exact hgood.2 x hx)
  exact Eq.mpr (congrArg (fun b => Q b s) this) h
end

/-! ### the compound rules -/
section
variable {M : Model} {A : Around} {E : Value → Shared → Prop} {s : Shared} {env : Env}

theorem wpR_BinOp {l op r pos} {Q : Value → Shared → Prop}
    (h : wpR M A (eval l env) (fun a s₁ => wpR M A (eval r env) (fun b s₂ => wpR M A (binaryOp op a b) Q E s₂) E s₁) E s) : wpR M A (eval (.BinOp l op r pos) env) Q E s := by
  rw [eval_BinOp]
  exact wpR_bind (wpR_mono h (fun a s₁ h₁ => wpR_bind (wpR_holding (wpR_mono h₁ (fun b s₂ h₂ => wpR_bind (wpR_standAt (wpR_operate h₂))) fun _ _ e => e))) fun _ _ e => e)
theorem wpR_Compare1 {l op r pos} {Q : Value → Shared → Prop}
    (h : wpR M A (eval l env) (fun a s₁ => wpR M A (eval r env) (fun b s₂ => wpR M A (compareOp op a b) Q E s₂) E s₁) E s) (hm : behindInMarks op r = false) : wpR M A (eval (.Compare l [op] [r] pos) env) Q E s := by
  rw [eval_Compare1, markedBehindIn_of_false hm]
  exact wpR_bind (wpR_mono h (fun a s₁ h₁ => wpR_bind (wpR_holding (wpR_mono h₁ (fun b s₂ h₂ => wpR_bind (wpR_standAt (wpR_operate h₂))) fun _ _ e => e))) fun _ _ e => e)
theorem wpR_isTrue_Compare1 {l op r pos whole} {Q : Bool → Shared → Prop}
    (h : wpR M A (eval l env) (fun a s₁ => wpR M A (eval r env) (fun b s₂ => wpR M A (compareOp op a b) (fun c s₃ => wpR M A (truthy c) Q E s₃) E s₂) E s₁) E s)
    (hm : behindInMarks op r = false) : wpR M A (isTrue (.Compare l [op] [r] pos) env whole) Q E s := by
  rw [isTrue_Compare1, markedBehindIn_of_false hm]
  exact wpR_bind (wpR_mono h (fun a s₁ h₁ => wpR_bind (wpR_holding (wpR_mono h₁ (fun b s₂ h₂ => wpR_bind (wpR_standAt (wpR_bind (wpR_operate (wpR_mono h₂ (fun c s₃ h₃ => wpR_holding h₃) fun _ _ e => e))))) fun _ _ e => e))) fun _ _ e => e)
theorem wpR_isTrue_value {e : Expr} {whole : Sem Value} {Q : Bool → Shared → Prop} (h : wpR M A whole (fun v s₁ => wpR M A (truthy v) Q E s₁) E s)
    (he : isTrue e env whole = (do let v ← whole; standAt e.pos; holding [v] (truthy v))) : wpR M A (isTrue e env whole) Q E s := by
  rw [he]
  exact wpR_bind (wpR_mono h (fun v s₁ h₁ => wpR_bind (wpR_standAt (wpR_holding h₁))) fun _ _ x => x)
theorem wpR_isTrue_BoolOp {op : BoolOp} {values : List Expr} {pos : Pos} {whole : Sem Value} {Q : Bool → Shared → Prop} (h : wpR M A (allTrue op values env) Q E s) : wpR M A (isTrue (.BoolOp op values pos) env whole) Q E s := by
  rw [arm_isTrue_BoolOp]; exact h
theorem wpR_allTrue_And_cons {x : Expr} {rest : List Expr} {Q : Bool → Shared → Prop}
    (h : wpR M A (isTrue x env (eval x env)) (fun b s₁ => if b then wpR M A (allTrue .And rest env) Q E s₁ else Q false s₁) E s) : wpR M A (allTrue .And (x :: rest) env) Q E s := by
  show wpR M A (do match BoolOp.And, ← isTrue x env (eval x env) with | .And, false => pure false | .Or, true => pure true | _, _ => allTrue .And rest env) Q E s
  refine wpR_bind (wpR_mono h (fun b s₁ h₁ => ?_) fun _ _ x => x)
  cases b
  · exact wpR_pure h₁
  · exact h₁
theorem wpR_allTrue_Or_cons {x : Expr} {rest : List Expr} {Q : Bool → Shared → Prop}
    (h : wpR M A (isTrue x env (eval x env)) (fun b s₁ => if b then Q true s₁ else wpR M A (allTrue .Or rest env) Q E s₁) E s) : wpR M A (allTrue .Or (x :: rest) env) Q E s := by
  show wpR M A (do match BoolOp.Or, ← isTrue x env (eval x env) with | .And, false => pure false | .Or, true => pure true | _, _ => allTrue .Or rest env) Q E s
  refine wpR_bind (wpR_mono h (fun b s₁ h₁ => ?_) fun _ _ x => x)
  cases b
  · exact h₁
  · exact wpR_pure h₁
theorem wpR_allTrue_Or_nil {Q : Bool → Shared → Prop} (h : Q false s) : wpR M A (allTrue .Or [] env) Q E s := wpR_pure h
theorem wpR_IfExp {test body orelse : Expr} {pos : Pos} {Q : Value → Shared → Prop}
    (h : wpR M A (isTrue test env (eval test env)) (fun b s₁ => if b then wpR M A (eval body env) Q E s₁ else wpR M A (eval orelse env) Q E s₁) E s) : wpR M A (eval (.IfExp test body orelse pos) env) Q E s := by
  rw [arm_eval_IfExp]
  refine wpR_bind (wpR_mono h (fun b s₁ h₁ => ?_) fun _ _ x => x)
  cases b <;> exact h₁
theorem wpR_UnaryOp {op : UnaryOp} {x : Expr} {pos : Pos} {Q : Value → Shared → Prop} (h : wpR M A (eval x env) (fun v s₁ => wpR M A (unaryOp op v) Q E s₁) E s) : wpR M A (eval (.UnaryOp op x pos) env) Q E s := by
  rw [arm_eval_UnaryOp]
  exact wpR_bind (wpR_mono h (fun v s₁ h₁ => wpR_bind (wpR_standAt (wpR_holding h₁))) fun _ _ x => x)
theorem wpR_items_cons {pos : Pos} {e : Expr} {rest : List Expr} {Q : List Value → Shared → Prop}
    (h : wpR M A (eval e env) (fun v s₁ => wpR M A (spliced (backTo pos (starEach rest env))) (fun vs s₂ => Q (v :: vs) s₂) E s₁) E s)
    (he : starEach (e :: rest) env = (false, eval e env) :: starEach rest env) : wpR M A (spliced (backTo pos (starEach (e :: rest) env))) Q E s := by
  rw [he]
  show wpR M A (do
    let v ← eval e env
    let here ← (pure [v] : Sem (List Value))
    return here ++ (← holding here (spliced (backTo pos (starEach rest env))))) Q E s
  exact wpR_bind (wpR_mono h (fun v s₁ h₁ => wpR_bind (wpR_pure (wpR_bind (wpR_holding (wpR_mono h₁ (fun vs s₂ h₂ => wpR_pure h₂) fun _ _ x => x))))) fun _ _ x => x)
theorem wpR_Tuple {elts : List Expr} {k : Nat} {pos : Pos} {Q : Value → Shared → Prop}
    (h : wpR M A (spliced (backTo pos (starEach elts env))) (fun vs s₁ => vs.length ≤ sizeLine ∧ Q (.ref s₁.heap.objs.size) { s₁ with heap := s₁.heap.push { cls := .type "tuple", data := .seq vs.toArray } }) E s) : wpR M A (eval (.Tuple elts k pos) env) Q E s := by
  rw [arm_eval_Tuple]
  exact wpR_bind (wpR_standAt (wpR_bind (wpR_mono h (fun vs s₁ h₁ => toR (wpAny_newObj_type h₁.2 (by show vs.toArray.size ≤ sizeLine; rw [List.size_toArray]; exact h₁.1))) fun _ _ x => x)))
theorem wpR_List {elts : List Expr} {pos : Pos} {Q : Value → Shared → Prop}
    (h : wpR M A (spliced (backTo pos (starEach elts env))) (fun vs s₁ => vs.length ≤ sizeLine ∧ Q (.ref s₁.heap.objs.size) { s₁ with heap := s₁.heap.push { cls := .type "list", data := .seq vs.toArray } }) E s) : wpR M A (eval (.List elts pos) env) Q E s := by
  rw [arm_eval_List]
  exact wpR_bind (wpR_standAt (wpR_bind (wpR_mono h (fun vs s₁ h₁ => toR (wpAny_newObj_type h₁.2 (by show vs.toArray.size ≤ sizeLine; rw [List.size_toArray]; exact h₁.1))) fun _ _ x => x)))
theorem wpR_CallName {id : Str} {p pos : Pos} {args : List Expr} {Q : Value → Shared → Prop}
    (h : wpR M A (eval (.Name id p) env) (fun f s₁ => wpR M A (callWith pos f [] (backTo pos (starEach args env)) []) Q E s₁) E s) : wpR M A (eval (.Call (.Name id p) args [] pos) env) Q E s := by
  show wpR M A (do callWith pos (← eval (.Name id p) env) [] (backTo pos (starEach args env)) (backToKw pos (keywordEach [] env))) Q E s
  exact wpR_bind h
theorem wpR_callWith {P : Heap → Prop} {pos : Pos} {f : Value} {first : List Value} {args : List (Bool × Sem Value)} {Q : Value → Shared → Prop} (hplain : args.any (·.1) = false)
    (hk : ∀ h, P h → ∃ k, (k = Keeper.frame ∨ k = Keeper.machine ∨ k = Keeper.boundFrame) ∧ Looks M h (keeperOf f) k)
    (h : wpR M A (evalArgs f true args []) (fun a s₁ => P s₁.heap ∧ wpR M A (call f (first ++ a.pos) a.kw) Q E s₁) E s) : wpR M A (callWith pos f first args []) Q E s := by
  unfold callWith
  refine wpR_bind (wpR_holding (wpR_mono h (fun a s₁ h₁ => wpR_bind (wpR_standAt ?_)) fun _ _ x => x))
  obtain ⟨k, hk', L⟩ := hk _ h₁.1
  simp only [hplain, List.any_nil, Bool.or_false]
  refine wpR_bind (toR (L.here ?_))
  have tail : ∀ {t : Sem Value}, wpR M A t Q E s₁ → wpR M A (t >>= fun r => holding [r] point >>= fun _ => pure r) Q E s₁ :=
    fun ht => wpR_bind (wpR_mono ht (fun r s₂ hr => wpR_bind (wpR_holding (wpR_point (wpR_pure hr)))) fun _ _ x => x)
  have marked (mk : Value) : wpR M A (callMarked mk f (first ++ a.pos) a.kw) Q E s₁ := by unfold callMarked; exact wpR_keep h₁.2
  rcases hk' with rfl | rfl | rfl <;> dsimp only <;> first | exact tail h₁.2 | (split <;> first | exact tail h₁.2 | exact tail (marked _))
theorem wpR_evalArgs {f : Value} {es : List Expr} {pos : Pos} {Q : Args → Shared → Prop} (hp : es.any isStarred = false)
    (h : wpR M A (spliced (backTo pos (starEach es env))) (fun vs s' => Q ⟨vs, []⟩ s') E s) : wpR M A (evalArgs f true (backTo pos (starEach es env)) []) Q E s := by
  cases es with
  | nil =>
    unfold evalArgs
    show wpR M A (spliced [] >>= _) Q E s
    refine wpR_bind (wpR_mono h (fun vs s' h' => ?_) fun _ _ x => x)
    refine wpR_bind (wpR_pure ?_)
    refine wpR_holding ?_
    exact wpR_bind (wpR_pure (wpR_bind (wpR_pure (wpR_pure h'))))
  | cons e es =>
    rw [List.any_cons, Bool.or_eq_false_iff] at hp
    have he := hp.1
    have key : ∀ (x : Sem Value) (rest : List (Bool × Sem Value)), wpR M A (spliced ((false, x) :: rest)) (fun vs s' => Q ⟨vs, []⟩ s') E s → wpR M A (evalArgs f true ((false, x) :: rest) []) Q E s := by
      intro x rest h
      unfold evalArgs
      show wpR M A (spliced ((false, x) :: rest) >>= _) Q E s
      refine wpR_bind (wpR_mono h (fun vs s' h' => ?_) fun _ _ x => x)
      refine wpR_holding ?_
      exact wpR_bind (wpR_pure (wpR_bind (wpR_pure (wpR_pure h'))))
    cases e with
    | Starred v p => cases he
    | _ => exact key _ _ h
theorem wpR_Subscript {value slice pos} {Q : Value → Shared → Prop}
    (h : wpR M A (eval value env) (fun o s₁ => wpR M A (eval slice env) (fun i s₂ => wpR M A (subscriptTail value slice o i) Q E s₂) E s₁) E s) : wpR M A (eval (.Subscript value slice pos) env) Q E s := by
  rw [eval_Subscript]
  exact wpR_bind (wpR_mono h (fun o s₁ h₁ => wpR_bind (wpR_holding (wpR_mono h₁ (fun i s₂ h₂ => wpR_bind (wpR_standAt h₂)) fun _ _ x => x))) fun _ _ x => x)
theorem wpR_Slice {lower upper step : Option Expr} {p : Pos} {Q : Value → Shared → Prop}
    (h : wpR M A (evalPart lower env) (fun l s₁ => wpR M A (evalPart upper env) (fun u s₂ => wpR M A (evalPart step env) (fun st s₃ =>
      Q (.ref s₃.heap.objs.size) { s₃ with heap := s₃.heap.push { cls := .type "slice", data := .fields #[l, u, st] } }) E s₂) E s₁) E s) : wpR M A (eval (.Slice lower upper step p) env) Q E s := by
  rw [arm_eval_Slice]
  refine wpR_bind (wpR_mono h (fun l s₁ h₁ => wpR_bind (wpR_holding (wpR_mono h₁ (fun u s₂ h₂ => wpR_bind (wpR_holding (wpR_mono h₂ (fun st s₃ h₃ => ?_) fun _ _ x => x))) fun _ _ x => x))) fun _ _ x => x)
  exact toR (wpAny_newObj_type h₃)

theorem wpR_execs_nil {Q : Flow → Shared → Prop} (h : Q .next s) : wpR M A (execs [] env) Q E s := fun _ _ _ _ => h
theorem wpR_execs_cons {st rest} {Q : Flow → Shared → Prop}
    (h : wpR M A (exec st env) (fun f s' => match f with | .next => wpR M A (execs rest env) Q E s' | f => Q f s') E s) : wpR M A (execs (st :: rest) env) Q E s := by
  rw [execs_cons]
  refine wpR_bind (wpR_mono h (fun f s' h' => ?_) fun _ _ e => e)
  cases f <;> first | exact h' | exact wpR_pure h'
theorem wpR_bindName {x : Str} {v : Value} {Q : Unit → Shared → Prop} (h : wpR M A (storeName env x v) Q E s) : wpR M A (bindName env x v) Q E s :=
  fun Γ p hΓ hg => by rw [Sem.wp_bindName]; exact h Γ p hΓ hg
theorem wpR_Assign_Name {x pos' value pos} {Q : Flow → Shared → Prop}
    (h : wpR M A (eval value env) (fun v s₁ => wpR M A (storeName env x v) (fun _ => Q .next) E s₁) E s)
    (hs : swapsWith value (some (.Name x pos')) pos.line env = pure false) : wpR M A (exec (.Assign [.Name x pos'] value pos) env) Q E s := by
  rw [exec_Assign_Name env x pos' value pos hs]
  exact wpR_bind (wpR_standAt (wpR_bind (wpR_mono h (fun v s₁ h₁ => wpR_bind (wpR_standAt (wpR_bind (wpR_bindName (wpR_mono h₁ (fun _ s₂ h₂ => wpR_pure h₂) fun _ _ e => e))))) fun _ _ e => e)))
theorem wpR_AugAssign_Name {x pos' op value pos} {Q : Flow → Shared → Prop}
    (h : wpR M A (loadName env x) (fun old s₁ => wpR M A (eval value env) (fun v s₂ => wpR M A (inplaceOp op old v)
      (fun r s₃ => wpR M A (storeName env x r) (fun _ => Q .next) E s₃) E s₂) E s₁) E s) : wpR M A (exec (.AugAssign (.Name x pos') op value pos) env) Q E s := by
  rw [exec_AugAssign_Name]
  exact wpR_bind (wpR_standAt (wpR_bind (wpR_mono h (fun old s₁ h₁ => wpR_bind (wpR_holding (wpR_mono h₁ (fun v s₂ h₂ => wpR_bind (wpR_standAt (wpR_bind (wpR_operate (wpR_mono h₂ (fun r s₃ h₃ =>
    wpR_bind (wpR_standAt (wpR_bind (wpR_bindName (wpR_mono h₃ (fun _ s₄ h₄ => wpR_pure h₄) fun _ _ e => e))))) fun _ _ e => e))))) fun _ _ e => e))) fun _ _ e => e)))
theorem wpR_If {test body orelse pos} {Q : Flow → Shared → Prop}
    (h : wpR M A (isTrue test env (eval test env)) (fun b s₂ => if b then wpR M A (execs body env) Q E s₂ else wpR M A (execs orelse env) Q E s₂) E s) : wpR M A (exec (.If test body orelse pos) env) Q E s := by
  rw [exec_If]
  refine wpR_bind (wpR_standAt (wpR_bind (wpR_mono h (fun b s₂ h₂ => ?_) fun _ _ e => e)))
  cases b <;> exact h₂
theorem wpR_Return_some {e pos} {Q : Flow → Shared → Prop} (h : wpR M A (eval e env) (fun v => Q (.ret v)) E s) : wpR M A (exec (.Return (some e) pos) env) Q E s := by
  rw [exec_Return_some]
  exact wpR_bind (wpR_standAt (wpR_bind (wpR_mono h (fun v s₁ h₁ => wpR_pure h₁) fun _ _ e => e)))

/-- what comes back out of a block of the frame's own, raised (nothing here raises through it: E is free) -/
noncomputable def backBy (M : Model) (A : Around) (env : Env) (E : Value → Shared → Prop) : Value → Shared → Prop :=
  fun x s' => wpR M A (do
    if (← field x 1) == .none then unsupported "frame.own-activation:exception-without-traceback"
    setFlight x env.frame) (fun _ s'' => E x s'') E s'
theorem wpR_runOwn {c : Code} {h : Option Value} {Q : Flow → Shared → Prop}
    (hc : codeR M (A.mark h) c (fun r s' => match r with | .ok f => Q f s' | .error e => backBy M A env E e s') s) (hnb : h ≠ some byPass := by intro x; cases x) : wpR M A (runOwn c env h) Q E s := by
  unfold runOwn
  exact wpR_onRaise (wpR_run hc hnb)
theorem wpR_While {test body orelse pos} {Q : Flow → Shared → Prop}
    (h : codeR M A (.whileLoop test body orelse env) (fun r s' => match r with | .ok f => Q f s' | .error e => backBy M A env E e s') s) : wpR M A (exec (.While test body orelse pos) env) Q E s := by
  rw [exec_While]; exact wpR_bind (wpR_standAt (wpR_runOwn h))
theorem wpR_For {target iter body orelse pos} {Q : Flow → Shared → Prop}
    (h : wpR M A (eval iter env) (fun x s₁ => wpR M A (pyIter x) (fun it s₂ =>
      codeR M A (.forLoop target it body orelse env) (fun r s' => match r with | .ok f => Q f s' | .error e => backBy M A env E e s') s₂) E s₁) E s)
    (hs : ∀ x, foldedSetIterable iter env x = pure x) : wpR M A (exec (.For target iter body orelse pos) env) Q E s := by
  rw [exec_For]
  exact wpR_bind (wpR_standAt (wpR_bind (wpR_mono h (fun x s₁ h₁ => wpR_bind (wpR_of_eq (hs x) (wpR_bind (wpR_standAt (wpR_bind (wpR_holding
    (wpR_mono h₁ (fun it s₂ h₂ => wpR_runOwn h₂) fun _ _ h' => h'))))))) fun _ _ h' => h')))

/-- an exception in a loop's turn is noted -/
noncomputable def noted (M : Model) (A : Around) (env : Env) (E : Value → Shared → Prop) : Value → Shared → Prop :=
  fun x s' => wpR M A (noteFrame x env) (fun _ s'' => E x s'') E s'
theorem wpR_noted {α : Type} {m : Sem α} {Q : α → Shared → Prop} (h : wpR M A m Q (noted M A env E) s) : wpR M A (m.onRaise fun x => do noteFrame x env; theTreesLotGoes x) Q E s :=
  wpR_onRaise (wpR_mono h (fun _ _ q => q) fun _ _ hx => wpR_bind (wpR_mono hx (fun _ _ e => toR (wpAny_theTreesLotGoes e)) fun _ _ e => e))
end

section
variable {prog : Program} {w : World} {A : Around} {E : Value → Shared → Prop} {s : Shared} {env : Env} {R : Result → Shared → Prop}
theorem codeR_block {stmts : List Stmt}
    (h : wpR (model prog w) A (execs stmts env) (fun f s' => R (.ok f) s') (noted (model prog w) A env fun e s' => R (.error e) s') s) : codeR (model prog w) A (.block stmts env) R s := by
  refine codeR_of_tree rfl ?_
  show wpR _ _ (do return Fin.done (← (execs stmts env).onRaise (fun x => do noteFrame x env; theTreesLotGoes x))) _ _ s
  exact wpR_bind (wpR_noted (wpR_mono h (fun f s' h' => wpR_pure h') fun _ _ h' => h'))
theorem codeR_while1 {test : Expr} {body orelse : List Stmt}
    (h : wpR (model prog w) A (isTrue test env (eval test env)) (fun b s₂ =>
        if b then wpR (model prog w) A (execs body env) (fun f s₃ => match f with
            | .next | .cont => codeR (model prog w) A (.whileLoop test body orelse env) R s₃
            | .brk => R (.ok .next) s₃
            | .ret v => R (.ok (.ret v)) s₃) (noted (model prog w) A env fun e s' => R (.error e) s') s₂
        else wpR (model prog w) A (execs orelse env) (fun f s₃ => R (.ok f) s₃) (noted (model prog w) A env fun e s' => R (.error e) s') s₂)
      (noted (model prog w) A env fun e s' => R (.error e) s') s) :
    codeR (model prog w) A (.whileLoop test body orelse env) R s := by
  refine codeR_of_tree rfl ?_
  show wpR _ A ((whileTurn test body orelse env).onRaise (fun x => do noteFrame x env; theTreesLotGoes x)) _ _ s
  refine wpR_noted ?_
  simp only [whileTurn]
  refine wpR_bind (wpR_mono h (fun b s₂ h₂ => ?_) fun _ _ h' => h')
  cases b with
  | false =>
    simp only [Bool.false_eq_true, if_false] at h₂ ⊢
    exact wpR_bind (wpR_mono h₂ (fun f s₃ h₃ => wpR_pure h₃) fun _ _ h' => h')
  | true =>
    simp only [if_true] at h₂ ⊢
    refine wpR_bind (wpR_mono h₂ (fun f s₃ h₃ => ?_) fun _ _ h' => h')
    cases f with
    | next => exact wpR_pure ⟨rfl, h₃⟩
    | cont => exact wpR_pure ⟨rfl, h₃⟩
    | brk => exact wpR_pure h₃
    | ret v => exact wpR_pure h₃
theorem codeR_for1 {target : Expr} {it : Addr} {body orelse : List Stmt}
    (h : wpR (model prog w) A (pyNext (.ref it)) (fun r s₁ => match r with
      | none => wpR (model prog w) A (execs orelse env) (fun f s₃ => R (.ok f) s₃) (noted (model prog w) A env fun e s' => R (.error e) s') s₁
      | some v => wpR (model prog w) A (letOwnedTupleGo target (.ref it) v) (fun _ s₁' => wpR (model prog w) A (assign target env v) (fun _ s₂ => wpR (model prog w) A (execs body env) (fun f s₃ => match f with
          | .next | .cont => codeR (model prog w) A (.forLoop target (.ref it) body orelse env) R s₃
          | .brk => R (.ok .next) s₃
          | .ret v => R (.ok (.ret v)) s₃) (noted (model prog w) A env fun e s' => R (.error e) s') s₂) (noted (model prog w) A env fun e s' => R (.error e) s') s₁') (noted (model prog w) A env fun e s' => R (.error e) s') s₁)
      (noted (model prog w) A env fun e s' => R (.error e) s') s) :
    codeR (model prog w) A (.forLoop target (.ref it) body orelse env) R s := by
  refine codeR_of_tree rfl ?_
  show wpR _ _ ((forTurn target (.ref it) body orelse env).onRaise (fun x => do noteFrame x env; theTreesLotGoes x)) _ _ s
  refine wpR_noted ?_
  simp only [forTurn]
  refine wpR_bind (wpR_standAt (wpR_bind (wpR_onRaise (wpR_mono h (fun r s₁ h₁ => ?_) fun _ _ h' => wpR_standAt h'))))
  cases r with
  | none => exact wpR_pure ⟨rfl, codeR_block h₁⟩
  | some v =>
    refine wpR_bind (wpR_mono h₁ (fun _ s₁' h₁' => ?_) fun _ _ h' => h')
    refine wpR_bind (wpR_mono h₁' (fun _ s₂ h₂ => wpR_bind (wpR_mono h₂ (fun f s₃ h₃ => ?_) fun _ _ h' => h')) fun _ _ h' => h')
    cases f with
    | next => exact wpR_pure ⟨rfl, h₃⟩
    | cont => exact wpR_pure ⟨rfl, h₃⟩
    | brk => exact wpR_pure h₃
    | ret v => exact wpR_pure h₃

/-- the frame of a def -/
theorem codeR_func {body : List Stmt}
    (h : wpR (model prog w) (A.deeper env) (execs body env) (fun f s' => R (.ok (.ret (match f with | .ret v => v | _ => .none))) s')
      (fun e s' => wpR (model prog w) (A.deeper env) (leaving env e) (fun _ s'' => R (.error e) s'') (fun e' s'' => R (.error e') s'') s') s) :
    codeR (model prog w) A (.func body env) R s := by
  refine codeR_of_tree rfl ?_
  show wpR _ (A.deeper env) (do point; match ← (execs body env).onRaise (leaving env) with | .ret v => ret v | _ => ret .none) _ _ s
  refine wpR_bind (wpR_point (wpR_bind (wpR_onRaise (wpR_mono h (fun f s' h' => ?_) fun _ _ h' => h'))))
  cases f <;> exact wpR_pure h'
theorem codeR_call_function {a : Addr} {args : Args} {o : Obj} {fd : FuncData} {body : List Stmt} (hroom : A.depth < recursionLimit)
    (ho : s.heap.get? a = some o) (hd' : o.data = .func fd) (hco : fd.scope.isCoroutine = false) (hgen : fd.scope.isGenerator = false) (hbody : fd.body = .stmts body) (hcd : s.heap.CodeRec fd.code fd.qualname)
    (h : wpR (model prog w) A.in1 (bindArgs fd args) (fun binds s₁ =>
      wpR (model prog w) A.in1 (newFunctionEnv fd.scope fd.globals fd.closure binds (fd.qualname ++ ".<locals>.") (some a) fd.code none fd.builtins)
        (fun env s₂ => s₂.heap.NoLimit ∧ codeR (model prog w) A (.func body env) R s₂) (fun e s' => R (.error e) s') s₁) (fun e s' => R (.error e) s') s) :
    codeR (model prog w) A (.call (.ref a) args) R s := by
  refine codeR_of_tree rfl ?_
  show wpR _ A.in1 (callAny (.ref a) args) _ _ s
  simp only [callAny]
  refine wpR_bind (toR (wpAny_load ho ?_))
  obtain ⟨c, oc, vs, tq, hc, hoc, hdc, hq⟩ := hcd
  simp only [hd', callFunction, hco, hgen, hbody, hc]
  rw [hc] at h
  refine wpR_bind (m := field (.ref c) 1) (toR (wpAny_field hoc hdc hq (wpR_bind (wpR_pure ?_))))
  exact wpR_bind (wpR_mono h (fun binds s₁ h₁ => wpR_bind (wpR_mono h₁ (fun env s₂ h₂ => wpR_bind (toR (wpAny_enterFrame h₂.1 hroom
    (wpR_pure (And.intro rfl h₂.2))))) fun _ _ h' => h')) fun _ _ h' => h')
theorem codeR_call_plain {name : Str} {params : Arguments} {body : List Stmt} {scope : Scope} {pm cd doc : Value} {a : Addr} {o : Obj} {args : List Value} {binds : List (Str × Value)}
    (hroom : A.depth < recursionLimit) (ho : s.heap.get? a = some o) (hdata : o.data = .func (docDef name params body scope pm cd doc)) (hlim : s.heap.NoLimit) (hcd : s.heap.CodeRec cd name)
    (hbind : bindArgs (docDef name params body scope pm cd doc) ⟨args, []⟩ = pure binds) (hloc : ∀ x ∈ binds, scope.names.lookup x.1 = some .local)
    (h : ∀ h₁, Fr s.heap s.heap.objs.size h₁ (fun x => binds.reverse.lookup x) →
      wpR (model prog w) (A.deeper (envOf name scope s.heap.objs.size a cd)) (execs body (envOf name scope s.heap.objs.size a cd))
        (fun f s' => R (.ok (.ret (match f with | .ret v => v | _ => .none))) s')
        (fun e s' => wpR (model prog w) (A.deeper (envOf name scope s.heap.objs.size a cd)) (leaving (envOf name scope s.heap.objs.size a cd) e)
          (fun _ s'' => R (.error e) s'') (fun e' s'' => R (.error e') s'') s')
        { s with heap := h₁, toks := s.toks + binds.length })
    (hco : scope.isCoroutine = false) (hgen : scope.isGenerator = false) (hk : scope.kind = .function) (hcell : ∀ x ∈ scope.names, x.2 ≠ .cell) :
    codeR (model prog w) A (.call (.ref a) ⟨args, []⟩) R s := by
  refine codeR_call_function hroom ho hdata hco hgen rfl hcd ?_
  rw [hbind]
  refine wpR_pure (toR (wpAny_newFunctionEnv hcell hloc (fun h₁ hns hsb => ⟨hlim.fresh _ hsb, ?_⟩) hk))
  show codeR _ _ (.func body (envOf name scope s.heap.objs.size a cd)) _ _
  exact codeR_func (h h₁ ⟨hns, fun b o e => hsb.extBut b o (Nat.ne_of_lt (Heap.lt_size e)) (Heap.get?_push_of_some _ e), Nat.le_refl _⟩)
end
end Mine

namespace Mine

/-! ## pure data and how a heap bears it -/

/-- everything that stood stands -/
noncomputable abbrev Kp (h h' : Heap) : Prop := ∀ b o, h.get? b = some o → h'.get? b = some o

inductive PV where
  | none
  | bool (b : Bool)
  | int (i : Int)
  | str (l : List Nat)
  | bytes (l : List UInt8)
  | obj (v : Value)
  | tup (xs : List PV)
  | lst (xs : List PV)
  | ref (a : Addr)
  | rng (a b c : Int)
  /-- a list that was made as a plain list -/
  | lsn (xs : List PV)

mutual
noncomputable def V (D : Addr → Prop) (h : Heap) : PV → Value → Prop
  | .none, v => v = .none
  | .bool b, v => v = .bool b
  | .int i, v => ∃ t, v = .int i t
  | .str l, v => ∃ t, v = .str ⟨l.toArray⟩ t
  | .bytes l, v => ∃ t, v = .bytes l.toArray t
  | .obj w, v => v = w
  | .tup xs, v => ∃ a items, v = .ref a ∧ IsTup h a items ∧ Vs D h xs items.toList
  | .lst xs, v => ∃ a items, v = .ref a ∧ ¬ D a ∧ h.IsList a items ∧ Vs D h xs items.toList
  | .ref a, v => v = .ref a
  | .rng a b c, v => ∃ r t u z, v = .ref r ∧ h.get? r = some { cls := .type "range", dict := none, data := .fields #[.int a t, .int b u, .int c z], slots := #[] }
  | .lsn xs, v => ∃ a items n, v = .ref a ∧ ¬ D a ∧ h.get? a = some { cls := .type "list", data := .seq items n } ∧ Vs D h xs items.toList
noncomputable def Vs (D : Addr → Prop) (h : Heap) : List PV → List Value → Prop
  | [], vs => vs = []
  | x :: xs, vs => ∃ v r, vs = v :: r ∧ V D h x v ∧ Vs D h xs r
end

section
variable {D : Addr → Prop} {h : Heap}
theorem V_none {v} : V D h .none v ↔ v = .none := by simp only [V]
theorem V_bool {b v} : V D h (.bool b) v ↔ v = .bool b := by simp only [V]
theorem V_int {i v} : V D h (.int i) v ↔ ∃ t, v = .int i t := by simp only [V]
theorem V_str {l v} : V D h (.str l) v ↔ ∃ t, v = .str ⟨l.toArray⟩ t := by simp only [V]
theorem V_bytes {l v} : V D h (.bytes l) v ↔ ∃ t, v = .bytes l.toArray t := by simp only [V]
theorem V_obj {w v} : V D h (.obj w) v ↔ v = w := by simp only [V]
theorem V_tup {xs v} : V D h (.tup xs) v ↔ ∃ a items, v = .ref a ∧ IsTup h a items ∧ Vs D h xs items.toList := by simp only [V]
theorem V_lst {xs v} : V D h (.lst xs) v ↔ ∃ a items, v = .ref a ∧ ¬ D a ∧ h.IsList a items ∧ Vs D h xs items.toList := by simp only [V]
theorem V_ref {a v} : V D h (.ref a) v ↔ v = .ref a := by simp only [V]
theorem V_rng {a b c v} : V D h (.rng a b c) v ↔ ∃ r t u z, v = .ref r ∧ h.get? r = some { cls := .type "range", dict := none, data := .fields #[.int a t, .int b u, .int c z], slots := #[] } := by simp only [V]
theorem V_lsn {xs v} : V D h (.lsn xs) v ↔ ∃ a items n, v = .ref a ∧ ¬ D a ∧ h.get? a = some { cls := .type "list", data := .seq items n } ∧ Vs D h xs items.toList := by simp only [V]
theorem Vs_nil {vs} : Vs D h [] vs ↔ vs = [] := by simp only [Vs]
theorem Vs_cons {x xs vs} : Vs D h (x :: xs) vs ↔ ∃ v r, vs = v :: r ∧ V D h x v ∧ Vs D h xs r := by simp only [Vs]

theorem V.int (i : Int) (t : Tok) : V D h (.int i) (.int i t) := V_int.mpr ⟨t, rfl⟩
theorem V.bool (b : Bool) : V D h (.bool b) (.bool b) := V_bool.mpr rfl
theorem V.none : V D h .none .none := V_none.mpr rfl
theorem V.bytes (l : List UInt8) (t : Tok) : V D h (.bytes l) (.bytes l.toArray t) := V_bytes.mpr ⟨t, rfl⟩
theorem V.str (l : List Nat) (t : Tok) : V D h (.str l) (.str ⟨l.toArray⟩ t) := V_str.mpr ⟨t, rfl⟩

theorem Vs.length : ∀ {xs : List PV} {vs : List Value}, Vs D h xs vs → vs.length = xs.length
  | [], vs, e => by rw [Vs_nil] at e; subst e; rfl
  | x :: xs, vs, e => by
    rw [Vs_cons] at e
    obtain ⟨v, r, rfl, _, e3⟩ := e
    simp [Vs.length e3]
theorem Vs.get : ∀ {xs : List PV} {vs : List Value} (i : Nat) {x : PV}, Vs D h xs vs → xs[i]? = some x → ∃ v, vs[i]? = some v ∧ V D h x v
  | [], vs, i, x, e, hx => by simp at hx
  | y :: xs, vs, i, x, e, hx => by
    rw [Vs_cons] at e
    obtain ⟨v, r, rfl, e2, e3⟩ := e
    cases i with
    | zero => simp at hx; subst hx; exact ⟨v, rfl, e2⟩
    | succ i => simp at hx; obtain ⟨v', h1, h2⟩ := Vs.get i e3 hx; exact ⟨v', by simpa using h1, h2⟩
theorem Vs.append : ∀ {xs ys : List PV} {vs us : List Value}, Vs D h xs vs → Vs D h ys us → Vs D h (xs ++ ys) (vs ++ us)
  | [], ys, vs, us, e, f => by rw [Vs_nil] at e; subst e; simpa using f
  | x :: xs, ys, vs, us, e, f => by
    rw [Vs_cons] at e
    obtain ⟨v, r, rfl, e2, e3⟩ := e
    rw [List.cons_append, Vs_cons]
    exact ⟨v, r ++ us, rfl, e2, Vs.append e3 f⟩
theorem Vs.take : ∀ (n : Nat) {xs : List PV} {vs : List Value}, Vs D h xs vs → Vs D h (xs.take n) (vs.take n)
  | 0, xs, vs, e => by simp [Vs_nil]
  | n + 1, [], vs, e => by rw [Vs_nil] at e; subst e; simp [Vs_nil]
  | n + 1, x :: xs, vs, e => by
    rw [Vs_cons] at e
    obtain ⟨v, r, rfl, e2, e3⟩ := e
    rw [List.take_succ_cons, List.take_succ_cons, Vs_cons]
    exact ⟨v, _, rfl, e2, Vs.take n e3⟩
theorem Vs.drop : ∀ (n : Nat) {xs : List PV} {vs : List Value}, Vs D h xs vs → Vs D h (xs.drop n) (vs.drop n)
  | 0, xs, vs, e => by simpa using e
  | n + 1, [], vs, e => by rw [Vs_nil] at e; subst e; simp [Vs_nil]
  | n + 1, x :: xs, vs, e => by
    rw [Vs_cons] at e
    obtain ⟨v, r, rfl, e2, e3⟩ := e
    simpa using Vs.drop n e3
theorem Vs.ints : ∀ {ns : List Int} {vs : List Value}, Vs D h (ns.map PV.int) vs → IntsAre vs ns
  | [], vs, e => by
    simp only [List.map_nil, Vs_nil] at e; subst e; exact .nil
  | n :: ns, vs, e => by
    simp only [List.map_cons, Vs_cons] at e
    obtain ⟨v, r, rfl, e2, e3⟩ := e
    obtain ⟨t, rfl⟩ := V_int.mp e2
    exact .cons _ _ (Vs.ints e3)
theorem Vs.of_ints : ∀ {ns : List Int} {vs : List Value}, IntsAre vs ns → Vs D h (ns.map PV.int) vs
  | _, _, .nil => by simp [Vs_nil]
  | _, _, .cons _ _ e => by
    simp only [List.map_cons, Vs_cons]
    exact ⟨_, _, rfl, V.int _ _, Vs.of_ints e⟩
end

/-- an object whose data is one that a value's tree, or an iterator, reads -/
noncomputable def DataOk (d : Data) : Prop := match d with
  | .seq _ _ => True
  | .fields _ => True
  | _ => False

/-- a node of a value's tree -/
noncomputable def Node (D : Addr → Prop) (b : Addr) (o : Obj) : Prop :=
  (∃ xs n, o.data = .seq xs n ∧ (¬ D b ∨ o.cls = .type "tuple")) ∨ (o.cls = .type "range" ∧ ∃ vs, o.data = .fields vs)
theorem Node.ok {D : Addr → Prop} {b : Addr} {o : Obj} (x : Node D b o) : DataOk o.data ∧ (¬ D b ∨ o.cls = .type "tuple" ∨ o.cls = .type "range") := by
  rcases x with ⟨xs, n, hd, hc⟩ | ⟨hc, vs, hd⟩
  · exact ⟨by rw [hd]; trivial, hc.elim .inl fun c => .inr (.inl c)⟩
  · exact ⟨by rw [hd]; trivial, .inr (.inr hc)⟩

mutual
theorem V.move {D D' : Addr → Prop} {h h' : Heap}
    (hk : ∀ b o, h.get? b = some o → Node D b o → h'.get? b = some o)
    (hD : ∀ b o, h.get? b = some o → D' b → D b) : ∀ {x : PV} {v : Value}, V D h x v → V D' h' x v
  | .none, v, e => by rw [V_none] at *; exact e
  | .bool b, v, e => by rw [V_bool] at *; exact e
  | .int i, v, e => by rw [V_int] at *; exact e
  | .str l, v, e => by rw [V_str] at *; exact e
  | .bytes l, v, e => by rw [V_bytes] at *; exact e
  | .obj w, v, e => by rw [V_obj] at *; exact e
  | .ref k, v, e => by rw [V_ref] at *; exact e
  | .rng a b c, v, e => by
    rw [V_rng] at *
    obtain ⟨r, t, u, z, e1, e2⟩ := e
    exact ⟨r, t, u, z, e1, hk _ _ e2 (.inr ⟨rfl, _, rfl⟩)⟩
  | .tup xs, v, e => by
    rw [V_tup] at *
    obtain ⟨a, items, e1, ⟨o, ho, hc, n, hd⟩, e3⟩ := e
    exact ⟨a, items, e1, ⟨o, hk _ _ ho (.inl ⟨_, _, hd, .inr hc⟩), hc, n, hd⟩, Vs.move hk hD e3⟩
  | .lst xs, v, e => by
    rw [V_lst] at *
    obtain ⟨a, items, e1, e2, ⟨o, ho, hc, n, hd⟩, e3⟩ := e
    exact ⟨a, items, e1, fun d => e2 (hD _ _ ho d), ⟨o, hk _ _ ho (.inl ⟨_, _, hd, .inl e2⟩), hc, n, hd⟩, Vs.move hk hD e3⟩
  | .lsn xs, v, e => by
    rw [V_lsn] at *
    obtain ⟨a, items, n, e1, e2, ho, e3⟩ := e
    exact ⟨a, items, n, e1, fun d => e2 (hD _ _ ho d), hk _ _ ho (.inl ⟨_, _, rfl, .inl e2⟩), Vs.move hk hD e3⟩
theorem Vs.move {D D' : Addr → Prop} {h h' : Heap}
    (hk : ∀ b o, h.get? b = some o → Node D b o → h'.get? b = some o)
    (hD : ∀ b o, h.get? b = some o → D' b → D b) : ∀ {xs : List PV} {vs : List Value}, Vs D h xs vs → Vs D' h' xs vs
  | [], vs, e => by rw [Vs_nil] at *; exact e
  | x :: xs, vs, e => by
    rw [Vs_cons] at *
    obtain ⟨v, r, e1, e2, e3⟩ := e
    exact ⟨v, r, e1, V.move hk hD e2, Vs.move hk hD e3⟩
end
mutual
/-- growth alone -/
theorem V.grow {D : Addr → Prop} {h h' : Heap} (hk : Kp h h') : ∀ {x : PV} {v : Value}, V D h x v → V D h' x v
  | .none, v, e => by rw [V_none] at *; exact e
  | .bool b, v, e => by rw [V_bool] at *; exact e
  | .int i, v, e => by rw [V_int] at *; exact e
  | .str l, v, e => by rw [V_str] at *; exact e
  | .bytes l, v, e => by rw [V_bytes] at *; exact e
  | .obj w, v, e => by rw [V_obj] at *; exact e
  | .ref k, v, e => by rw [V_ref] at *; exact e
  | .rng a b c, v, e => by
    rw [V_rng] at *
    obtain ⟨r, t, u, z, e1, e2⟩ := e
    exact ⟨r, t, u, z, e1, hk _ _ e2⟩
  | .tup xs, v, e => by
    rw [V_tup] at *
    obtain ⟨a, items, e1, e2, e3⟩ := e
    exact ⟨a, items, e1, e2.keeps hk, Vs.grow hk e3⟩
  | .lst xs, v, e => by
    rw [V_lst] at *
    obtain ⟨a, items, e1, e2, ⟨o, ho, r⟩, e3⟩ := e
    exact ⟨a, items, e1, e2, ⟨o, hk _ _ ho, r⟩, Vs.grow hk e3⟩
  | .lsn xs, v, e => by
    rw [V_lsn] at *
    obtain ⟨a, items, n, e1, e2, ho, e3⟩ := e
    exact ⟨a, items, n, e1, e2, hk _ _ ho, Vs.grow hk e3⟩
theorem Vs.grow {D : Addr → Prop} {h h' : Heap} (hk : Kp h h') : ∀ {xs : List PV} {vs : List Value}, Vs D h xs vs → Vs D h' xs vs
  | [], vs, e => by rw [Vs_nil] at *; exact e
  | x :: xs, vs, e => by
    rw [Vs_cons] at *
    obtain ⟨v, r, e1, e2, e3⟩ := e
    exact ⟨v, r, e1, V.grow hk e2, Vs.grow hk e3⟩
end
mutual
/-- fewer owned addresses (among those that stand) -/
theorem V.less {D D' : Addr → Prop} {h : Heap} (hD : ∀ b o, h.get? b = some o → D' b → D b) : ∀ {x : PV} {v : Value}, V D h x v → V D' h x v
  | .none, v, e => by rw [V_none] at *; exact e
  | .bool b, v, e => by rw [V_bool] at *; exact e
  | .int i, v, e => by rw [V_int] at *; exact e
  | .str l, v, e => by rw [V_str] at *; exact e
  | .bytes l, v, e => by rw [V_bytes] at *; exact e
  | .obj w, v, e => by rw [V_obj] at *; exact e
  | .ref k, v, e => by rw [V_ref] at *; exact e
  | .rng a b c, v, e => by rw [V_rng] at *; exact e
  | .tup xs, v, e => by
    rw [V_tup] at *
    obtain ⟨a, items, e1, e2, e3⟩ := e
    exact ⟨a, items, e1, e2, Vs.less hD e3⟩
  | .lst xs, v, e => by
    rw [V_lst] at *
    obtain ⟨a, items, e1, e2, ⟨o, ho, r⟩, e3⟩ := e
    exact ⟨a, items, e1, fun d => e2 (hD _ _ ho d), ⟨o, ho, r⟩, Vs.less hD e3⟩
  | .lsn xs, v, e => by
    rw [V_lsn] at *
    obtain ⟨a, items, n, e1, e2, ho, e3⟩ := e
    exact ⟨a, items, n, e1, fun d => e2 (hD _ _ ho d), ho, Vs.less hD e3⟩
theorem Vs.less {D D' : Addr → Prop} {h : Heap} (hD : ∀ b o, h.get? b = some o → D' b → D b) : ∀ {xs : List PV} {vs : List Value}, Vs D h xs vs → Vs D' h xs vs
  | [], vs, e => by rw [Vs_nil] at *; exact e
  | x :: xs, vs, e => by
    rw [Vs_cons] at *
    obtain ⟨v, r, e1, e2, e3⟩ := e
    exact ⟨v, r, e1, V.less hD e2, Vs.less hD e3⟩
end
end Mine

namespace Mine

/-! ## states and judgements -/

inductive PO where
  | list (xs : List PV)
  | barr (l : List UInt8)

noncomputable abbrev Loc := List (Str × PV)
noncomputable abbrev Own := List (Addr × PO)

noncomputable def POat (D : Addr → Prop) (h : Heap) (a : Addr) : PO → Prop
  | .list xs => ∃ items n, h.get? a = some { cls := .type "list", data := .seq items n } ∧ Vs D h xs items.toList
  | .barr l => h.get? a = some { cls := .type "bytearray", data := .bytearray l.toArray }

structure Cx where
  prog : Program
  w : World
  B : Heap
  gl : List (Str × PV)

noncomputable def GloV (B : Heap) (x : Str) (v : Value) : Prop :=
  ∃ mg, B.Ns mainGlobals mg ∧ (mg x = some v ∨ (mg x = none ∧ ∃ mb, B.Ns builtinsNs mb ∧ mb x = some v))

structure Cx.Ok (Γ : Cx) : Prop where
  glob : ∀ x p, Γ.gl.lookup x = some p → ∃ v, GloV Γ.B x v ∧ ∀ D h, V D h p v
  nolimit : Γ.B.NoLimit

noncomputable abbrev Cx.M (Γ : Cx) : Model := model Γ.prog Γ.w

structure Fm where
  L : Addr
  cl : List (Str × Addr)
  q : Str
  f : Option Addr
  cd : Value
  fr : Option Addr
  /-- what the callers own -/
  D : Addr → Prop

/-- owned: by the callers, or here -/
noncomputable def Dm (F : Fm) (μ : Own) (b : Addr) : Prop := F.D b ∨ b ∈ μ.map (·.1)

noncomputable abbrev Fm.env (F : Fm) (sc : Scope) : Env :=
  { scope := sc, locals := F.L, globals := mainGlobals, cells := F.cl, qual := F.q, func := F.f, code := F.cd, frame := F.fr, builtins := builtinsNs }

structure Lv (n : Nat) (A : Around) : Prop where
  handled : A.handled = none
  depth : A.depth ≤ 310 + 10 * n
  units : A.units ≤ 100 + 100 * n
  guards : A.guards = some []

structure Gr (s s' : Shared) : Prop where
  keep : Kp s.heap s'.heap
  gens : s'.gens = s.gens
  os : s'.os = s.os
theorem Gr.refl (s : Shared) : Gr s s := ⟨fun _ _ e => e, rfl, rfl⟩
theorem Gr.trans {s s' s'' : Shared} (a : Gr s s') (b : Gr s' s'') : Gr s s'' :=
  ⟨fun x o e => b.keep x o (a.keep x o e), b.gens.trans a.gens, b.os.trans a.os⟩
theorem Gr.toks {s : Shared} (n : Nat) : Gr s { s with toks := n } := ⟨fun _ _ e => e, rfl, rfl⟩
theorem Gr.heap {s : Shared} {h' : Heap} (n : Nat) (hk : Kp s.heap h') : Gr s { s with heap := h', toks := n } := ⟨hk, rfl, rfl⟩
theorem Kp.push (h : Heap) (o : Obj) : Kp h (h.push o) := fun _ _ e => Heap.get?_push_of_some o e
theorem Kp.trans {a b c : Heap} (x : Kp a b) (y : Kp b c) : Kp a c := fun p o e => y p o (x p o e)

structure St (Γ : Cx) (sc : Scope) (F : Fm) (σ : Loc) (μ : Own) (s : Shared) : Prop where
  ok : Γ.Ok
  base : Kp Γ.B s.heap
  ns : ∃ m, s.heap.Ns F.L m ∧ ∀ x v, σ.lookup x = some v → sc.names.lookup x = some .local → ∃ val, m x = some val ∧ V (Dm F μ) s.heap v val
  cel : ∀ x v, σ.lookup x = some v → (sc.names.lookup x = some .cell ∨ sc.names.lookup x = some .free) →
    ∃ c val, F.cl.lookup x = some c ∧ s.heap.IsCell c (some val) ∧ V (Dm F μ) s.heap v val
  own : ∀ a o, (a, o) ∈ μ → POat (Dm F μ) s.heap a o
  dal : ∀ b, F.D b → (s.heap.get? b).isSome

theorem Kp.alive {h h' : Heap} (x : Kp h h') : ∀ b, (h.get? b).isSome → (h'.get? b).isSome := fun b e => by
  obtain ⟨o, ho⟩ := Option.isSome_iff_exists.mp e
  rw [x b o ho]; rfl
theorem POat.grow {D : Addr → Prop} {h h' : Heap} {a : Addr} {o : PO} (hk : Kp h h') (x : POat D h a o) : POat D h' a o := by
  cases o with
  | list xs => obtain ⟨items, n, ho, e⟩ := x; exact ⟨items, n, hk _ _ ho, e.grow hk⟩
  | barr l => exact hk _ _ x

theorem St.grow {Γ sc F σ μ s s'} (x : St Γ sc F σ μ s) (g : Gr s s') : St Γ sc F σ μ s' where
  ok := x.ok
  base := x.base.trans g.keep
  ns := let ⟨m, hn, hv⟩ := x.ns; ⟨m, hn.keeps g.keep, fun y v a b => let ⟨val, e, e'⟩ := hv y v a b; ⟨val, e, e'.grow g.keep⟩⟩
  cel := fun y v a b => let ⟨c, val, e1, e2, e3⟩ := x.cel y v a b; ⟨c, val, e1, e2.keeps g.keep, e3.grow g.keep⟩
  own := fun a o hm => (x.own a o hm).grow g.keep
  dal := fun b hb => g.keep.alive b (x.dal b hb)

noncomputable def Ev (Γ : Cx) (k : Nat) (sc : Scope) (σ : Loc) (μ : Own) (e : Expr) (v : PV) : Prop :=
  ∀ (A : Around) (n : Nat) (F : Fm) (s : Shared) (Q : Value → Shared → Prop) (E : Value → Shared → Prop), n + k ≤ 8 → Lv n A → St Γ sc F σ μ s →
    (∀ val s', Gr s s' → V (Dm F μ) s'.heap v val → Q val s') → wpR Γ.M A (eval e (F.env sc)) Q E s

/-- a test -/
noncomputable def Tr (Γ : Cx) (k : Nat) (sc : Scope) (σ : Loc) (μ : Own) (e : Expr) (b : Bool) : Prop :=
  ∀ (A : Around) (n : Nat) (F : Fm) (s : Shared) (Q : Bool → Shared → Prop) (E : Value → Shared → Prop), n + k ≤ 8 → Lv n A → St Γ sc F σ μ s →
    (∀ s', Gr s s' → Q b s') → wpR Γ.M A (isTrue e (F.env sc) (eval e (F.env sc))) Q E s

/-- the arguments of a call -/
noncomputable def Es (Γ : Cx) (k : Nat) (sc : Scope) (σ : Loc) (μ : Own) (pos : Pos) (es : List Expr) (vs : List PV) : Prop :=
  ∀ (A : Around) (n : Nat) (F : Fm) (s : Shared) (Q : List Value → Shared → Prop) (E : Value → Shared → Prop), n + k ≤ 8 → Lv n A → St Γ sc F σ μ s →
    (∀ vals s', Gr s s' → Vs (Dm F μ) s'.heap vs vals → Q vals s') → wpR Γ.M A (spliced (backTo pos (starEach es (F.env sc)))) Q E s

/-- what a call of a value gives: the answer's lists are new -/
noncomputable def CallOk (Γ : Cx) (k : Nat) (f : Value) (args : List PV) (r : PV) : Prop :=
  ∀ (A : Around) (n : Nat) (D : Addr → Prop) (s : Shared) (vals : List Value) (Q : Value → Shared → Prop) (E : Value → Shared → Prop), n + k ≤ 8 → Lv n A → Γ.Ok → Kp Γ.B s.heap →
    Vs D s.heap args vals → (∀ b, D b → (s.heap.get? b).isSome) → (∀ val s', Gr s s' → V D s'.heap r val → Q val s') → wpR Γ.M A (call f vals) Q E s

/-! ## expressions -/

section
variable {Γ : Cx} {k : Nat} {sc : Scope} {σ : Loc} {μ : Own} {pos : Pos}

noncomputable def isVar : Option NameKind → Bool
  | some .local | some .cell | some .free => true
  | _ => false

theorem Ev.name {x : Str} {v : PV} (h : σ.lookup x = some v) (hl : isVar (sc.names.lookup x) = true := by decide +kernel) (hk : sc.kind = .function := by kernel_rfl)
    (hd : (x == ("__debug__" : Str)) = false := by decide +kernel) (hc : (x == ("__classdict__" : Str)) = false := by decide +kernel) : Ev Γ k sc σ μ (.Name x pos) v := by
  intro A n F s Q E _ _ st hQ
  have hk' : (F.env sc).scope.kind = .function := hk
  refine toR (wpAny_Name ?_ hd)
  cases hn : sc.names.lookup x with
  | none => rw [hn] at hl; cases hl
  | some kd =>
    rw [hn] at hl
    have hkd : (F.env sc).kindOf x = some kd := hn
    cases kd with
    | «local» =>
      obtain ⟨m, hm, hv⟩ := st.ns
      obtain ⟨val, e, ev⟩ := hv x v h hn
      exact wpAny_loadName_local hk' hkd hm e (hQ _ _ (Gr.refl s) ev)
    | cell =>
      obtain ⟨c, val, e1, e2, e3⟩ := st.cel x v h (.inl hn)
      exact wpAny_loadName_cell hk' hkd e1 e2 (hQ _ _ (Gr.refl s) e3)
    | free =>
      obtain ⟨c, val, e1, e2, e3⟩ := st.cel x v h (.inr hn)
      exact wpAny_loadName_free hk' hkd e1 e2 (hQ _ _ (Gr.refl s) e3) hc
    | _ => cases hl

theorem Ev.glob {x : Str} {v : PV} (h : Γ.gl.lookup x = some v) (hl : sc.names.lookup x = some .globalImplicit := by kernel_rfl) (hk : sc.kind = .function := by kernel_rfl)
    (hd : (x == ("__debug__" : Str)) = false := by decide +kernel) : Ev Γ k sc σ μ (.Name x pos) v := by
  intro A n F s Q E _ _ st hQ
  obtain ⟨val, ⟨mg, hg, hx⟩, hv⟩ := st.ok.glob x v h
  have hq : Q val s := hQ _ _ (Gr.refl s) (hv _ _)
  refine toR (Name_function_global (env := F.env sc) hk hl ?_ hd)
  rcases hx with hx | ⟨hx, mb, hb, hy⟩
  · exact loadGlobal_global (env := F.env sc) (hg.keeps st.base) hx hq
  · exact loadGlobal_builtin (env := F.env sc) (hg.keeps st.base) hx (hb.keeps st.base) hy hq

theorem Ev.cint {i : Int} {kd : Nat} : Ev Γ k sc σ μ (.Constant (.int i) kd pos) (.int i) :=
  fun _ _ _ _ _ _ _ _ _ hQ => toR (wpAny_Constant_int (hQ _ _ (Gr.toks _) (V.int _ _)))
theorem Ev.cnone {kd : Nat} : Ev Γ k sc σ μ (.Constant .none kd pos) .none :=
  fun _ _ _ _ _ _ _ _ _ hQ => toR (wpAny_Constant_none (hQ _ _ (Gr.refl _) V.none))
theorem Ev.cstr {x : Str} {kd : Nat} {l : List Nat} (e : x.cps.toList = l) : Ev Γ k sc σ μ (.Constant (.str x) kd pos) (.str l) := by
  intro _ _ _ _ _ _ _ _ _ hQ
  refine toR (wpAny_Constant_str (hQ _ _ (Gr.toks _) ?_))
  subst e; exact V_str.mpr ⟨_, rfl⟩
/-- two operands and an operation on values -/
noncomputable def Op2 (Γ : Cx) (f : Value → Value → Sem Value) (a b r : PV) : Prop :=
  ∀ (A : Around) (n : Nat) (D : Addr → Prop) (s : Shared) (x y : Value) (Q : Value → Shared → Prop) (E : Value → Shared → Prop), n ≤ 8 → Lv n A → Γ.Ok → Kp Γ.B s.heap → V D s.heap a x → V D s.heap b y → (∀ b, D b → (s.heap.get? b).isSome) →
    (∀ val s', Gr s s' → V D s'.heap r val → Q val s') → wpAny Γ.M A (f x y) Q E s

theorem St.dom {Γ sc F σ μ s} (st : St Γ sc F σ μ s) : ∀ b, Dm F μ b → (s.heap.get? b).isSome := by
  intro b hb
  rcases hb with hb | hb
  · exact st.dal b hb
  obtain ⟨p, hp, rfl⟩ := List.mem_map.mp hb
  have := st.own p.1 p.2 hp
  cases hq : p.2 with
  | list xs => rw [hq] at this; obtain ⟨items, _, ho, _⟩ := this; rw [ho]; rfl
  | barr l =>
    rw [hq] at this
    have ho : s.heap.get? p.1 = some { cls := .type "bytearray", data := .bytearray l.toArray } := this
    rw [ho]; rfl

theorem Ev.bin {l r : Expr} {op : Operator} {a b c : PV} (hl : Ev Γ k sc σ μ l a) (hr : Ev Γ k sc σ μ r b) (ho : Op2 Γ (binaryOp op) a b c) : Ev Γ k sc σ μ (.BinOp l op r pos) c := by
  intro A n F s Q E hn hA st hQ
  refine wpR_BinOp (hl A n F s _ _ hn hA st fun x s₁ g₁ hx => ?_)
  refine hr A n F s₁ _ _ hn hA (st.grow g₁) fun y s₂ g₂ hy => ?_
  exact toR <| ho A n _ s₂ x y _ _ (by omega) hA st.ok ((st.grow g₁).grow g₂).base (hx.grow g₂.keep) hy ((st.grow g₁).grow g₂).dom fun v s₃ g₃ hv => hQ v s₃ ((g₁.trans g₂).trans g₃) hv

theorem Ev.cmp {l r : Expr} {op : CmpOp} {a b c : PV} (hl : Ev Γ k sc σ μ l a) (hr : Ev Γ k sc σ μ r b) (ho : Op2 Γ (compareOp op) a b c)
    (hm : behindInMarks op r = false := by kernel_rfl) : Ev Γ k sc σ μ (.Compare l [op] [r] pos) c := by
  intro A n F s Q E hn hA st hQ
  refine wpR_Compare1 (hl A n F s _ _ hn hA st fun x s₁ g₁ hx => ?_) hm
  refine hr A n F s₁ _ _ hn hA (st.grow g₁) fun y s₂ g₂ hy => ?_
  exact toR <| ho A n _ s₂ x y _ _ (by omega) hA st.ok ((st.grow g₁).grow g₂).base (hx.grow g₂.keep) hy ((st.grow g₁).grow g₂).dom fun v s₃ g₃ hv => hQ v s₃ ((g₁.trans g₂).trans g₃) hv

theorem Tr.cmp {l r : Expr} {op : CmpOp} {a b : PV} {c : Bool} (hl : Ev Γ k sc σ μ l a) (hr : Ev Γ k sc σ μ r b) (ho : Op2 Γ (compareOp op) a b (.bool c))
    (hm : behindInMarks op r = false := by kernel_rfl) : Tr Γ k sc σ μ (.Compare l [op] [r] pos) c := by
  intro A n F s Q E hn hA st hQ
  refine wpR_isTrue_Compare1 (hl A n F s _ _ hn hA st fun x s₁ g₁ hx => ?_) hm
  refine hr A n F s₁ _ _ hn hA (st.grow g₁) fun y s₂ g₂ hy => ?_
  refine toR (ho A n _ s₂ x y _ _ (by omega) hA st.ok ((st.grow g₁).grow g₂).base (hx.grow g₂.keep) hy ((st.grow g₁).grow g₂).dom fun v s₃ g₃ hv => ?_)
  rw [V_bool] at hv; subst hv
  exact toR (wpAny_truthy_bool (hQ s₃ ((g₁.trans g₂).trans g₃)))

/-- `a <= x <= b` -/
theorem Tr.cmp2 {l r t : Expr} {op op' : CmpOp} {a b d : PV} {c c' : Bool} (hl : Ev Γ k sc σ μ l a) (hr : Ev Γ k sc σ μ r b) (ho : Op2 Γ (compareOp op) a b (.bool c))
    (ht : c = true → Ev Γ k sc σ μ t d) (ho' : c = true → Op2 Γ (compareOp op') b d (.bool c'))
    (hm : ∀ env, markedEach [op, op'] [r, t] (evalEach [r, t] env) = [eval r env, eval t env] := by intro _; kernel_rfl) : Tr Γ k sc σ μ (.Compare l [op, op'] [r, t] pos) (c && c') := by
  intro A n F s Q E hn hA st hQ
  show wpR _ _ (do testChain pos (← eval l (F.env sc)) [op, op'] (markedEach [op, op'] [r, t] (evalEach [r, t] (F.env sc)))) Q E s
  rw [hm]
  refine wpR_bind (hl A n F s _ _ hn hA st fun x s₁ g₁ hx => ?_)
  show wpR _ _ (do
    let rv ← holding [x] (eval r (F.env sc))
    standAt pos
    let c ← holding [x, rv] (compareOp op x rv)
    release [x, rv] [c]
    if ← holding [c, rv] (truthy c) then testChain pos rv [op'] [eval t (F.env sc)] else pure false) Q E s₁
  refine wpR_bind (wpR_holding (hr A n F s₁ _ _ hn hA (st.grow g₁) fun y s₂ g₂ hy => wpR_bind (wpR_standAt (wpR_bind (wpR_holding ?_)))))
  refine toR (ho A n _ s₂ x y _ _ (by omega) hA st.ok ((st.grow g₁).grow g₂).base (hx.grow g₂.keep) hy ((st.grow g₁).grow g₂).dom fun v s₃ g₃ hv => ?_)
  rw [V_bool] at hv; subst hv
  refine wpR_bind (wpR_release ?_)
  refine wpR_bind (wpR_holding (toR (wpAny_truthy_bool ?_)))
  cases c with
  | false => exact wpR_pure (hQ s₃ ((g₁.trans g₂).trans g₃))
  | true =>
    simp only [if_true]
    show wpR _ _ (do
      let rv ← holding [y] (eval t (F.env sc))
      standAt pos
      let c ← operate [y, rv] (compareOp op' y rv)
      holding [c] (truthy c)) Q E s₃
    refine wpR_bind (wpR_holding (ht rfl A n F s₃ _ _ hn hA (((st.grow g₁).grow g₂).grow g₃) fun z s₄ g₄ hz => wpR_bind (wpR_standAt (wpR_bind ?_))))
    refine wpR_operate ?_
    refine toR (ho' rfl A n _ s₄ y z _ _ (by omega) hA st.ok ((((st.grow g₁).grow g₂).grow g₃).grow g₄).base ((hy.grow g₃.keep).grow g₄.keep) hz ((((st.grow g₁).grow g₂).grow g₃).grow g₄).dom fun v s₅ g₅ hv => ?_)
    rw [V_bool] at hv; subst hv
    exact wpR_holding (toR (wpAny_truthy_bool (hQ s₅ ((((g₁.trans g₂).trans g₃).trans g₄).trans g₅))))

/-- a value's truth -/
noncomputable def Truth (Γ : Cx) (a : PV) (b : Bool) : Prop :=
  ∀ (A : Around) (n : Nat) (D : Addr → Prop) (s : Shared) (x : Value) (Q : Bool → Shared → Prop) (E : Value → Shared → Prop), n ≤ 8 → Lv n A → Kp Γ.B s.heap → V D s.heap a x → (∀ s', Gr s s' → Q b s') → wpAny Γ.M A (truthy x) Q E s

theorem Tr.val {e : Expr} {a : PV} {b : Bool} (h : Ev Γ k sc σ μ e a) (ht : Truth Γ a b)
    (he : ∀ env, isTrue e env (eval e env) = (do let v ← eval e env; standAt e.pos; holding [v] (truthy v)) := by intro _; kernel_rfl) : Tr Γ k sc σ μ e b := by
  intro A n F s Q E hn hA st hQ
  refine wpR_isTrue_value (h A n F s _ _ hn hA st fun x s₁ g₁ hx => ?_) (he _)
  exact toR (ht A n _ s₁ x _ _ (by omega) hA (st.grow g₁).base hx fun s₂ g₂ => hQ s₂ (g₁.trans g₂))
theorem Truth.bool {b : Bool} : Truth Γ (.bool b) b := by
  intro A n D s x Q E _ _ _ hx hQ
  rw [V_bool] at hx; subst hx
  exact wpAny_truthy_bool (hQ s (Gr.refl s))
theorem Tr.or2 {e f : Expr} {a b : Bool} (he : Tr Γ k sc σ μ e a) (hf : a = false → Tr Γ k sc σ μ f b) : Tr Γ k sc σ μ (.BoolOp .Or [e, f] pos) (a || b) := by
  intro A n F s Q E hn hA st hQ
  refine wpR_isTrue_BoolOp (wpR_allTrue_Or_cons (he A n F s _ _ hn hA st fun s₁ g₁ => ?_))
  cases a with
  | true => exact hQ s₁ g₁
  | false =>
    refine wpR_allTrue_Or_cons (hf rfl A n F s₁ _ _ hn hA (st.grow g₁) fun s₂ g₂ => ?_)
    cases b with
    | true => exact hQ s₂ (g₁.trans g₂)
    | false => exact wpR_allTrue_Or_nil (hQ s₂ (g₁.trans g₂))

theorem Ev.ifexp {t a b : Expr} {c : Bool} {v : PV} (ht : Tr Γ k sc σ μ t c) (ha : c = true → Ev Γ k sc σ μ a v) (hb : c = false → Ev Γ k sc σ μ b v) : Ev Γ k sc σ μ (.IfExp t a b pos) v := by
  intro A n F s Q E hn hA st hQ
  refine wpR_IfExp (ht A n F s _ _ hn hA st fun s₁ g₁ => ?_)
  cases c with
  | true => exact ha rfl A n F s₁ _ _ hn hA (st.grow g₁) fun v s₂ g₂ hv => hQ v s₂ (g₁.trans g₂) hv
  | false => exact hb rfl A n F s₁ _ _ hn hA (st.grow g₁) fun v s₂ g₂ hv => hQ v s₂ (g₁.trans g₂) hv

theorem Ev.neg {e : Expr} {i : Int} (h : Ev Γ k sc σ μ e (.int i)) : Ev Γ k sc σ μ (.UnaryOp .USub e pos) (.int (-i)) := by
  intro A n F s Q E hn hA st hQ
  refine wpR_UnaryOp (h A n F s _ _ hn hA st fun v s₁ g₁ hv => ?_)
  obtain ⟨t, rfl⟩ := V_int.mp hv
  exact toR <| neg_int (hQ _ _ (g₁.trans (Gr.toks _)) (V.int _ _))

theorem Es.nil : Es Γ k sc σ μ pos [] [] := fun _ _ _ s _ _ _ _ _ hQ => toR (wpAny_items_nil (hQ _ _ (Gr.refl s) (Vs_nil.mpr rfl)))
theorem Es.cons {e : Expr} {es : List Expr} {v : PV} {vs : List PV} (h : Ev Γ k sc σ μ e v) (hs : Es Γ k sc σ μ pos es vs)
    (he : ∀ env, starEach (e :: es) env = (false, eval e env) :: starEach es env := by intro _; kernel_rfl) : Es Γ k sc σ μ pos (e :: es) (v :: vs) := by
  intro A n F s Q E hn hA st hQ
  refine wpR_items_cons (h A n F s _ _ hn hA st fun x s₁ g₁ hx => ?_) (he _)
  exact hs A n F s₁ _ _ hn hA (st.grow g₁) fun xs s₂ g₂ hxs => hQ _ s₂ (g₁.trans g₂) (Vs_cons.mpr ⟨x, xs, rfl, hx.grow g₂.keep, hxs⟩)
end

/-! ## operations on ints -/
section
variable {Γ : Cx} {a b : Int}
theorem Op2.add : Op2 Γ (binaryOp .Add) (.int a) (.int b) (.int (a + b)) := by
  intro A n D s x y Q E _ _ _ _ hx hy _ hQ
  obtain ⟨t, rfl⟩ := V_int.mp hx; obtain ⟨u, rfl⟩ := V_int.mp hy
  exact PyProof.Rows.add_int (hQ _ _ (Gr.toks _) (V.int _ _))
theorem Op2.sub : Op2 Γ (binaryOp .Sub) (.int a) (.int b) (.int (a - b)) := by
  intro A n D s x y Q E _ _ _ _ hx hy _ hQ
  obtain ⟨t, rfl⟩ := V_int.mp hx; obtain ⟨u, rfl⟩ := V_int.mp hy
  exact PyProof.Rows.sub_int (hQ _ _ (Gr.toks _) (V.int _ _))
theorem Op2.mul (hm : IntMulOk a b) : Op2 Γ (binaryOp .Mult) (.int a) (.int b) (.int (a * b)) := by
  intro A n D s x y Q E _ _ _ _ hx hy _ hQ
  obtain ⟨t, rfl⟩ := V_int.mp hx; obtain ⟨u, rfl⟩ := V_int.mp hy
  exact PyProof.Rows.mul_int (hQ _ _ (Gr.toks _) (V.int _ _)) hm
theorem Op2.fdiv (hb : 0 < b) (hs : b < 2 ^ 64) : Op2 Γ (binaryOp .FloorDiv) (.int a) (.int b) (.int (a / b)) := by
  intro A n D s x y Q E _ _ _ _ hx hy _ hQ
  obtain ⟨t, rfl⟩ := V_int.mp hx; obtain ⟨u, rfl⟩ := V_int.mp hy
  refine PyProof.Rows.floordiv_int (by omega) ?_ (.inl (PyProof.noPylong_of_log2 ?_))
  · rw [Int.fdiv_eq_ediv_of_nonneg _ (by omega)]; exact hQ _ _ (Gr.toks _) (V.int _ _)
  · have : b.natAbs < 2 ^ 64 := by omega
    have h1 : b.natAbs.log2 < 64 := (Nat.log2_lt (by omega)).mpr this
    omega
theorem Op2.mod (hb : 0 < b) : Op2 Γ (binaryOp .Mod) (.int a) (.int b) (.int (a % b)) := by
  intro A n D s x y Q E _ _ _ _ hx hy _ hQ
  obtain ⟨t, rfl⟩ := V_int.mp hx; obtain ⟨u, rfl⟩ := V_int.mp hy
  refine PyProof.Rows.mod_int' (by omega) ?_
  rw [Int.fmod_eq_emod_of_nonneg _ (by omega)]; exact hQ _ _ (Gr.toks _) (V.int _ _)
theorem Op2.pow {m : Nat} (hm : m ≤ 1000000) (ha : a.natAbs < 2 ^ 64) (hb : b = (m : Int)) : Op2 Γ (binaryOp .Pow) (.int a) (.int b) (.int (a ^ m)) := by
  intro A n D s x y Q E _ _ _ _ hx hy _ hQ
  obtain ⟨t, rfl⟩ := V_int.mp hx; obtain ⟨u, rfl⟩ := V_int.mp hy
  subst hb
  refine PyProof.Rows.pow_int_small (by omega) (by omega) ha ?_
  exact hQ _ _ (Gr.toks _) (by simpa using V.int (a ^ m) _)
theorem Op2.lt : Op2 Γ (compareOp .Lt) (.int a) (.int b) (.bool (decide (a < b))) := by
  intro A n D s x y Q E _ _ _ _ hx hy _ hQ
  obtain ⟨t, rfl⟩ := V_int.mp hx; obtain ⟨u, rfl⟩ := V_int.mp hy
  exact PyProof.Rows.lt_int (hQ _ _ (Gr.refl _) (V.bool _))
theorem Op2.gt : Op2 Γ (compareOp .Gt) (.int a) (.int b) (.bool (decide (b < a))) := by
  intro A n D s x y Q E _ _ _ _ hx hy _ hQ
  obtain ⟨t, rfl⟩ := V_int.mp hx; obtain ⟨u, rfl⟩ := V_int.mp hy
  exact PyProof.Rows.gt_int (hQ _ _ (Gr.refl _) (V.bool _))
theorem Op2.eq : Op2 Γ (compareOp .Eq) (.int a) (.int b) (.bool (decide (a = b))) := by
  intro A n D s x y Q E _ _ _ _ hx hy _ hQ
  obtain ⟨t, rfl⟩ := V_int.mp hx; obtain ⟨u, rfl⟩ := V_int.mp hy
  refine PyProof.Rows.eq_int ?_
  have := hQ (.bool (decide (a = b))) s (Gr.refl _) (V.bool _)
  rwa [show (a == b) = decide (a = b) from by rw [Bool.eq_iff_iff]; simp]
theorem Op2.ne : Op2 Γ (compareOp .NotEq) (.int a) (.int b) (.bool (decide (a ≠ b))) := by
  intro A n D s x y Q E _ _ _ _ hx hy _ hQ
  obtain ⟨t, rfl⟩ := V_int.mp hx; obtain ⟨u, rfl⟩ := V_int.mp hy
  refine PyProof.Rows.ne_int ?_
  have := hQ (.bool (decide (a ≠ b))) s (Gr.refl _) (V.bool _)
  rwa [show (a != b) = decide (a ≠ b) from by rw [Bool.eq_iff_iff]; simp]
theorem Op2.le : Op2 Γ (compareOp .LtE) (.int a) (.int b) (.bool (decide (a ≤ b))) := by
  intro A n D s x y Q E _ _ _ _ hx hy _ hQ
  obtain ⟨t, rfl⟩ := V_int.mp hx; obtain ⟨u, rfl⟩ := V_int.mp hy
  exact PyProof.Rows.le_int (hQ _ _ (Gr.refl _) (V.bool _))
theorem Op2.iadd : Op2 Γ (inplaceOp .Add) (.int a) (.int b) (.int (a + b)) := by
  intro A n D s x y Q E _ _ _ _ hx hy _ hQ
  obtain ⟨t, rfl⟩ := V_int.mp hx; obtain ⟨u, rfl⟩ := V_int.mp hy
  exact PyProof.Rows.iadd_int (hQ _ _ (Gr.toks _) (V.int _ _))
theorem Op2.isub : Op2 Γ (inplaceOp .Sub) (.int a) (.int b) (.int (a - b)) := by
  intro A n D s x y Q E _ _ _ _ hx hy _ hQ
  obtain ⟨t, rfl⟩ := V_int.mp hx; obtain ⟨u, rfl⟩ := V_int.mp hy
  exact PyProof.Rows.isub_int (hQ _ _ (Gr.toks _) (V.int _ _))
theorem Op2.imul (hm : IntMulOk a b) : Op2 Γ (inplaceOp .Mult) (.int a) (.int b) (.int (a * b)) := by
  intro A n D s x y Q E _ _ _ _ hx hy _ hQ
  obtain ⟨t, rfl⟩ := V_int.mp hx; obtain ⟨u, rfl⟩ := V_int.mp hy
  exact PyProof.Rows.imul_int (hQ _ _ (Gr.toks _) (V.int _ _)) hm
theorem Op2.ifdiv (hb : 0 < b) (hs : b < 2 ^ 64) : Op2 Γ (inplaceOp .FloorDiv) (.int a) (.int b) (.int (a / b)) := by
  intro A n D s x y Q E _ _ _ _ hx hy _ hQ
  obtain ⟨t, rfl⟩ := V_int.mp hx; obtain ⟨u, rfl⟩ := V_int.mp hy
  refine PyProof.Rows.ifloordiv_int (by omega) ?_ (.inl (PyProof.noPylong_of_log2 ?_))
  · rw [Int.fdiv_eq_ediv_of_nonneg _ (by omega)]; exact hQ _ _ (Gr.toks _) (V.int _ _)
  · have : b.natAbs < 2 ^ 64 := by omega
    have h1 : b.natAbs.log2 < 64 := (Nat.log2_lt (by omega)).mpr this
    omega
end
end Mine

namespace Mine

/-! ## statements -/

structure Sx (Γ : Cx) (h₀ : Heap) (sc : Scope) (F : Fm) (σ : Loc) (μ : Own) (s : Shared) (cs : Scope := sc) : Prop extends St Γ sc F σ μ s where
  keep : Kp h₀ s.heap
  baseh : Kp Γ.B h₀
  newL : h₀.get? F.L = none
  cells : ∀ x, cs.names.lookup x = some .cell → ∃ c v, F.cl.lookup x = some c ∧ h₀.get? c = none ∧ s.heap.IsCell c v
  cellsAll : ∀ x c, F.cl.lookup x = some c → ∃ v, s.heap.IsCell c v
  cellsApart : ∀ x y c, cs.names.lookup x = some .cell → F.cl.lookup x = some c → F.cl.lookup y = some c → y = x
  ownNew : ∀ b, b ∈ μ.map (·.1) → h₀.get? b = none
  dold : ∀ b, F.D b → (h₀.get? b).isSome
  apart : (μ.map (·.1)).Nodup

inductive Fl where
  | next | brk | cont
  | ret (v : PV)

noncomputable def FlV (D : Addr → Prop) (h : Heap) : Fl → Flow → Prop
  | .next, f => f = .next
  | .brk, f => f = .brk
  | .cont, f => f = .cont
  | .ret v, f => ∃ val, f = .ret val ∧ V D h v val

structure Sp (F : Fm) (μ μ' : Own) (s s' : Shared) : Prop where
  keep : ∀ b o, s.heap.get? b = some o → b ≠ F.L → (∀ x, F.cl.lookup x ≠ some b) → ¬ Dm F μ b → s'.heap.get? b = some o
  alive : ∀ b, (s.heap.get? b).isSome → (s'.heap.get? b).isSome
  dom : ∀ b, (s.heap.get? b).isSome → Dm F μ' b → Dm F μ b
  gens : s'.gens = s.gens
  os : s'.os = s.os

theorem Sp.refl (F : Fm) (μ : Own) (s : Shared) : Sp F μ μ s s := ⟨fun _ _ e _ _ _ => e, fun _ e => e, fun _ _ e => e, rfl, rfl⟩
theorem Sp.gr {F : Fm} {μ : Own} {s s' : Shared} (g : Gr s s') : Sp F μ μ s s' := ⟨fun b o e _ _ _ => g.keep b o e, g.keep.alive, fun _ _ e => e, g.gens, g.os⟩
theorem Sp.trans {F : Fm} {μ μ' μ'' : Own} {s s' s'' : Shared} (a : Sp F μ μ' s s') (b : Sp F μ' μ'' s' s'') : Sp F μ μ'' s s'' where
  keep := fun x o e h1 h2 h3 => b.keep x o (a.keep x o e h1 h2 h3) h1 h2 fun d => h3 (a.dom x (by rw [e]; rfl) d)
  alive := fun x e => b.alive x (a.alive x e)
  dom := fun x e d => a.dom x e (b.dom x (a.alive x e) d)
  gens := b.gens.trans a.gens
  os := b.os.trans a.os

noncomputable def Xs (Γ : Cx) (k : Nat) (sc : Scope) (σ : Loc) (μ : Own) (sts : List Stmt) (P : Fl → Loc → Own → Prop) : Prop :=
  ∀ (A : Around) (n : Nat) (F : Fm) (h₀ : Heap) (s : Shared) (Q : Flow → Shared → Prop) (E : Value → Shared → Prop), n + k ≤ 8 → Lv n A → Sx Γ h₀ sc F σ μ s →
    (∀ fl σ' μ' f s', P fl σ' μ' → Sx Γ h₀ sc F σ' μ' s' → Sp F μ μ' s s' → FlV (Dm F μ') s'.heap fl f → Q f s') → wpR Γ.M A (execs sts (F.env sc)) Q E s
noncomputable def X1 (Γ : Cx) (k : Nat) (sc : Scope) (σ : Loc) (μ : Own) (st : Stmt) (P : Fl → Loc → Own → Prop) : Prop :=
  ∀ (A : Around) (n : Nat) (F : Fm) (h₀ : Heap) (s : Shared) (Q : Flow → Shared → Prop) (E : Value → Shared → Prop), n + k ≤ 8 → Lv n A → Sx Γ h₀ sc F σ μ s →
    (∀ fl σ' μ' f s', P fl σ' μ' → Sx Γ h₀ sc F σ' μ' s' → Sp F μ μ' s s' → FlV (Dm F μ') s'.heap fl f → Q f s') → wpR Γ.M A (exec st (F.env sc)) Q E s

theorem Sx.grow {Γ h₀ sc F σ μ s s'} {cs : Scope} (x : Sx Γ h₀ sc F σ μ s cs) (g : Gr s s') : Sx Γ h₀ sc F σ μ s' cs :=
  { x.toSt.grow g with
    keep := x.keep.trans g.keep
    baseh := x.baseh
    newL := x.newL
    cells := fun y e => let ⟨c, v, a, b, d⟩ := x.cells y e; ⟨c, v, a, b, d.keeps g.keep⟩
    cellsAll := fun y c e => let ⟨v, d⟩ := x.cellsAll y c e; ⟨v, d.keeps g.keep⟩
    cellsApart := x.cellsApart
    ownNew := x.ownNew
    dold := x.dold
    apart := x.apart }

/-- what an update of an object that no tree reads leaves -/
theorem V.same {D : Addr → Prop} {h h' : Heap} {c : Addr} {o : Obj} (hs : Heap.SameBut c h h') (ho : h.get? c = some o) (hd : ¬ DataOk o.data) {x : PV} {v : Value} (e : V D h x v) : V D h' x v :=
  V.move (fun b o' hb hd' => (hs.2 b (fun q => by subst q; rw [ho] at hb; cases hb; exact hd hd'.ok.1)).trans hb) (fun _ _ _ d => d) e
theorem Vs.same {D : Addr → Prop} {h h' : Heap} {c : Addr} {o : Obj} (hs : Heap.SameBut c h h') (ho : h.get? c = some o) (hd : ¬ DataOk o.data) {x : List PV} {v : List Value} (e : Vs D h x v) : Vs D h' x v :=
  Vs.move (fun b o' hb hd' => (hs.2 b (fun q => by subst q; rw [ho] at hb; cases hb; exact hd hd'.ok.1)).trans hb) (fun _ _ _ d => d) e
theorem POat.same {D : Addr → Prop} {h h' : Heap} {c a : Addr} {o : Obj} {p : PO} (hs : Heap.SameBut c h h') (ho : h.get? c = some o) (hd : ¬ DataOk o.data) (hb : ∀ l n, o.data ≠ .bytearray l n) (e : POat D h a p) : POat D h' a p := by
  cases p with
  | list xs =>
    obtain ⟨items, n, ho', e⟩ := e
    refine ⟨items, n, (hs.2 a (fun q => ?_)).trans ho', e.same hs ho hd⟩
    subst q; rw [ho] at ho'; cases ho'; exact hd trivial
  | barr l =>
    refine (hs.2 a (fun q => ?_)).trans e
    subst q
    have e' : h.get? a = some { cls := .type "bytearray", data := .bytearray l.toArray } := e
    rw [ho] at e'; cases e'; exact hb _ _ rfl

section
variable {Γ : Cx} {k : Nat} {sc : Scope} {σ : Loc} {μ : Own} {pos : Pos} {P : Fl → Loc → Own → Prop} {A : Around} {F : Fm} {h₀ : Heap} {s : Shared} {E : Value → Shared → Prop}

theorem lookup_cons_ne {x y : Str} {v : PV} {σ : Loc} (h : y ≠ x) : ((x, v) :: σ : Loc).lookup y = σ.lookup y := by
  rw [List.lookup_cons]
  have : (y == x) = false := beq_eq_false_iff_ne.mpr h
  rw [this]
theorem lookup_cons_self {x : Str} {v : PV} {σ : Loc} : ((x, v) :: σ : Loc).lookup x = some v := by
  rw [List.lookup_cons]; simp

noncomputable def isPlace : Option NameKind → Bool
  | some .local | some .cell => true
  | _ => false

theorem Sx.store {x : Str} {v : PV} {val : Value} {cs : Scope} {Q : Unit → Shared → Prop} (X : Sx Γ h₀ sc F σ μ s cs) (hv : V (Dm F μ) s.heap v val) (hl : isPlace (sc.names.lookup x) = true) (hk : sc.kind = .function)
    (hQ : ∀ s', Sx Γ h₀ sc F ((x, v) :: σ) μ s' cs → Sp F μ μ s s' → V (Dm F μ) s'.heap v val → Q () s') (hsame : sc.names.lookup x = cs.names.lookup x := by rfl) : wpAny Γ.M A (storeName (F.env sc) x val) Q E s := by
  obtain ⟨m, hn, hvs⟩ := X.ns
  obtain ⟨oL, es, ep, hoL, hdL, hkL, hfL⟩ := id hn
  have hnotL : ¬ DataOk oL.data := by rw [hdL]; exact id
  have hbL : ∀ l n, oL.data ≠ .bytearray l n := by rw [hdL]; intro _ _ q; cases q
  cases hx : sc.names.lookup x with
  | none => rw [hx] at hl; cases hl
  | some kd =>
    rw [hx] at hl
    have hkd : (F.env sc).kindOf x = some kd := hx
    cases kd with
    | «local» =>
      refine wpAny_storeName_local (env := F.env sc) hkd hn (fun h' hn' hs => ?_) (by show (sc.kind == .class || (sc.kind == .module && _)) = false; rw [hk]; rfl)
      have hne : ∀ b o, h₀.get? b = some o → b ≠ F.L := fun b o e q => by rw [q, X.newL] at e; cases e
      have hcell : ∀ c w, s.heap.IsCell c w → c ≠ F.L := fun c w ⟨o, ho, hd⟩ q => by subst q; rw [hoL] at ho; cases ho; rw [hdL] at hd; cases hd
      have hv' := hv.same hs hoL hnotL
      have halive : ∀ b, (s.heap.get? b).isSome → (h'.get? b).isSome := fun b e => by
        by_cases q : b = F.L
        · subst q; obtain ⟨o', _, _, ho', _⟩ := hn'; rw [ho']; rfl
        · rw [hs.2 b q]; exact e
      refine hQ _ ⟨⟨X.ok, fun b o e => (hs.2 b (hne b o (X.baseh b o e))).trans (X.base b o e), ⟨_, hn', fun y w a b => ?_⟩, fun y w a b => ?_, fun a o hm => (X.own a o hm).same hs hoL hnotL hbL, fun b hb => halive b (X.dal b hb)⟩,
        fun b o e => (hs.2 b (hne b o e)).trans (X.keep b o e), X.baseh, X.newL, fun y e => ?_, fun y c' e => ?_, X.cellsApart, X.ownNew, X.dold, X.apart⟩
        ⟨fun b o e h1 _ _ => (hs.2 b h1).trans e, fun b e => ?_, fun _ _ e => e, rfl, rfl⟩ hv'
      · by_cases q : y = x
        · subst q; rw [lookup_cons_self] at a; cases a; exact ⟨val, if_pos rfl, hv'⟩
        · rw [lookup_cons_ne q] at a
          obtain ⟨w', e1, e2⟩ := hvs y w a b
          exact ⟨w', by show (if y = x then some val else m y) = some w'; rw [if_neg q]; exact e1, e2.same hs hoL hnotL⟩
      · have q : y ≠ x := by rintro rfl; rw [hx] at b; rcases b with b | b <;> cases b
        rw [lookup_cons_ne q] at a
        obtain ⟨c, w', e1, e2, e3⟩ := X.cel y w a b
        exact ⟨c, w', e1, e2.sameBut hs (hcell _ _ e2), e3.same hs hoL hnotL⟩
      · obtain ⟨c, w, a1, a2, a3⟩ := X.cells y e
        exact ⟨c, w, a1, a2, a3.sameBut hs (hcell _ _ a3)⟩
      · obtain ⟨w, a3⟩ := X.cellsAll y c' e
        exact ⟨w, a3.sameBut hs (hcell _ _ a3)⟩
      · exact halive b e
    | cell =>
      obtain ⟨c, w, c1, c2, c3⟩ := X.cells x (hsame ▸ hx)
      obtain ⟨oc, hoc, hdc⟩ := id c3
      have hnotc : ¬ DataOk oc.data := by rw [hdc]; exact id
      have hbc : ∀ l n, oc.data ≠ .bytearray l n := by rw [hdc]; intro _ _ q; cases q
      refine wpAny_storeName_cell (env := F.env sc) hk hkd c1 c3 fun h' hc' hs => ?_
      have hLc : F.L ≠ c := fun q => by rw [q, hoc] at hoL; cases hoL; rw [hdL] at hdc; cases hdc
      have hne : ∀ b o, h₀.get? b = some o → b ≠ c := fun b o e q => by rw [q, c2] at e; cases e
      have hv' := hv.same hs hoc hnotc
      have halive : ∀ b, (s.heap.get? b).isSome → (h'.get? b).isSome := fun b e => by
        by_cases q : b = c
        · subst q; obtain ⟨o', ho', _⟩ := hc'; rw [ho']; rfl
        · rw [hs.2 b q]; exact e
      refine hQ _ ⟨⟨X.ok, fun b o e => (hs.2 b (hne b o (X.baseh b o e))).trans (X.base b o e), ⟨m, hn.sameBut hs hLc, fun y w a b => ?_⟩, fun y w a b => ?_, fun a o hm => (X.own a o hm).same hs hoc hnotc hbc, fun b hb => halive b (X.dal b hb)⟩,
        fun b o e => (hs.2 b (hne b o e)).trans (X.keep b o e), X.baseh, X.newL, fun y e => ?_, fun y c' e => ?_, X.cellsApart, X.ownNew, X.dold, X.apart⟩
        ⟨fun b o e _ h2 _ => (hs.2 b (fun q => h2 x (by rw [q]; exact c1))).trans e, fun b e => ?_, fun _ _ e => e, rfl, rfl⟩ hv'
      · have q : y ≠ x := by rintro rfl; rw [hx] at b; cases b
        rw [lookup_cons_ne q] at a
        obtain ⟨w', e1, e2⟩ := hvs y w a b
        exact ⟨w', e1, e2.same hs hoc hnotc⟩
      · by_cases q : y = x
        · subst q; rw [lookup_cons_self] at a; cases a; exact ⟨c, val, c1, hc', hv'⟩
        · rw [lookup_cons_ne q] at a
          obtain ⟨c', w', e1, e2, e3⟩ := X.cel y w a b
          have : c' ≠ c := fun z => q (X.cellsApart x y c (hsame ▸ hx) c1 (z ▸ e1))
          exact ⟨c', w', e1, e2.sameBut hs this, e3.same hs hoc hnotc⟩
      · by_cases q : y = x
        · subst q; exact ⟨c, _, c1, c2, hc'⟩
        · obtain ⟨c', w, a1, a2, a3⟩ := X.cells y e
          have : c' ≠ c := fun z => q (X.cellsApart x y c (hsame ▸ hx) c1 (z ▸ a1))
          exact ⟨c', w, a1, a2, a3.sameBut hs this⟩
      · by_cases q : c' = c
        · subst q; exact ⟨_, hc'⟩
        · obtain ⟨w, a3⟩ := X.cellsAll y c' e
          exact ⟨w, a3.sameBut hs q⟩
      · exact halive b e
    | _ => cases hl

theorem Xs.nil (h : P .next σ μ) : Xs Γ k sc σ μ [] P :=
  fun A n F h₀ s Q E _ _ X hQ => wpR_execs_nil (hQ .next σ μ _ s h X (Sp.refl F μ s) rfl)

theorem Xs.cons {st : Stmt} {rest : List Stmt} (h : X1 Γ k sc σ μ st (fun fl σ' μ' => match fl with | .next => Xs Γ k sc σ' μ' rest P | fl => P fl σ' μ')) : Xs Γ k sc σ μ (st :: rest) P := by
  intro A n F h₀ s Q E hn hA X hQ
  refine wpR_execs_cons (h A n F h₀ s _ _ hn hA X fun fl σ' μ' f s' hP X' sp hf => ?_)
  cases fl with
  | next =>
    have : f = .next := hf
    subst this
    exact hP A n F h₀ s' _ _ hn hA X' fun fl2 σ2 μ2 f2 s2 hP2 X2 sp2 hf2 => hQ fl2 σ2 μ2 f2 s2 hP2 X2 (sp.trans sp2) hf2
  | brk => have : f = .brk := hf; subst this; exact hQ _ _ _ _ _ hP X' sp rfl
  | cont => have : f = .cont := hf; subst this; exact hQ _ _ _ _ _ hP X' sp rfl
  | ret v =>
    obtain ⟨val, rfl, hv⟩ := hf
    exact hQ _ _ _ _ _ hP X' sp ⟨val, rfl, hv⟩

/-- a state that says less (fewer names) -/
theorem Sx.less {σ' : Loc} {cs : Scope} (X : Sx Γ h₀ sc F σ μ s cs) (h : ∀ x v, σ'.lookup x = some v → σ.lookup x = some v) : Sx Γ h₀ sc F σ' μ s cs :=
  { X with
    ns := let ⟨m, hn, hv⟩ := X.ns; ⟨m, hn, fun x v a b => hv x v (h x v a) b⟩
    cel := fun x v a b => X.cel x v (h x v a) b }
theorem Xs.less {σ' : Loc} {sts : List Stmt} (h : ∀ x v, σ'.lookup x = some v → σ.lookup x = some v) (hx : Xs Γ k sc σ' μ sts P) : Xs Γ k sc σ μ sts P :=
  fun A n F h₀ s Q E hn hA X hQ => hx A n F h₀ s Q E hn hA (X.less h) hQ
theorem X1.mono {P' : Fl → Loc → Own → Prop} {st : Stmt} (hx : X1 Γ k sc σ μ st P') (h : ∀ fl σ' μ', P' fl σ' μ' → P fl σ' μ') : X1 Γ k sc σ μ st P :=
  fun A n F h₀ s Q E hn hA X hQ => hx A n F h₀ s Q E hn hA X fun fl σ' μ' f s' hP => hQ fl σ' μ' f s' (h _ _ _ hP)

theorem X1.assign {x : Str} {p' : Pos} {e : Expr} {v : PV} (he : Ev Γ k sc σ μ e v) (h : P .next ((x, v) :: σ) μ) (hl : isPlace (sc.names.lookup x) = true := by decide +kernel) (hk : sc.kind = .function := by kernel_rfl)
    (hs : ∀ F : Fm, swapsWith e (some (.Name x p')) pos.line (F.env sc) = pure false := by intro _; kernel_rfl) : X1 Γ k sc σ μ (.Assign [.Name x p'] e pos) P := by
  intro A n F h₀ s Q E hn hA X hQ
  refine wpR_Assign_Name (he A n F s _ _ hn hA X.toSt fun val s₁ g hv => ?_) (hs F)
  exact toR ((X.grow g).store hv hl hk fun s₂ X₂ sp₂ _ => hQ .next _ μ _ s₂ h X₂ ((Sp.gr g).trans sp₂) rfl)

theorem X1.aug {x : Str} {p' : Pos} {op : Operator} {e : Expr} {a b c : PV} (ha : σ.lookup x = some a) (he : Ev Γ k sc σ μ e b) (ho : Op2 Γ (inplaceOp op) a b c) (h : P .next ((x, c) :: σ) μ)
    (hl : isPlace (sc.names.lookup x) = true := by decide +kernel) (hk : sc.kind = .function := by kernel_rfl) (hd : (x == ("__debug__" : Str)) = false := by decide +kernel) (hc : (x == ("__classdict__" : Str)) = false := by decide +kernel) :
    X1 Γ k sc σ μ (.AugAssign (.Name x p') op e pos) P := by
  intro A n F h₀ s Q E hn hA X hQ
  refine wpR_AugAssign_Name ?_
  have hld : ∀ (Q' : Value → Shared → Prop), (∀ val, V (Dm F μ) s.heap a val → Q' val s) → wpR Γ.M A (loadName (F.env sc) x) Q' E s := by
    intro Q' hq
    cases hx : sc.names.lookup x with
    | none => rw [hx] at hl; cases hl
    | some kd =>
      rw [hx] at hl
      have hkd : (F.env sc).kindOf x = some kd := hx
      cases kd with
      | «local» =>
        obtain ⟨m, hm, hv⟩ := X.ns
        obtain ⟨val, e, ev⟩ := hv x a ha hx
        exact toR (wpAny_loadName_local (env := F.env sc) hk hkd hm e (hq _ ev))
      | cell =>
        obtain ⟨c, val, e1, e2, e3⟩ := X.cel x a ha (.inl hx)
        exact toR (wpAny_loadName_cell (env := F.env sc) hk hkd e1 e2 (hq _ e3))
      | _ => cases hl
  refine hld _ fun va hva => he A n F s _ _ hn hA X.toSt fun vb s₁ g hvb => ?_
  refine toR (ho A n _ s₁ va vb _ _ (by omega) hA X.ok (X.grow g).base (hva.grow g.keep) hvb (X.grow g).toSt.dom fun vc s₂ g₂ hvc => ?_)
  exact toR (((X.grow g).grow g₂).store hvc hl hk fun s₃ X₃ sp₃ _ => hQ .next _ μ _ s₃ h X₃ ((Sp.gr (g.trans g₂)).trans sp₃) rfl)

theorem X1.ite {t : Expr} {body orelse : List Stmt} {c : Bool} (ht : Tr Γ k sc σ μ t c) (h1 : c = true → Xs Γ k sc σ μ body P) (h2 : c = false → Xs Γ k sc σ μ orelse P) : X1 Γ k sc σ μ (.If t body orelse pos) P := by
  intro A n F h₀ s Q E hn hA X hQ
  refine wpR_If (ht A n F s _ _ hn hA X.toSt fun s₁ g => ?_)
  cases c with
  | true => exact h1 rfl A n F h₀ s₁ _ _ hn hA (X.grow g) fun fl σ' μ' f s' hP X' sp hf => hQ fl σ' μ' f s' hP X' ((Sp.gr g).trans sp) hf
  | false => exact h2 rfl A n F h₀ s₁ _ _ hn hA (X.grow g) fun fl σ' μ' f s' hP X' sp hf => hQ fl σ' μ' f s' hP X' ((Sp.gr g).trans sp) hf

theorem X1.ret {e : Expr} {v : PV} (he : Ev Γ k sc σ μ e v) (h : P (.ret v) σ μ) : X1 Γ k sc σ μ (.Return (some e) pos) P := by
  intro A n F h₀ s Q E hn hA X hQ
  exact wpR_Return_some (he A n F s _ _ hn hA X.toSt fun val s₁ g hv => hQ (.ret v) σ μ _ s₁ h (X.grow g) (Sp.gr g) ⟨val, rfl, hv⟩)
theorem X1.brk (h : P .brk σ μ) : X1 Γ k sc σ μ (.Break pos) P :=
  fun A n F h₀ s Q E hn hA X hQ => toR (wpAny_Break (hQ .brk σ μ _ s h X (Sp.refl F μ s) rfl))

/-! ### while -/
noncomputable def Wh (Γ : Cx) (k : Nat) (sc : Scope) (σ : Loc) (μ : Own) (test : Expr) (body orelse : List Stmt) (P : Fl → Loc → Own → Prop) : Prop :=
  ∀ (A : Around) (n : Nat) (F : Fm) (h₀ : Heap) (s : Shared) (R : Result → Shared → Prop), n + k ≤ 8 → Lv n A → Sx Γ h₀ sc F σ μ s →
    (∀ fl σ' μ' f s', P fl σ' μ' → Sx Γ h₀ sc F σ' μ' s' → Sp F μ μ' s s' → FlV (Dm F μ') s'.heap fl f → R (.ok f) s') → codeR Γ.M A (.whileLoop test body orelse (F.env sc)) R s
theorem X1.while {t : Expr} {body orelse : List Stmt} (h : Wh Γ k sc σ μ t body orelse P) : X1 Γ k sc σ μ (.While t body orelse pos) P := by
  intro A n F h₀ s Q E hn hA X hQ
  exact wpR_While (h A n F h₀ s _ hn hA X fun fl σ' μ' f s' hP X' sp hf => hQ fl σ' μ' f s' hP X' sp hf)
theorem Wh.step {t : Expr} {body orelse : List Stmt} {c : Bool} (ht : Tr Γ k sc σ μ t c)
    (h1 : c = true → Xs Γ k sc σ μ body (fun fl σ' μ' => match fl with | .next | .cont => Wh Γ k sc σ' μ' t body orelse P | .brk => P .next σ' μ' | .ret v => P (.ret v) σ' μ'))
    (h2 : c = false → Xs Γ k sc σ μ orelse P) : Wh Γ k sc σ μ t body orelse P := by
  intro A n F h₀ s R hn hA X hR
  refine codeR_while1 (ht A n F s _ _ hn hA X.toSt fun s₁ g => ?_)
  cases c with
  | true =>
    refine h1 rfl A n F h₀ s₁ _ _ hn hA (X.grow g) fun fl σ' μ' f s' hP X' sp hf => ?_
    have sp' := (Sp.gr g).trans sp
    cases fl with
    | next => have : f = .next := hf; subst this; exact hP A n F h₀ s' R hn hA X' fun fl2 σ2 μ2 f2 s2 hP2 X2 sp2 hf2 => hR fl2 σ2 μ2 f2 s2 hP2 X2 (sp'.trans sp2) hf2
    | cont => have : f = .cont := hf; subst this; exact hP A n F h₀ s' R hn hA X' fun fl2 σ2 μ2 f2 s2 hP2 X2 sp2 hf2 => hR fl2 σ2 μ2 f2 s2 hP2 X2 (sp'.trans sp2) hf2
    | brk => have : f = .brk := hf; subst this; exact hR .next σ' μ' _ s' hP X' sp' rfl
    | ret v => obtain ⟨val, rfl, hv⟩ := hf; exact hR (.ret v) σ' μ' _ s' hP X' sp' ⟨val, rfl, hv⟩
  | false => exact h2 rfl A n F h₀ s₁ _ _ hn hA (X.grow g) fun fl σ' μ' f s' hP X' sp hf => hR fl σ' μ' f s' hP X' ((Sp.gr g).trans sp) hf
theorem Wh.less {σ' : Loc} {t : Expr} {body orelse : List Stmt} (h : ∀ x v, σ'.lookup x = some v → σ.lookup x = some v) (hx : Wh Γ k sc σ' μ t body orelse P) : Wh Γ k sc σ μ t body orelse P :=
  fun A n F h₀ s R hn hA X hR => hx A n F h₀ s R hn hA (X.less h) hR
end
end Mine

namespace Mine

/-! ## calls -/

noncomputable def KeepOk (Γ : Cx) (f : Value) : Prop := ∀ h, Kp Γ.B h → ∃ k, (k = Keeper.frame ∨ k = Keeper.machine ∨ k = Keeper.boundFrame) ∧ Looks Γ.M h (keeperOf f) k

theorem KeepOk.builtin {Γ : Cx} {id : String} : KeepOk Γ (.builtin id) := fun h _ => ⟨.machine, .inr (.inl rfl), Looks.of_pure rfl⟩
theorem KeepOk.type {Γ : Cx} {id : String} : KeepOk Γ (.type id) := fun h _ => ⟨.machine, .inr (.inl rfl), Looks.of_pure rfl⟩
theorem KeepOk.fn {Γ : Cx} {a : Addr} {o : Obj} {fd : FuncData} (ho : Γ.B.get? a = some o) (hd : o.data = .func fd) : KeepOk Γ (.ref a) := fun h hk =>
  ⟨.frame, .inl rfl, by
    obtain ⟨c, d, dt, sl⟩ := o
    simp only at hd
    subst hd
    exact (Looks.ld (part := none) (hk a _ ho)).andThen Looks.now⟩

theorem starEach_plain_any {env : Env} {pos : Pos} : ∀ (es : List Expr), es.any isStarred = false → (backTo pos (starEach es env)).any (·.1) = false
  | [], _ => rfl
  | e :: es, h => by
    rw [List.any_cons, Bool.or_eq_false_iff] at h
    have ih := starEach_plain_any (env := env) (pos := pos) es h.2
    have he := h.1
    cases e with
    | Starred v p => cases he
    | _ => exact ih

section
variable {Γ : Cx} {k : Nat} {sc : Scope} {σ : Loc} {μ : Own} {pos : Pos}

theorem Ev.call {x : Str} {p : Pos} {args : List Expr} {f : Value} {vs : List PV} {r : PV} (hf : Ev Γ k sc σ μ (.Name x p) (.obj f)) (hkp : KeepOk Γ f) (ha : Es Γ k sc σ μ pos args vs) (hc : CallOk Γ k f vs r)
    (hp : args.any isStarred = false := by kernel_rfl) : Ev Γ k sc σ μ (.Call (.Name x p) args [] pos) r := by
  intro A n F s Q E hn hA st hQ
  refine wpR_CallName (hf A n F s _ _ hn hA st fun fv s₁ g₁ hfv => ?_)
  rw [V_obj] at hfv; subst hfv
  refine wpR_callWith (P := fun h => Kp Γ.B h) (starEach_plain_any args hp) hkp ?_
  refine wpR_evalArgs hp (ha A n F s₁ _ _ hn hA (st.grow g₁) fun vals s₂ g₂ hvs => ?_)
  have st₂ := (st.grow g₁).grow g₂
  refine ⟨st₂.base, ?_⟩
  show wpR _ _ (PySem.call fv ([] ++ vals) []) Q E s₂
  exact hc A n (Dm F μ) s₂ vals Q E hn hA st.ok st₂.base hvs st₂.dom fun val s₃ g₃ hv => hQ val s₃ ((g₁.trans g₂).trans g₃) hv

theorem Lv.deeper {n : Nat} {A : Around} {env : Env} (h : Lv n A) : Lv (n + 1) (A.deeper env) :=
  ⟨h.handled, by have := h.depth; show A.depth + 1 ≤ _; omega, by have := h.units; show A.units + 3 ≤ _; omega, h.guards⟩

theorem lookup_zip_V {D : Addr → Prop} {h : Heap} : ∀ (names : List Str) (args : List PV) (vals : List Value) (x : Str) (v : PV), names.Nodup → Vs D h args vals → (names.zip args).lookup x = some v →
    ∃ val, (names.zip vals).reverse.lookup x = some val ∧ V D h v val := by
  intro names args vals x v hnd hvs hl
  have key : ∀ (names : List Str) (args : List PV) (vals : List Value), Vs D h args vals → (names.zip args).lookup x = some v → ∃ val, (names.zip vals).lookup x = some val ∧ V D h v val := by
    intro names
    induction names with
    | nil => intro args vals _ hl; simp at hl
    | cons y ys ih =>
      intro args vals hvs hl
      cases args with
      | nil => simp at hl
      | cons a as =>
        rw [Vs_cons] at hvs
        obtain ⟨w, r, rfl, h1, h2⟩ := hvs
        rw [List.zip_cons_cons, List.lookup_cons] at hl ⊢
        cases hxy : (x == y) with
        | true => rw [hxy] at hl; simp at hl; subst hl; exact ⟨w, rfl, h1⟩
        | false => rw [hxy] at hl; exact ih as r h2 hl
  obtain ⟨val, h1, h2⟩ := key names args vals hvs hl
  refine ⟨val, ?_, h2⟩
  have rev : ∀ (l : List (Str × Value)), (l.map (·.1)).Nodup → l.reverse.lookup x = l.lookup x := by
    intro l
    induction l with
    | nil => intro _; rfl
    | cons p l ih =>
      intro hn
      obtain ⟨a, b⟩ := p
      simp only [List.map_cons, List.nodup_cons] at hn
      rw [List.reverse_cons, List.lookup_append, ih hn.2, List.lookup_cons]
      cases hxa : (x == a) with
      | true =>
        have hx := beq_iff_eq.mp hxa
        subst hx
        have : l.lookup x = none := by
          rw [List.lookup_eq_none_iff]
          intro p hp
          have : p.1 ≠ x := fun q => hn.1 (List.mem_map.mpr ⟨p, hp, q⟩)
          exact beq_eq_false_iff_ne.mpr this.symm |> fun h => by simpa using h
        rw [this, List.lookup_cons]; simp
      | false =>
        rw [List.lookup_cons, hxa]; simp
  rw [rev _ ?_]
  · exact h1
  · have : ∀ (ns : List Str) (vs : List Value), ((ns.zip vs).map (·.1)).Sublist ns := by
      intro ns
      induction ns with
      | nil => intro vs; simp
      | cons n ns ih =>
        intro vs
        cases vs with
        | nil => simp
        | cons v vs => simpa using ih vs
    exact hnd.sublist (this _ _)

/-- a call of a plain def of the text -/
theorem CallOk.fn {a : Addr} {o : Obj} {name : Str} {params : Arguments} {body : List Stmt} {scope : Scope} {pm cd doc : Value} {args : List PV} {r : PV}
    (ho : Γ.B.get? a = some o) (hd : o.data = .func (docDef name params body scope pm cd doc)) (hcd : Γ.B.CodeRec cd name)
    (hbind : ∀ vals : List Value, vals.length = args.length → bindArgs (docDef name params body scope pm cd doc) ⟨vals, []⟩ = pure ((params.args.map (·.arg)).zip vals))
    (hbody : Xs Γ k scope ((params.args.map (·.arg)).zip args) [] body (fun fl _ μ' => fl = .ret r))
    (hnd : (params.args.map (·.arg)).Nodup := by decide +kernel)
    (hloc : (params.args.map (·.arg)).all (fun x => decide (scope.names.lookup x = some .local)) = true := by decide +kernel)
    (hco : scope.isCoroutine = false := by kernel_rfl) (hgen : scope.isGenerator = false := by kernel_rfl) (hk : scope.kind = .function := by kernel_rfl)
    (hcell : (scope.names.all fun x => decide (x.2 ≠ .cell)) = true := by decide +kernel) : CallOk Γ (k + 1) (.ref a) args r := by
  intro A n D s vals Q E hn hA ok hB hvs hD hQ
  have hcell' : ∀ x ∈ scope.names, x.2 ≠ .cell := fun x hx => of_decide_eq_true (List.all_eq_true.mp hcell x hx)
  have hlen := hvs.length
  refine wpR_call (codeR_call_plain (binds := (params.args.map (·.arg)).zip vals) (by have := hA.depth; show _ < 1000; omega) (hB a o ho) hd (ok.nolimit.keeps hB) (hcd.keeps hB) (hbind vals hlen) ?_ (fun h₁ F₁ => ?_) hco hgen hk hcell')
  · intro x hx
    have := List.of_mem_zip hx
    exact of_decide_eq_true (List.all_eq_true.mp hloc x.1 this.1)
  · let F : Fm := ⟨s.heap.objs.size, [], name ++ ".<locals>.", some a, cd, some s.heap.objs.size, D⟩
    have hkeep : Kp s.heap h₁ := F₁.keep
    have hL : s.heap.get? s.heap.objs.size = none := by
      cases q : s.heap.get? s.heap.objs.size with
      | none => rfl
      | some o' => exact absurd (Heap.lt_size q) (Nat.lt_irrefl _)
    have X : Sx Γ s.heap scope F ((params.args.map (·.arg)).zip args) [] { s with heap := h₁, toks := s.toks + ((params.args.map (·.arg)).zip vals).length } := by
      have hvs' : Vs (Dm F []) h₁ args vals := (hvs.grow hkeep).less fun b o _ hb => by
        rcases hb with hb | hb
        · exact hb
        · simp at hb
      refine ⟨⟨ok, hB.trans hkeep, ⟨_, F₁.ns, fun x v h1 h2 => lookup_zip_V _ _ _ x v hnd hvs' h1⟩, fun x v h1 h2 => ?_, fun _ _ hm => (nomatch hm), fun b hb => hkeep.alive b (hD b hb)⟩,
        hkeep, hB, hL, fun x hx => ?_, fun x c h1 => (nomatch h1), fun x y c _ h1 => (nomatch h1), fun b hb => (nomatch hb), hD, List.nodup_nil⟩
      · exfalso
        have hx : x ∈ (params.args.map (·.arg)) := by
          obtain ⟨⟨a', b'⟩, hm, he⟩ : ∃ p ∈ (params.args.map (·.arg)).zip args, p.1 = x := by
            have := List.lookup_isSome_iff.mp (show (((params.args.map (·.arg)).zip args).lookup x).isSome from by rw [h1]; rfl)
            obtain ⟨p, hp, hpx⟩ := this
            exact ⟨p, hp, (beq_iff_eq.mp hpx).symm⟩
          have := List.of_mem_zip hm
          simp only at he; subst he; exact this.1
        have := of_decide_eq_true (List.all_eq_true.mp hloc x hx)
        rw [this] at h2
        rcases h2 with h2 | h2 <;> cases h2
      · exfalso
        have hm : (x, NameKind.cell) ∈ scope.names := by
          have := List.lookup_eq_some_iff.mp hx
          obtain ⟨l₁, l₂, he, _⟩ := this
          rw [he]; simp
        exact hcell' _ hm rfl
    refine hbody (A.deeper (F.env scope)) (n + 1) F s.heap _ _ _ (by omega) hA.deeper X fun fl σ' μ' f s' hP X' sp hf => ?_
    subst hP
    obtain ⟨val, rfl, hv⟩ := hf
    refine hQ val s' ⟨X'.keep, sp.gens, sp.os⟩ (hv.less fun b o _ hb => .inl hb)
end
end Mine

namespace Mine

/-! ## iteration -/

noncomputable def isTupE : Expr → Bool
  | .Tuple _ _ _ => true
  | _ => false
/-- an iterator; nd: its target must be a tuple -/
structure Iter (Γ : Cx) (A : Around) (it : Addr) (wr : List Addr) (J : (Addr → Prop) → List PV → Heap → Prop) (nd : Bool := false) : Prop where
  move : ∀ D D' xs h h', (∀ b o, h.get? b = some o → DataOk o.data → (¬ D b ∨ o.cls = .type "tuple" ∨ o.cls = .type "range") → h'.get? b = some o) → (∀ b o, h.get? b = some o → D' b → D b) → J D xs h → J D' xs h'
  wrs : ∀ D xs h, J D xs h → ∀ b ∈ wr, ¬ D b ∧ ∃ o vs, h.get? b = some o ∧ o.data = .fields vs ∧ o.cls ≠ .type "range"
  item : ∀ (D : Addr → Prop) x xs (s : Shared) target (Q : Value → Shared → Prop) (E : Value → Shared → Prop), J D (x :: xs) s.heap → (∀ b, D b → (s.heap.get? b).isSome) → (nd = true → isTupE target = true) →
    (∀ v h' tk, V D h' x v → J D xs h' → (∀ b o, b ∉ wr → s.heap.get? b = some o → h'.get? b = some o) → Q v { s with heap := h', toks := tk }) →
    wpAny Γ.M A (pyNext (.ref it)) (fun r s₁ => match r with | some v => wpAny Γ.M A (letOwnedTupleGo target (.ref it) v) (fun _ s₂ => Q v s₂) E s₁ | none => False) E s
  done : ∀ D (s : Shared) (Q : Shared → Prop) (E : Value → Shared → Prop), J D [] s.heap →
    (∀ h' tk, (∀ b o, b ∉ wr → s.heap.get? b = some o → h'.get? b = some o) → Q { s with heap := h', toks := tk }) → wpAny Γ.M A (pyNext (.ref it)) (fun r s₁ => r = none ∧ Q s₁) E s
  self : ∀ D xs (s : Shared) (Q : Value → Shared → Prop) (E : Value → Shared → Prop), J D xs s.heap → Q (.ref it) s → wpAny Γ.M A (pyIter (.ref it)) Q E s

noncomputable def IterOk (Γ : Cx) (p : PV) (xs : List PV) : Prop :=
  ∀ (A : Around) (n : Nat) (D : Addr → Prop) (s : Shared) (v : Value) (Q : Value → Shared → Prop) (E : Value → Shared → Prop), n ≤ 8 → Lv n A → Kp Γ.B s.heap → V D s.heap p v → (∀ b, D b → (s.heap.get? b).isSome) →
    (∀ it wr J s', Iter Γ A it wr J → J D xs s'.heap → Gr s s' → (∀ b ∈ wr, s.heap.get? b = none) → Q (.ref it) s') → wpAny Γ.M A (pyIter v) Q E s

theorem letOwned_other {M : Model} {A : Around} {E : Value → Shared → Prop} {s : Shared} {target : Expr} {it : Addr} {v : Value} {o : Obj} {n : String} {vs : Array Value} {Q : Unit → Shared → Prop}
    (ho : s.heap.get? it = some o) (hc : o.cls = .type n) (hd : o.data = .fields vs)
    (hn : ["enumerate", "zip", "dict_itemiterator", "dict_reverseitemiterator", "odict_iterator", "itertools.zip_longest", "itertools.pairwise"].contains n = false) (h : Q () s) :
    wpAny M A (letOwnedTupleGo target (.ref it) v) Q E s := by
  have key : ∀ a, wpAny M A (do
      let o ← load it
      match o.cls, o.data with
      | .type n, .fields vs =>
        if ["enumerate", "zip", "dict_itemiterator", "dict_reverseitemiterator", "odict_iterator", "itertools.zip_longest", "itertools.pairwise"].contains n && vs[0]? == some (rawInt a) then
          rule "for.unpacks-the-owned-tuple"
          updateField it 0 .none
      | _, _ => pure ()) Q E s := by
    intro a
    refine wpAny_bind (wpAny_load ho ?_)
    rw [hc, hd]
    dsimp only
    rw [hn]
    exact wpAny_pure h
  unfold letOwnedTupleGo
  split
  · cases v with
    | ref a => exact key a
    | _ => exact wpAny_pure h
  · cases v with
    | ref a => exact key a
    | _ => exact wpAny_pure h
  · exact wpAny_pure h

noncomputable def JList (it : Addr) (D : Addr → Prop) (xs : List PV) (h : Heap) : Prop :=
  ∃ l i items, ¬ D it ∧ ¬ D l ∧ l ≠ it ∧ h.IsListIter it l i ∧ h.IsList l items ∧ Vs D h xs (items.toList.drop i)
theorem Vs.move' {D D' : Addr → Prop} {h h' : Heap}
    (hk : ∀ b o, h.get? b = some o → DataOk o.data → (¬ D b ∨ o.cls = .type "tuple" ∨ o.cls = .type "range") → h'.get? b = some o)
    (hD : ∀ b o, h.get? b = some o → D' b → D b) {xs : List PV} {vs : List Value} (e : Vs D h xs vs) : Vs D' h' xs vs :=
  Vs.move (fun b o hb hn => hk b o hb hn.ok.1 hn.ok.2) hD e

theorem dropStep {xs : List PV} {x : PV} {items : Array Value} {i : Nat} {D : Addr → Prop} {h : Heap} (e : Vs D h (x :: xs) (items.toList.drop i)) :
    ∃ v, items[i]? = some v ∧ V D h x v ∧ Vs D h xs (items.toList.drop (i + 1)) := by
  rw [Vs_cons] at e
  obtain ⟨v, r, h1, h2, h3⟩ := e
  refine ⟨v, ?_, h2, ?_⟩
  · have : (items.toList.drop i)[0]? = some v := by rw [h1]; rfl
    rw [List.getElem?_drop] at this
    simpa using this
  · have : items.toList.drop (i + 1) = r := by
      have : (items.toList.drop i).drop 1 = r := by rw [h1]; rfl
      rwa [List.drop_drop] at this
    rw [this]; exact h3
theorem dropEnd {items : Array Value} {i : Nat} {D : Addr → Prop} {h : Heap} (e : Vs D h [] (items.toList.drop i)) : items[i]? = none := by
  rw [Vs_nil] at e
  have : (items.toList.drop i)[0]? = none := by rw [e]; rfl
  rw [List.getElem?_drop] at this
  simpa using this

theorem Iter.list {Γ : Cx} {A : Around} (hh : A.handled = none) (it : Addr) : Iter Γ A it [it] (JList it) where
  move := by
    rintro D D' xs h h' hk hD ⟨l, i, items, h1, h2, h3, h4, h5, h6⟩
    have k1 : ∀ o, h.get? it = some o → h'.get? it = some o := fun o ho => by
      obtain ⟨o', ho', hc, hd⟩ := h4
      rw [ho] at ho'; cases ho'
      exact hk it o ho (by rw [hd]; trivial) (.inl h1)
    have k2 : ∀ o, h.get? l = some o → h'.get? l = some o := fun o ho => by
      obtain ⟨o', ho', hc, n, hd⟩ := h5
      rw [ho] at ho'; cases ho'
      exact hk l o ho (by rw [hd]; trivial) (.inl h2)
    have a1 : ¬ D' it := fun d => by obtain ⟨o', ho', _⟩ := h4; exact h1 (hD it o' ho' d)
    have a2 : ¬ D' l := fun d => by obtain ⟨o', ho', _⟩ := h5; exact h2 (hD l o' ho' d)
    obtain ⟨o, ho, r⟩ := h4
    obtain ⟨ol, hol, rl⟩ := h5
    exact ⟨l, i, items, a1, a2, h3, ⟨o, k1 o ho, r⟩, ⟨ol, k2 ol hol, rl⟩, h6.move' hk hD⟩
  wrs := by
    rintro D xs h ⟨l, i, items, h1, h2, h3, ⟨o, ho, hc, hd⟩, h5, h6⟩ b hb
    rw [List.mem_singleton] at hb; subst hb
    exact ⟨h1, o, _, ho, hd, by rw [hc]; decide⟩
  item := by
    rintro D x xs s target Q E ⟨l, i, items, h1, h2, h3, h4, h5, h6⟩ hal _ hQ
    obtain ⟨v, e1, e2, e3⟩ := dropStep h6
    refine wpAny_pyNext_list_item h4 h5 e1 fun h' hi' hs' => ?_
    obtain ⟨o, ho, hc, hd⟩ := id h4
    have hk : ∀ b o', s.heap.get? b = some o' → Node D b o' → h'.get? b = some o' := fun b o' hb hn => (hs'.2 b (fun q => by
      subst q; rw [ho] at hb; cases hb
      rcases hn with ⟨_, _, hn, _⟩ | ⟨hn, _⟩
      · rw [hd] at hn; cases hn
      · rw [hc] at hn; exact absurd hn (by decide))).trans hb
    obtain ⟨o2, ho2, hc2, hd2⟩ := id hi'
    refine letOwned_other ho2 hc2 hd2 (by decide) (hQ v h' _ (e2.move hk fun _ _ _ d => d) ⟨l, i + 1, items, h1, h2, h3, hi', ?_, e3.move hk fun _ _ _ d => d⟩ fun b o' hb e => (hs'.2 b (by simpa using hb)).trans e)
    obtain ⟨ol, hol, rl⟩ := h5
    exact ⟨ol, (hs'.2 l h3).trans hol, rl⟩
  done := by
    rintro D s Q E ⟨l, i, items, h1, h2, h3, h4, h5, h6⟩ hQ
    exact wpAny_pyNext_list_end hh h4 h5 (dropEnd h6) fun h' he => ⟨rfl, hQ h' _ fun b o hb e => he b o (by simpa using hb) e⟩
  self := by
    rintro D xs s Q E ⟨l, i, items, h1, h2, h3, h4, h5, h6⟩ hQ
    exact wpAny_pyIter_listiter h4 hQ

theorem fresh_addr (h : Heap) : h.get? h.objs.size = none := by
  cases q : h.get? h.objs.size with
  | none => rfl
  | some o' => exact absurd (Heap.lt_size q) (Nat.lt_irrefl _)
theorem not_dom {D : Addr → Prop} {h : Heap} (hD : ∀ b, D b → (h.get? b).isSome) : ¬ D h.objs.size := fun d => by
  have := hD _ d; rw [fresh_addr] at this; cases this

theorem IterOk.lst {Γ : Cx} {xs : List PV} : IterOk Γ (.lst xs) xs := by
  intro A n D s v Q E _ hA hB hv hD hQ
  obtain ⟨l, items, rfl, h1, h2, h3⟩ := V_lst.mp hv
  refine wpAny_pyIter_list h2 (hQ _ _ (JList s.heap.objs.size) _ (Iter.list hA.handled _) ?_ (Gr.heap _ (Kp.push _ _)) fun b hb => by rw [List.mem_singleton] at hb; subst hb; exact fresh_addr _)
  have hlt : l ≠ s.heap.objs.size := by obtain ⟨o, ho, _⟩ := h2; exact Nat.ne_of_lt (Heap.lt_size ho)
  refine ⟨l, 0, items, not_dom hD, h1, hlt, ⟨_, Heap.get?_push_size _ rfl, rfl, rfl⟩, h2.push _, ?_⟩
  simpa using h3.grow (Kp.push _ _)
/-! ## for -/

/-- as Sp, but for what an iterator writes -/
structure SpW (F : Fm) (wr : List Addr) (μ μ' : Own) (s s' : Shared) : Prop where
  keep : ∀ b o, b ∉ wr → s.heap.get? b = some o → b ≠ F.L → (∀ x, F.cl.lookup x ≠ some b) → ¬ Dm F μ b → s'.heap.get? b = some o
  alive : ∀ b, b ∉ wr → (s.heap.get? b).isSome → (s'.heap.get? b).isSome
  dom : ∀ b, b ∉ wr → (s.heap.get? b).isSome → Dm F μ' b → Dm F μ b
  gens : s'.gens = s.gens
  os : s'.os = s.os
theorem SpW.trans {F : Fm} {wr : List Addr} {μ μ' μ'' : Own} {s s' s'' : Shared} (a : SpW F wr μ μ' s s') (b : SpW F wr μ' μ'' s' s'') : SpW F wr μ μ'' s s'' where
  keep := fun x o hw e h1 h2 h3 => b.keep x o hw (a.keep x o hw e h1 h2 h3) h1 h2 fun d => h3 (a.dom x hw (by rw [e]; rfl) d)
  alive := fun x hw e => b.alive x hw (a.alive x hw e)
  dom := fun x hw e d => a.dom x hw e (b.dom x hw (a.alive x hw e) d)
  gens := b.gens.trans a.gens
  os := b.os.trans a.os
theorem Sp.toW {F : Fm} {wr : List Addr} {μ μ' : Own} {s s' : Shared} (a : Sp F μ μ' s s') : SpW F wr μ μ' s s' :=
  ⟨fun b o _ e h1 h2 h3 => a.keep b o e h1 h2 h3, fun b _ e => a.alive b e, fun b _ e d => a.dom b e d, a.gens, a.os⟩
theorem SpW.wr {F : Fm} {wr : List Addr} {μ : Own} {s : Shared} {h' : Heap} {tk : Nat} (hk : ∀ b o, b ∉ wr → s.heap.get? b = some o → h'.get? b = some o) : SpW F wr μ μ s { s with heap := h', toks := tk } :=
  ⟨fun b o hw e _ _ _ => hk b o hw e, fun b hw e => by obtain ⟨o, ho⟩ := Option.isSome_iff_exists.mp e; show (h'.get? b).isSome; rw [hk b o hw ho]; rfl, fun _ _ _ d => d, rfl, rfl⟩

section
variable {Γ : Cx} {k : Nat} {sc : Scope} {σ : Loc} {μ : Own} {pos : Pos} {P : Fl → Loc → Own → Prop} {F : Fm} {h₀ : Heap} {s : Shared}

/-- what a statement keeps for trees and iterators -/
theorem Sx.hk {σ' : Loc} {μ' : Own} {s' : Shared} {cs : Scope} (X : Sx Γ h₀ sc F σ μ s cs) (X' : Sx Γ h₀ sc F σ' μ' s' cs) (sp : Sp F μ μ' s s') :
    ∀ b o, s.heap.get? b = some o → DataOk o.data → (¬ Dm F μ b ∨ o.cls = .type "tuple" ∨ o.cls = .type "range") → s'.heap.get? b = some o := by
  intro b o hb hd hc
  by_cases hFD : F.D b
  · obtain ⟨o', ho'⟩ := Option.isSome_iff_exists.mp (X.dold b hFD)
    have := X.keep b o' ho'
    rw [hb] at this; cases this
    exact X'.keep b o ho'
  · have hn : ¬ Dm F μ b := by
      rcases hc with hc | hc
      · exact hc
      · rintro (q | q)
        · exact hFD q
        · obtain ⟨p, hp, rfl⟩ := List.mem_map.mp q
          have := X.own p.1 p.2 hp
          cases hq : p.2 with
          | list xs =>
            rw [hq] at this; obtain ⟨items, n, ho', _⟩ := this
            rw [hb] at ho'; cases ho'
            dsimp only at hc; rcases hc with hc | hc <;> exact absurd hc (by decide)
          | barr l =>
            rw [hq] at this
            have ho' : s.heap.get? p.1 = some { cls := .type "bytearray", data := .bytearray l.toArray } := this
            rw [hb] at ho'; cases ho'
            dsimp only at hc; rcases hc with hc | hc <;> exact absurd hc (by decide)
    refine sp.keep b o hb (fun q => ?_) (fun x q => ?_) hn
    · obtain ⟨m, ⟨oL, es, ep, hoL, hdL, _⟩, _⟩ := X.ns
      rw [q, hoL] at hb; cases hb; rw [hdL] at hd; exact hd
    · obtain ⟨v, oc, hoc, hdc⟩ := X.cellsAll x b q
      rw [hoc] at hb; cases hb; rw [hdc] at hd; exact hd
theorem Sx.step {σ' : Loc} {μ' : Own} {s' : Shared} {cs : Scope} (X : Sx Γ h₀ sc F σ μ s cs) (X' : Sx Γ h₀ sc F σ' μ' s' cs) (sp : Sp F μ μ' s s') {x : PV} {v : Value} (hv : V (Dm F μ) s.heap x v) : V (Dm F μ') s'.heap x v :=
  hv.move (fun b o hb hn => X.hk X' sp b o hb hn.ok.1 hn.ok.2) fun b o hb d => sp.dom b (by rw [hb]; rfl) d

/-- what an iterator's step leaves -/
theorem Sx.wr {wr : List Addr} {h' : Heap} {tk : Nat} {cs : Scope} (X : Sx Γ h₀ sc F σ μ s cs) (hk : ∀ b o, b ∉ wr → s.heap.get? b = some o → h'.get? b = some o)
    (hw : ∀ b ∈ wr, ¬ Dm F μ b ∧ ∃ o vs, s.heap.get? b = some o ∧ o.data = .fields vs ∧ o.cls ≠ .type "range") (hn : ∀ b ∈ wr, h₀.get? b = none) : Sx Γ h₀ sc F σ μ { s with heap := h', toks := tk } cs := by
  have hnode : ∀ b o, s.heap.get? b = some o → Node (Dm F μ) b o → h'.get? b = some o := fun b o hb hn => hk b o (fun q => by
    obtain ⟨_, o', vs, ho', hd', hc'⟩ := hw b q
    rw [hb] at ho'; cases ho'
    rcases hn with ⟨_, _, hn, _⟩ | ⟨hn, _⟩
    · rw [hd'] at hn; cases hn
    · exact hc' hn) hb
  have hv : ∀ {x v}, V (Dm F μ) s.heap x v → V (Dm F μ) h' x v := fun e => e.move hnode fun _ _ _ d => d
  have hvs : ∀ {x v}, Vs (Dm F μ) s.heap x v → Vs (Dm F μ) h' x v := fun e => e.move hnode fun _ _ _ d => d
  have hold : ∀ b o, h₀.get? b = some o → h'.get? b = some o := fun b o e => hk b o (fun q => by rw [hn b q] at e; cases e) (X.keep b o e)
  have hcell : ∀ c v, s.heap.IsCell c v → h'.IsCell c v := fun c v ⟨o, ho, hd⟩ => ⟨o, hk c o (fun q => by
    obtain ⟨_, o', vs, ho', hd', _⟩ := hw c q
    rw [ho] at ho'; cases ho'; rw [hd] at hd'; cases hd') ho, hd⟩
  obtain ⟨m, hm, hmv⟩ := X.ns
  have hm' : h'.Ns F.L m := by
    obtain ⟨o, es, ep, ho, hd, r⟩ := hm
    exact ⟨o, es, ep, hk _ o (fun q => by
      obtain ⟨_, o', vs, ho', hd', _⟩ := hw _ q
      rw [ho] at ho'; cases ho'; rw [hd] at hd'; cases hd') ho, hd, r⟩
  refine ⟨⟨X.ok, fun b o e => hold b o (X.baseh b o e), ⟨m, hm', fun x v a b => let ⟨val, e1, e2⟩ := hmv x v a b; ⟨val, e1, hv e2⟩⟩, fun x v a b => let ⟨c, val, e1, e2, e3⟩ := X.cel x v a b; ⟨c, val, e1, hcell _ _ e2, hv e3⟩, fun a o hm => ?_, fun b hb => ?_⟩,
    hold, X.baseh, X.newL, fun x e => let ⟨c, v, a1, a2, a3⟩ := X.cells x e; ⟨c, v, a1, a2, hcell _ _ a3⟩, fun x c e => let ⟨v, a3⟩ := X.cellsAll x c e; ⟨v, hcell _ _ a3⟩, X.cellsApart, X.ownNew, X.dold, X.apart⟩
  · have hnw : a ∉ wr := fun q => (hw a q).1 (.inr (List.mem_map.mpr ⟨_, hm, rfl⟩))
    have := X.own a o hm
    cases o with
    | list xs => obtain ⟨items, n, ho, e⟩ := this; exact ⟨items, n, hk a _ hnw ho, hvs e⟩
    | barr l => exact hk a _ hnw this
  · obtain ⟨o, ho⟩ := Option.isSome_iff_exists.mp (X.dold b hb)
    show (h'.get? b).isSome
    rw [hold b o ho]; rfl

/-- a target takes a value -/
noncomputable def As (Γ : Cx) (k : Nat) (sc : Scope) (σ : Loc) (μ : Own) (target : Expr) (v : PV) (σ' : Loc) (cs : Scope := sc) : Prop :=
  ∀ (A : Around) (n : Nat) (F : Fm) (h₀ : Heap) (s : Shared) (val : Value) (Q : Unit → Shared → Prop) (E : Value → Shared → Prop), n + k ≤ 8 → Lv n A → Sx Γ h₀ sc F σ μ s cs → V (Dm F μ) s.heap v val →
    (∀ s', Sx Γ h₀ sc F σ' μ s' cs → Sp F μ μ s s' → Q () s') → wpAny Γ.M A (assign target (F.env sc) val) Q E s
theorem As.name {x : Str} {v : PV} {cs : Scope} (hl : isPlace (sc.names.lookup x) = true := by decide +kernel) (hk : sc.kind = .function := by kernel_rfl) (hs : sc.names.lookup x = cs.names.lookup x := by first | exact rfl | kernel_rfl) : As Γ k sc σ μ (.Name x pos) v ((x, v) :: σ) cs :=
  fun A n F h₀ s val Q E hn hA X hv hQ => wpAny_assign_Name (X.store hv hl hk (fun s' X' sp _ => hQ s' X' sp) hs)

noncomputable def Fo (Γ : Cx) (k : Nat) (sc : Scope) (σ : Loc) (μ : Own) (target : Expr) (body orelse : List Stmt) (xs : List PV) (P : Fl → Loc → Own → Prop) : Prop :=
  ∀ (A : Around) (n : Nat) (F : Fm) (h₀ : Heap) (s : Shared) (R : Result → Shared → Prop) (it : Addr) (wr : List Addr) (J : (Addr → Prop) → List PV → Heap → Prop), n + k ≤ 8 → Lv n A → Sx Γ h₀ sc F σ μ s →
    ∀ nd : Bool, Iter Γ A it wr J nd → (nd = true → isTupE target = true) → J (Dm F μ) xs s.heap → (∀ b ∈ wr, h₀.get? b = none) →
    (∀ fl σ' μ' f s', P fl σ' μ' → Sx Γ h₀ sc F σ' μ' s' → SpW F wr μ μ' s s' → FlV (Dm F μ') s'.heap fl f → R (.ok f) s') → codeR Γ.M A (.forLoop target (.ref it) body orelse (F.env sc)) R s

/-- an expression that is walked -/
noncomputable def EvI (Γ : Cx) (k : Nat) (sc : Scope) (σ : Loc) (μ : Own) (iter : Expr) (xs : List PV) (nd : Bool) : Prop :=
  ∀ (A : Around) (n : Nat) (F : Fm) (s : Shared) (Q : Value → Shared → Prop) (E : Value → Shared → Prop), n + k ≤ 8 → Lv n A → St Γ sc F σ μ s →
    (∀ it wr J s', Iter Γ A it wr J nd → J (Dm F μ) xs s'.heap → Gr s s' → (∀ b ∈ wr, s.heap.get? b = none) → Q (.ref it) s') → wpR Γ.M A (eval iter (F.env sc)) (fun v s₁ => wpR Γ.M A (pyIter v) Q E s₁) E s
theorem EvI.of {iter : Expr} {p : PV} {xs : List PV} (he : Ev Γ k sc σ μ iter p) (hi : IterOk Γ p xs) : EvI Γ k sc σ μ iter xs false := by
  intro A n F s Q E hn hA st hQ
  refine he A n F s _ _ hn hA st fun v s₁ g₁ hv => ?_
  have st₁ := st.grow g₁
  refine toR (hi A n (Dm F μ) s₁ v _ _ (by omega) hA st₁.base hv st₁.dom fun it wr J s₂ hI hJ g₂ hw => hQ it wr J s₂ hI hJ (g₁.trans g₂) fun b hb => ?_)
  cases q : s.heap.get? b with
  | none => rfl
  | some o => have := g₁.keep b o q; rw [hw b hb] at this; cases this
theorem X1.forI {target iter : Expr} {body orelse : List Stmt} {xs : List PV} {nd : Bool} (he : EvI Γ k sc σ μ iter xs nd) (h : Fo Γ k sc σ μ target body orelse xs P)
    (hnd : nd = true → isTupE target = true := by first | exact (fun h => nomatch h) | exact (fun _ => rfl))
    (hs : ∀ env x, foldedSetIterable iter env x = pure x := by intro _ _; kernel_rfl) : X1 Γ k sc σ μ (.For target iter body orelse pos) P := by
  intro A n F h₀ s Q E hn hA X hQ
  refine wpR_For (he A n F s _ _ hn hA X.toSt fun it wr J s₂ hI hJ g hw => ?_) (hs _)
  have X₂ := X.grow g
  refine h A n F h₀ s₂ _ it wr J hn hA X₂ nd hI hnd hJ (fun b hb => ?_) fun fl σ' μ' f s' hP X' sp hf => ?_
  · cases q : h₀.get? b with
    | none => rfl
    | some o => have := X.keep b o q; rw [hw b hb] at this; cases this
  · have hnw : ∀ b, (s.heap.get? b).isSome → b ∉ wr := fun b hb q => by rw [hw b q] at hb; cases hb
    refine hQ fl σ' μ' f s' hP X' ⟨fun b o e h1 h2 h3 => ?_, fun b e => ?_, fun b e d => ?_, sp.gens.trans g.gens, sp.os.trans g.os⟩ hf
    · exact sp.keep b o (hnw b (by rw [e]; rfl)) (g.keep b o e) h1 h2 h3
    · exact sp.alive b (hnw b e) (g.keep.alive b e)
    · exact sp.dom b (hnw b e) (g.keep.alive b e) d
theorem X1.for {target iter : Expr} {body orelse : List Stmt} {p : PV} {xs : List PV} (he : Ev Γ k sc σ μ iter p) (hi : IterOk Γ p xs) (h : Fo Γ k sc σ μ target body orelse xs P)
    (hs : ∀ env x, foldedSetIterable iter env x = pure x := by intro _ _; kernel_rfl) : X1 Γ k sc σ μ (.For target iter body orelse pos) P :=
  X1.forI (EvI.of he hi) h (fun h => nomatch h) hs

theorem Fo.nil {target : Expr} {body orelse : List Stmt} (h : Xs Γ k sc σ μ orelse P) : Fo Γ k sc σ μ target body orelse [] P := by
  intro A n F h₀ s R it wr J hn hA X nd hI hnd hJ hw hR
  refine codeR_for1 (toR (wpAny_mono (hI.done (Dm F μ) s (fun s₁ => wpR Γ.M A (execs orelse (F.env sc)) (fun f s₃ => R (.ok f) s₃) (noted Γ.M A (F.env sc) fun e s' => R (.error e) s') s₁) _ hJ fun h' tk hk => ?_) (fun r s₁ hr => ?_) fun _ _ e => e))
  · have X' := X.wr (tk := tk) hk (hI.wrs _ _ _ hJ) hw
    exact h A n F h₀ _ _ _ hn hA X' fun fl σ' μ' f s' hP X'' sp hf => hR fl σ' μ' f s' hP X'' ((SpW.wr hk).trans sp.toW) hf
  · obtain ⟨rfl, hr⟩ := hr; exact hr

theorem Fo.cons {target : Expr} {body orelse : List Stmt} {x : PV} {xs : List PV} {σ₁ : Loc} (ha : As Γ k sc σ μ target x σ₁)
    (h : Xs Γ k sc σ₁ μ body (fun fl σ' μ' => match fl with | .next | .cont => Fo Γ k sc σ' μ' target body orelse xs P | .brk => P .next σ' μ' | .ret v => P (.ret v) σ' μ')) : Fo Γ k sc σ μ target body orelse (x :: xs) P := by
  intro A n F h₀ s R it wr J hn hA X nd hI hnd hJ hw hR
  refine codeR_for1 (toR (wpAny_mono (hI.item (Dm F μ) x xs s target (fun v s₁ => wpR Γ.M A (assign target (F.env sc) v) (fun _ s₂ => wpR Γ.M A (execs body (F.env sc)) (fun f s₃ => match f with
          | .next | .cont => codeR Γ.M A (.forLoop target (.ref it) body orelse (F.env sc)) R s₃
          | .brk => R (.ok .next) s₃
          | .ret v => R (.ok (.ret v)) s₃) (noted Γ.M A (F.env sc) fun e s' => R (.error e) s') s₂) (noted Γ.M A (F.env sc) fun e s' => R (.error e) s') s₁) _ hJ X.toSt.dom hnd fun v h' tk hv hJ' hk => ?_) (fun r s₁ hr => ?_) fun _ _ e => e))
  · have X' := X.wr (tk := tk) hk (hI.wrs _ _ _ hJ) hw
    refine toR (ha A n F h₀ _ v _ _ hn hA X' hv fun s₂ X₂ sp₂ => ?_)
    refine h A n F h₀ s₂ _ _ hn hA X₂ fun fl σ' μ' f s' hP X'' sp hf => ?_
    have spa := sp₂.trans sp
    have spW : SpW F wr μ μ' s s' := (SpW.wr hk).trans spa.toW
    have next : Fo Γ k sc σ' μ' target body orelse xs P → codeR Γ.M A (.forLoop target (.ref it) body orelse (F.env sc)) R s' := fun hfo =>
      hfo A n F h₀ s' R it wr J hn hA X'' nd hI hnd (hI.move _ _ _ _ _ (X'.hk X'' spa) (fun b o hb d => spa.dom b (by rw [hb]; rfl) d) hJ') hw
        fun fl2 σ2 μ2 f2 s2 hP2 X2 sp2 hf2 => hR fl2 σ2 μ2 f2 s2 hP2 X2 (spW.trans sp2) hf2
    cases fl with
    | next => have : f = .next := hf; subst this; exact next hP
    | cont => have : f = .cont := hf; subst this; exact next hP
    | brk => have : f = .brk := hf; subst this; exact hR .next σ' μ' _ s' hP X'' spW rfl
    | ret v => obtain ⟨val, rfl, hv⟩ := hf; exact hR (.ret v) σ' μ' _ s' hP X'' spW ⟨val, rfl, hv⟩
  · cases r with
    | none => exact hr.elim
    | some v => exact toR (wpAny_mono hr (fun _ _ e => e) fun _ _ e => e)
theorem Fo.less {σ' : Loc} {target : Expr} {body orelse : List Stmt} {xs : List PV} (h : ∀ x v, σ'.lookup x = some v → σ.lookup x = some v) (hx : Fo Γ k sc σ' μ target body orelse xs P) : Fo Γ k sc σ μ target body orelse xs P :=
  fun A n F h₀ s R it wr J hn hA X => hx A n F h₀ s R it wr J hn hA (X.less h)
end
end Mine

namespace Mine

section
variable {Γ : Cx} {k : Nat} {sc : Scope} {σ : Loc} {μ : Own} {pos : Pos}

theorem V.newList {D : Addr → Prop} {h : Heap} {xs : List PV} {vs : List Value} (hD : ∀ b, D b → (h.get? b).isSome) (e : Vs D h xs vs) :
    V D (h.push { cls := .type "list", data := .seq vs.toArray }) (.lst xs) (.ref h.objs.size) :=
  V_lst.mpr ⟨_, vs.toArray, rfl, not_dom hD, ⟨_, Heap.get?_push_size _ rfl, rfl, _, rfl⟩, by simpa using e.grow (Kp.push _ _)⟩
theorem V.newTup {D : Addr → Prop} {h : Heap} {xs : List PV} {vs : List Value} (e : Vs D h xs vs) :
    V D (h.push { cls := .type "tuple", data := .seq vs.toArray }) (.tup xs) (.ref h.objs.size) :=
  V_tup.mpr ⟨_, vs.toArray, rfl, ⟨_, Heap.get?_push_size _ rfl, rfl, _, rfl⟩, by simpa using e.grow (Kp.push _ _)⟩

theorem Ev.tuple {es : List Expr} {vs : List PV} {kd : Nat} (h : Es Γ k sc σ μ pos es vs) (hs : vs.length ≤ 1000) : Ev Γ k sc σ μ (.Tuple es kd pos) (.tup vs) := by
  intro A n F s Q E hn hA st hQ
  refine wpR_Tuple (h A n F s _ _ hn hA st fun vals s₁ g₁ hv => ⟨?_, hQ _ _ (g₁.trans (Gr.heap _ (Kp.push _ _))) (V.newTup hv)⟩)
  have := hv.length; rw [sizeLine_eq]; omega
theorem Ev.list {es : List Expr} {vs : List PV} (h : Es Γ k sc σ μ pos es vs) (hs : vs.length ≤ 1000) : Ev Γ k sc σ μ (.List es pos) (.lst vs) := by
  intro A n F s Q E hn hA st hQ
  refine wpR_List (h A n F s _ _ hn hA st fun vals s₁ g₁ hv => ⟨?_, hQ _ _ (g₁.trans (Gr.heap _ (Kp.push _ _))) (V.newList (st.grow g₁).dom hv)⟩)
  have := hv.length; rw [sizeLine_eq]; omega

/-! ### items -/
noncomputable def HasItem (Γ : Cx) (a : PV) : Prop := ∀ (D : Addr → Prop) (s : Shared) (v : Value), V D s.heap a v → ∃ T id, s.TypeIs v T ∧ typeLookup (.type T) "__getitem__" = pure (some (.builtin id))
theorem HasItem.lst {xs : List PV} : HasItem Γ (.lst xs) := fun D s v hv => by
  obtain ⟨a, items, rfl, _, h, _⟩ := V_lst.mp hv
  exact ⟨_, _, h.typeIs, slot_list_getitem.lookup⟩
theorem HasItem.bytes {l : List UInt8} : HasItem Γ (.bytes l) := fun D s v hv => by
  obtain ⟨t, rfl⟩ := V_bytes.mp hv
  exact ⟨_, _, typeIs_bytes s _ _, FB.slot_bytes_getitem.lookup⟩
theorem HasItem.str {l : List Nat} : HasItem Γ (.str l) := fun D s v hv => by
  obtain ⟨t, rfl⟩ := V_str.mp hv
  exact ⟨_, _, typeIs_str s _ _, F.slot_str_getitem.lookup⟩

theorem Ev.sub {value slice : Expr} {a i r : PV} (hv : Ev Γ k sc σ μ value a) (hi : Ev Γ k sc σ μ slice i) (ho : Op2 Γ getItem a i r) (hT : HasItem Γ a)
    (hs : ∀ o i, subscripted slice false o i = operate [o, i] (getItem o i) := by intro _ _; kernel_rfl) : Ev Γ k sc σ μ (.Subscript value slice pos) r := by
  intro A n F s Q E hn hA st hQ
  refine wpR_Subscript (hv A n F s _ _ hn hA st fun o s₁ g₁ ho₁ => hi A n F s₁ _ _ hn hA (st.grow g₁) fun iv s₂ g₂ hi₂ => ?_)
  obtain ⟨T, id, hT, hl⟩ := hT _ s₂ o (ho₁.grow g₂.keep)
  have st₂ := (st.grow g₁).grow g₂
  exact toR <| tail_any hT hl (ho A n _ s₂ o iv _ _ (by omega) hA st.ok st₂.base (ho₁.grow g₂.keep) hi₂ st₂.dom fun v s₃ g₃ hv => hQ v s₃ ((g₁.trans g₂).trans g₃) hv) (hs o iv)

theorem Op2.item {xs : List PV} {i : Int} {r : PV} (h0 : 0 ≤ i) (hx : xs[i.toNat]? = some r) (hl : xs.length < 2 ^ 62) : Op2 Γ getItem (.lst xs) (.int i) r := by
  intro A n D s x y Q E _ _ _ _ hv hy _ hQ
  obtain ⟨a, items, rfl, _, h, hvs⟩ := V_lst.mp hv
  obtain ⟨t, rfl⟩ := V_int.mp hy
  obtain ⟨v, e1, e2⟩ := hvs.get _ hx
  have hlt : i.toNat < xs.length := (List.getElem?_eq_some_iff.mp hx).1
  exact wpAny_getItem_list h h0 (by omega) (by simpa using e1) (hQ _ _ (Gr.refl _) e2)
theorem Op2.itemNeg {xs : List PV} {i : Int} {r : PV} (h0 : i < 0) (h1 : -(xs.length : Int) ≤ i) (hx : xs[(i + xs.length).toNat]? = some r) (hl : xs.length < 2 ^ 62) : Op2 Γ getItem (.lst xs) (.int i) r := by
  intro A n D s x y Q E _ _ _ _ hv hy _ hQ
  obtain ⟨a, items, rfl, _, h, hvs⟩ := V_lst.mp hv
  obtain ⟨t, rfl⟩ := V_int.mp hy
  obtain ⟨v, e1, e2⟩ := hvs.get _ hx
  have hlen : items.size = xs.length := by simpa using hvs.length
  exact wpAny_getItem_list_neg h h0 (by omega) (by omega) (by rw [hlen]; simpa using e1) (hQ _ _ (Gr.refl _) e2)

/-! ### slices -/
noncomputable def Pt (Γ : Cx) (k : Nat) (sc : Scope) (σ : Loc) (μ : Own) : Option Expr → Option Int → Prop
  | none, o => o = none
  | some e, o => ∃ i, o = some i ∧ Ev Γ k sc σ μ e (.int i)
theorem Pt.none : Pt Γ k sc σ μ none none := rfl
theorem Pt.some {e : Expr} {i : Int} (h : Ev Γ k sc σ μ e (.int i)) : Pt Γ k sc σ μ (some e) (some i) := ⟨i, rfl, h⟩
theorem Pt.run {o : Option Expr} {p : Option Int} (h : Pt Γ k sc σ μ o p) {A : Around} {n : Nat} {F : Fm} {s : Shared} {Q : Value → Shared → Prop} {E : Value → Shared → Prop} (hn : n + k ≤ 8) (hA : Lv n A) (st : St Γ sc F σ μ s)
    (hQ : ∀ v s', Gr s s' → IsPart v p → Q v s') : wpR Γ.M A (evalPart o (F.env sc)) Q E s := by
  cases o with
  | none => have : p = .none := h; subst this; exact wpR_pure (hQ _ _ (Gr.refl _) .none)
  | some e =>
    obtain ⟨i, rfl, h⟩ := h
    refine h A n F s _ _ hn hA st fun v s' g hv => ?_
    obtain ⟨t, rfl⟩ := V_int.mp hv
    exact hQ _ _ g (.int _ _)

noncomputable def SliceOk (Γ : Cx) (a : PV) (lo hi st : Option Int) (r : PV) : Prop :=
  ∀ (A : Around) (n : Nat) (D : Addr → Prop) (s : Shared) (x : Value) (sl : Addr) (vl vu vs : Value) (Q : Value → Shared → Prop) (E : Value → Shared → Prop), n ≤ 8 → Lv n A → V D s.heap a x → (∀ b, D b → (s.heap.get? b).isSome) →
    s.heap.IsSliceOf sl vl vu vs → IsPart vl lo → IsPart vu hi → IsPart vs st →
    (∀ val s', Gr s s' → V D s'.heap r val → Q val s') → wpAny Γ.M A (getItem x (.ref sl)) Q E s

theorem Ev.slice {value : Expr} {lower upper : Option Expr} {p : Pos} {a r : PV} {lo hi : Option Int} (hv : Ev Γ k sc σ μ value a) (hl : Pt Γ k sc σ μ lower lo) (hu : Pt Γ k sc σ μ upper hi) (ho : SliceOk Γ a lo hi none r) (hT : HasItem Γ a) :
    Ev Γ k sc σ μ (.Subscript value (.Slice lower upper none p) pos) r := by
  intro A n F s Q E hn hA st hQ
  refine wpR_Subscript (hv A n F s _ _ hn hA st fun o s₁ g₁ ho₁ => wpR_Slice (hl.run hn hA (st.grow g₁) fun vl s₂ g₂ pl => hu.run hn hA ((st.grow g₁).grow g₂) fun vu s₃ g₃ pu => wpR_pure ?_))
  have g : Gr s₁ { s₃ with heap := s₃.heap.push { cls := .type "slice", data := .fields #[vl, vu, .none] } } := (g₂.trans g₃).trans (Gr.heap _ (Kp.push _ _))
  have st₃ := (st.grow g₁).grow g
  have ho₃ := ho₁.grow g.keep
  obtain ⟨T, id, hT, hl⟩ := hT _ _ o ho₃
  exact toR <| tail_any hT hl (ho A n _ _ o _ vl vu .none _ _ (by omega) hA ho₃ st₃.dom (Heap.IsSliceOf.new ..) pl pu .none fun v s₄ g₄ hv => hQ v s₄ ((g₁.trans g).trans g₄) hv) rfl
theorem Ev.slice3 {value step : Expr} {lower upper : Option Expr} {p : Pos} {a r : PV} {lo hi : Option Int} {c : Int} (hv : Ev Γ k sc σ μ value a) (hl : Pt Γ k sc σ μ lower lo) (hu : Pt Γ k sc σ μ upper hi) (hc : Ev Γ k sc σ μ step (.int c)) (ho : SliceOk Γ a lo hi (some c) r) (hT : HasItem Γ a) :
    Ev Γ k sc σ μ (.Subscript value (.Slice lower upper (some step) p) pos) r := by
  intro A n F s Q E hn hA st hQ
  refine wpR_Subscript (hv A n F s _ _ hn hA st fun o s₁ g₁ ho₁ => wpR_Slice (hl.run hn hA (st.grow g₁) fun vl s₂ g₂ pl => hu.run hn hA ((st.grow g₁).grow g₂) fun vu s₃ g₃ pu =>
    (Pt.some hc).run hn hA (((st.grow g₁).grow g₂).grow g₃) fun vs s₄ g₄ ps => ?_))
  have g : Gr s₁ { s₄ with heap := s₄.heap.push { cls := .type "slice", data := .fields #[vl, vu, vs] } } := ((g₂.trans g₃).trans g₄).trans (Gr.heap _ (Kp.push _ _))
  have st₃ := (st.grow g₁).grow g
  have ho₃ := ho₁.grow g.keep
  obtain ⟨T, id, hT, hl⟩ := hT _ _ o ho₃
  exact toR <| tail_any hT hl (ho A n _ _ o _ vl vu vs _ _ (by omega) hA ho₃ st₃.dom (Heap.IsSliceOf.new ..) pl pu ps fun v s₄ g₄ hv => hQ v s₄ ((g₁.trans g).trans g₄) hv) rfl

/-! ### built-ins of ints and lists -/
theorem CallOk.len_lst {xs : List PV} (h : xs.length < 2 ^ 62) : CallOk Γ k (.builtin "len") [.lst xs] (.int xs.length) := by
  intro A n D s vals Q E _ _ _ _ hvs _ hQ
  rw [Vs_cons] at hvs
  obtain ⟨v, r, rfl, hv, hr⟩ := hvs
  rw [Vs_nil] at hr; subst hr
  obtain ⟨a, items, rfl, _, hl, he⟩ := V_lst.mp hv
  have hlen : items.size = xs.length := by simpa using he.length
  refine toR (PyProof.Rows.len_list hl (by omega) (hQ _ _ (Gr.toks _) ?_))
  rw [hlen]; exact V.int _ _
theorem CallOk.len_bytes {l : List UInt8} (h : l.length ≤ 1099511627776) : CallOk Γ k (.builtin "len") [.bytes l] (.int l.length) := by
  intro A n D s vals Q E _ _ _ _ hvs _ hQ
  rw [Vs_cons] at hvs
  obtain ⟨v, r, rfl, hv, hr⟩ := hvs
  rw [Vs_nil] at hr; subst hr
  obtain ⟨t, rfl⟩ := V_bytes.mp hv
  exact toR <| PySem.W.len_bytes (by simpa using h) (hQ _ _ (Gr.toks _) (by simpa using V.int _ _))
theorem CallOk.abs {i : Int} : CallOk Γ k (.builtin "abs") [.int i] (.int (if i < 0 then -i else i)) := by
  intro A n D s vals Q E _ _ _ _ hvs _ hQ
  rw [Vs_cons] at hvs
  obtain ⟨v, r, rfl, hv, hr⟩ := hvs
  rw [Vs_nil] at hr; subst hr
  obtain ⟨t, rfl⟩ := V_int.mp hv
  exact toR <| PyProof.Rows.call_abs_int fun u tk => hQ _ _ (Gr.toks _) (V.int _ _)
theorem CallOk.list_lst {xs : List PV} (h : xs.length ≤ 1000000) : CallOk Γ k (.type "list") [.lst xs] (.lst xs) := by
  intro A n D s vals Q E _ _ _ _ hvs hD hQ
  rw [Vs_cons] at hvs
  obtain ⟨v, r, rfl, hv, hr⟩ := hvs
  rw [Vs_nil] at hr; subst hr
  obtain ⟨a, items, rfl, _, ⟨o, ho, hc, m, hd⟩, he⟩ := V_lst.mp hv
  have hlen : items.size = xs.length := by simpa using he.length
  refine toR (PySem.call_list_seq (hsz := by rw [sizeLine_eq]; omega) a (.inl rfl) ho hc hd fun h' c' hk hD' => hQ _ _ (Gr.heap _ hk) ?_)
  exact V_lst.mpr ⟨_, items, rfl, not_dom hD, ⟨_, hD', rfl, _, rfl⟩, he.grow hk⟩

theorem Truth.lst {xs : List PV} (h : xs.length < 2 ^ 62) : Truth Γ (.lst xs) (!xs.isEmpty) := by
  intro A n D s x Q E _ _ _ hx hQ
  obtain ⟨a, items, rfl, _, hl, he⟩ := V_lst.mp hx
  have hlen : items.size = xs.length := by simpa using he.length
  refine wpAny_truthy_list hl (by omega) ?_
  have e : items.isEmpty = xs.isEmpty := by
    unfold Array.isEmpty
    rw [hlen]; cases xs <;> simp
  rw [e]; exact hQ _ (Gr.toks _)
end

/-! ### saying less -/
noncomputable def Sub (σ : Loc) : Loc → Prop
  | [] => True
  | (x, v) :: r => σ.lookup x = some v ∧ Sub σ r
theorem Sub.to {σ : Loc} : ∀ {σ' : Loc}, Sub σ σ' → ∀ x v, σ'.lookup x = some v → σ.lookup x = some v
  | [], _, x, v, e => nomatch e
  | (y, w) :: r, h, x, v, e => by
    rw [List.lookup_cons] at e
    cases q : (x == y) with
    | true => rw [q] at e; cases e; rw [beq_iff_eq.mp q]; exact h.1
    | false => rw [q] at e; exact Sub.to h.2 x v e
theorem Wh.sub {Γ : Cx} {k : Nat} {sc : Scope} {σ σ' : Loc} {μ : Own} {P : Fl → Loc → Own → Prop} {t : Expr} {body orelse : List Stmt} (h : Sub σ σ') (hx : Wh Γ k sc σ' μ t body orelse P) : Wh Γ k sc σ μ t body orelse P := Wh.less h.to hx
theorem Fo.sub {Γ : Cx} {k : Nat} {sc : Scope} {σ σ' : Loc} {μ : Own} {P : Fl → Loc → Own → Prop} {t : Expr} {body orelse : List Stmt} {xs : List PV} (h : Sub σ σ') (hx : Fo Γ k sc σ' μ t body orelse xs P) : Fo Γ k sc σ μ t body orelse xs P := Fo.less h.to hx
theorem Xs.sub {Γ : Cx} {k : Nat} {sc : Scope} {σ σ' : Loc} {μ : Own} {P : Fl → Loc → Own → Prop} {sts : List Stmt} (h : Sub σ σ') (hx : Xs Γ k sc σ' μ sts P) : Xs Γ k sc σ μ sts P := Xs.less h.to hx

noncomputable def fnAt (p : Program) (i : Nat) : Arguments × List Stmt × Scope := match p.main.body[i]? with
  | some (.FunctionDef _ a b _ _ _ s _ _ _) => (a, b, s)
  | _ => (⟨[], [], none, [], [], none, []⟩, [], default)

/-- a plain def of the text at a written address of the top's heap -/
structure DefAt (Γ : Cx) (a : Addr) (name : Str) (d : Arguments × List Stmt × Scope) : Prop where
  out : ∃ o pm cd doc, Γ.B.get? a = some o ∧ o.data = .func (docDef name d.1 d.2.1 d.2.2 pm cd doc) ∧ Γ.B.CodeRec cd name
theorem DefAt.keep {Γ : Cx} {a : Addr} {name : Str} {d} (h : DefAt Γ a name d) : KeepOk Γ (.ref a) := by
  obtain ⟨o, pm, cd, doc, h1, h2, h3⟩ := h.out
  exact KeepOk.fn h1 h2
theorem DefAt.call {Γ : Cx} {k : Nat} {a : Addr} {name : Str} {params : Arguments} {body : List Stmt} {scope : Scope} {args : List PV} {r : PV} (h : DefAt Γ a name (params, body, scope))
    (hbody : Xs Γ k scope ((params.args.map (·.arg)).zip args) [] body (fun fl _ μ' => fl = .ret r))
    (hbind : ∀ (pm cd doc : Value) (vals : List Value), vals.length = args.length → bindArgs (docDef name params body scope pm cd doc) ⟨vals, []⟩ = pure ((params.args.map (·.arg)).zip vals))
    (hnd : (params.args.map (·.arg)).Nodup := by decide +kernel)
    (hloc : (params.args.map (·.arg)).all (fun x => decide (scope.names.lookup x = some .local)) = true := by decide +kernel)
    (hco : scope.isCoroutine = false := by kernel_rfl) (hgen : scope.isGenerator = false := by kernel_rfl) (hk : scope.kind = .function := by kernel_rfl)
    (hcell : (scope.names.all fun x => decide (x.2 ≠ .cell)) = true := by decide +kernel) : CallOk Γ (k + 1) (.ref a) args r := by
  obtain ⟨o, pm, cd, doc, h1, h2, h3⟩ := h.out
  exact CallOk.fn h1 h2 h3 (hbind pm cd doc) hbody hnd hloc hco hgen hk hcell
theorem CallOk.mono {Γ : Cx} {k k' : Nat} {f : Value} {args : List PV} {r : PV} (h : CallOk Γ k f args r) (hk : k ≤ k') : CallOk Γ k' f args r :=
  fun A n D s vals Q E hn => h A n D s vals Q E (by omega)
/-- a statement, by the state behind it -/
theorem Xs.cut {Γ : Cx} {k : Nat} {sc : Scope} {σ : Loc} {μ : Own} {P : Fl → Loc → Own → Prop} {st : Stmt} {rest : List Stmt} (σ₁ : Loc) (μ₁ : Own)
    (h : X1 Γ k sc σ μ st (fun fl σ' μ' => fl = .next ∧ Sub σ' σ₁ ∧ μ' = μ₁)) (hr : Xs Γ k sc σ₁ μ₁ rest P) : Xs Γ k sc σ μ (st :: rest) P := by
  refine Xs.cons (h.mono fun fl σ' μ' hh => ?_)
  obtain ⟨rfl, h1, rfl⟩ := hh
  exact hr.sub h1

/-! ### from the head -/
theorem DefAt.of {p : Program} {loose : List Str} {mean : ExcName → Option Value} {mg mb : Str → Option Value} {B : Heap} (T : Top p loose mean mg mb B) (i j : Nat) (name : Str) (pgm : Program)
    (hd : ((recsOf p)[i]?.map fun d => (d.name, d.params, d.body, d.scope)) = some (name, fnAt pgm j)) : ∃ a, mg name = some (.ref a) ∧ ∀ Γ : Cx, Γ.B = B → DefAt Γ a name (fnAt pgm j) := by
  cases hr : (recsOf p)[i]? with
  | none => rw [hr] at hd; cases hd
  | some d =>
    rw [hr] at hd
    obtain ⟨a, o, pm, cd, doc, h1, h2, h3, h4⟩ := T.fn d (List.mem_of_getElem? hr)
    simp only [Option.map_some, Option.some.injEq, Prod.mk.injEq] at hd
    obtain ⟨e1, e2⟩ := hd
    subst e1
    refine ⟨a, h1, fun Γ hB => ⟨o, pm, cd, doc, by rw [hB]; exact h2, ?_, by rw [hB]; exact h4⟩⟩
    rw [← e2]
    exact h3
theorem GloV.fn {p : Program} {loose : List Str} {mean : ExcName → Option Value} {mg mb : Str → Option Value} {B : Heap} (T : Top p loose mean mg mb B) {x : Str} {v : Value} (h : mg x = some v) : GloV B x v := ⟨mg, T.g, .inl h⟩
theorem GloV.bi {p : Program} {loose : List Str} {mean : ExcName → Option Value} {mg mb : Str → Option Value} {B : Heap} (T : Top p loose mean mg mb B) {K : Frag} (X : K.In B) {x : Str} {v : Value} (e : nsIn K mainGlobals x = some none) (hv : bootBuiltins x = some v) (hn : x ≠ "__name__") : GloV B x v :=
  ⟨mg, T.g, .inr ⟨mg_none_of X T.g e, mb, T.b, (T.builtins x hn).trans hv⟩⟩
theorem GloV.top {p : Program} {loose : List Str} {mean : ExcName → Option Value} {mg mb : Str → Option Value} {B : Heap} (T : Top p loose mean mg mb B) {K : Frag} (X : K.In B) {x : Str} {v : Value} (e : nsIn K mainGlobals x = some (some v)) : GloV B x v := ⟨mg, T.g, .inl (mg_of X T.g e)⟩

noncomputable def GlOk (B : Heap) : List (Str × PV) → Prop
  | [] => True
  | (x, p) :: r => (∃ v, GloV B x v ∧ ∀ D h, V D h p v) ∧ GlOk B r
theorem GlOk.to {B : Heap} : ∀ {l : List (Str × PV)}, GlOk B l → ∀ x p, l.lookup x = some p → ∃ v, GloV B x v ∧ ∀ D h, V D h p v
  | [], _, _, _, e => nomatch e
  | (y, q) :: r, h, x, p, e => by
    rw [List.lookup_cons] at e
    cases c : (x == y) with
    | true => rw [c] at e; cases e; rw [beq_iff_eq.mp c]; exact h.1
    | false => rw [c] at e; exact GlOk.to h.2 x p e
theorem GlOk.one {B : Heap} {x : Str} {v : Value} (h : GloV B x v) : ∃ v', GloV B x v' ∧ ∀ D h, V D h (.obj v) v' := ⟨v, h, fun _ _ => V_obj.mpr rfl⟩
theorem GlOk.bytes {B : Heap} {x : Str} {l : List UInt8} {t : Tok} (h : GloV B x (.bytes l.toArray t)) : ∃ v', GloV B x v' ∧ ∀ D h, V D h (.bytes l) v' := ⟨_, h, fun _ _ => V.bytes _ _⟩

end Mine

set_option maxRecDepth 100000
namespace Mine

/-! ## built-ins that touch bytearrays, over quiet contexts -/

section
variable {prog : Program} {w : World} {A : Around} {s : Shared} {R : Result → Shared → Prop}

theorem codeR_builtin {id : String} {args : Args} {b : Builtin} (hq : QuietC (.builtin id args) = true) (hb : entryFor table id = some b)
    (h : wpR (model prog w) (A.under (.builtin id args)) (b args)
      (fun fin s' => match fin with | .done f => R (.ok f) s' | .again c' => c'.quiet = true ∧ codeR (model prog w) A c' R s') (fun e s' => R (.error e) s') s) :
    codeR (model prog w) A (.builtin id args) R s := by
  refine codeR_of_tree hq ?_
  show wpR _ _ (match entryFor table id with | some b => b args | none => unsupported ((withoutEnding? id "#data").getD id)) _ _ s
  rw [hb]; exact h

theorem codeR_call_builtin {id : String} {args : Args} {b : Builtin} (hqc : QuietC (.builtin id args) = true) (hq : plainId id = true) (hb : entryFor table id = some b)
    (h : wpAny (model prog w) A.in1 (checkBuiltinCall id args) (fun _ s₁ => wpR (model prog w) A.in1 (b args)
      (fun fin s' => match fin with | .done f => R (.ok f) s' | .again c' => c'.quiet = true ∧ codeR (model prog w) A c' R s') (fun e s' => R (.error e) s') s₁)
      (fun e s' => R (.error e) s') s) : codeR (model prog w) A (.call (.builtin id) args) R s := by
  refine codeR_of_tree rfl ?_
  show wpR _ A.in1 (do checkBuiltinCall id args; again (.builtin id args)) _ _ s
  refine wpR_bind (toR (wpAny_mono h (fun _ s₁ h₁ => wpR_pure (And.intro (plainId_quiet hq args) (codeR_builtin hqc hb ?_))) fun _ _ h' => h'))
  rw [Around.under_plainId hq args]; exact h₁

theorem wpR_callSpecial?_slot {M : Model} {E : Value → Shared → Prop} {self : Value} {T : String} {name : Str} {id : String} {args : List Value} {kw : List (Str × Value)}
    {Q : Option Value → Shared → Prop} (hT : s.TypeIs self T) (h : Slot T name id)
    (hc : wpR M A (call (.builtin id) (self :: args) kw) (fun v => Q (some v)) E s) : wpR M A (callSpecial? self name args kw) Q E s := by
  simp only [callSpecial?]
  refine wpR_bind (toR (wpAny_specialOf hT h.lookup ?_))
  simp only [h.bind]
  exact wpR_holding (wpR_bind (wpR_pure (wpR_bind (wpR_mono hc (fun v s' h' => wpR_pure h') fun _ _ h' => h'))))

/-- making an object of a type: new, then init -/
theorem callTypeR {E : Value → Shared → Prop} {T newId initId : String} {Bi : Builtin} {args : List Value} {Q Q₁ : Value → Shared → Prop} (ft : TypeCalled T newId initId)
    (hct : checkTypeCall T ⟨args, []⟩ = pure ()) (entryI : entryFor table initId = some Bi) (hqi : ∀ as, QuietC (.builtin initId as) = true)
    (hnew : codeR (model prog w) A.in1 (.call (.builtin newId) ⟨.type T :: args, []⟩) (wants Q₁ E) s)
    (hnext : ∀ obj s₁, Q₁ obj s₁ → s₁.TypeIs obj T ∧ argsOk initId ⟨obj :: args, []⟩ ∧
      wpR (model prog w) A.in1.in1 (Bi ⟨obj :: args, []⟩)
        (fun fin s' => match fin with | .done f => wants (fun r s₂ => r = .none ∧ Q obj s₂) E (.ok f) s' | .again c' => c'.quiet = true ∧ codeR (model prog w) A.in1 c' (wants (fun r s₂ => r = .none ∧ Q obj s₂) E) s')
        (fun e s' => wants (fun r s₂ => r = .none ∧ Q obj s₂) E (.error e) s') s₁) :
    wpR (model prog w) A (call (.type T) args) Q E s := by
  obtain ⟨c, tl, hmro⟩ := ft.mro
  have hmade := ft.made
  have hsub := ft.sub
  refine wpR_call (codeR_of_tree rfl ?_)
  show wpR _ _ (callAny (.type T) _) _ _ _
  refine wpR_pure ⟨Code.quiet_builtin _ (by decide +kernel), codeR_builtin (by kernel_rfl) F.entry_type_call ?_⟩
  rw [Around.under_plain (weight_type_call_type T args []) rfl]
  have h1 := ft.notType
  have h2 := ft.canCreate
  unfold Builtin.«type.__call__»
  dsimp only
  simp only [h1, Bool.false_eq_true, if_false, h2]
  refine wpR_bind (toR (wpAny_of_eq hct ?_))
  refine wpR_bind (toR (wpAny_of_eq hmro ?_))
  simp only [List.isEmpty_cons, Bool.false_eq_true, if_false]
  refine wpR_bind (toR (wpAny_of_eq hmade ?_))
  refine wpR_bind (wpR_pure ?_)
  refine wpR_bind (wpR_holding (wpR_call (codeR_mono hnew fun r s₁ hr => ?_)))
  cases r with
  | error e => exact hr
  | ok fl =>
    cases fl with
    | ret obj =>
      obtain ⟨hT, hok, hsi⟩ := hnext _ _ hr
      refine wpR_bind (toR (wpAny_isInstance hT hsub ?_))
      simp only [Bool.not_true, Bool.false_eq_true, if_false]
      refine wpR_bind (wpR_holding (wpR_callSpecial?_slot hT ft.init (wpR_call (codeR_mono (codeR_call_builtin (hqi _) ft.init.plain entryI (ft.init.check _ _ _ _ _ _ _ _ hT hok hsi)) fun r₂ s₂ hr₂ => ?_))))
      cases r₂ with
      | error e => exact hr₂
      | ok fl₂ =>
        cases fl₂ with
        | ret r =>
          obtain ⟨rfl, hq⟩ := hr₂
          exact wpR_pure hq
        | _ => exact hr₂.elim
    | _ => exact hr.elim
end

namespace F
theorem ba_mro : mroOf (.type "bytearray") = pure [.type "bytearray", .type "object"] := by rw [mroOf_type]; kernel_rfl
theorem ba_lookup_new : typeLookup (.type "bytearray") "__new__" = pure (some (.builtin "bytearray.__new__")) := by rw [typeLookup_type, builtinLookup_eq_fast]; kernel_rfl
theorem ba_slot_init : Slot "bytearray" "__init__" "bytearray.__init__" :=
  .of (owner := "bytearray") (n := "__init__") (by rw [typeLookup_type, builtinLookup_eq_fast]; kernel_rfl) (by decide +kernel) (by decide +kernel) (by decide +kernel)
    (by first | exact .inl (by decide +kernel) | exact .inr (by decide +kernel)) (by rw [isSubtype_type]; kernel_rfl)
theorem ba_called : TypeCalled "bytearray" "bytearray.__new__" "bytearray.__init__" :=
  ⟨by decide +kernel, by decide +kernel, ⟨_, _, ba_mro⟩, madeBy_type ba_mro ba_lookup_new (by decide +kernel), by decide +kernel, by rw [isSubtype_type]; kernel_rfl, ba_slot_init⟩
theorem ba_typeCall : checkTypeCall "bytearray" ⟨[], []⟩ = pure () := by kernel_rfl
theorem ba_newCall : checkBuiltinCall "bytearray.__new__" ⟨[.type "bytearray"], []⟩ = pure () := by kernel_rfl
theorem ba_plain_new : plainId "bytearray.__new__" = true := by decide +kernel
theorem ba_entry_new : entryFor table "bytearray.__new__" = some Builtin.«list.__new__» :=
  entryFor_alias (id' := "list.__new__") (by kernel_rfl) (by first | rfl | decide +kernel) (by decide +kernel) (by kernel_rfl)
theorem ba_entry_init : entryFor table "bytearray.__init__" = some Builtin.«bytearray.__init__» := by first | exact entryFor_of_fast (by kernel_rfl) | exact entryFor_of_tree (by kernel_rfl)
theorem ba_entry_append : entryFor table "bytearray.append" = some Builtin.«bytearray.append» := by first | exact entryFor_of_fast (by kernel_rfl) | exact entryFor_of_tree (by kernel_rfl)
theorem ba_entry_extend : entryFor table "bytearray.extend" = some Builtin.«bytearray.extend» := by first | exact entryFor_of_fast (by kernel_rfl) | exact entryFor_of_tree (by kernel_rfl)
theorem ba_slot_append : Slot "bytearray" "append" "bytearray.append" :=
  .of (owner := "bytearray") (n := "append") (by rw [typeLookup_type, builtinLookup_eq_fast]; kernel_rfl) (by decide +kernel) (by decide +kernel) (by decide +kernel)
    (by first | exact .inl (by decide +kernel) | exact .inr (by decide +kernel)) (by rw [isSubtype_type]; kernel_rfl)
theorem ba_slot_extend : Slot "bytearray" "extend" "bytearray.extend" :=
  .of (owner := "bytearray") (n := "extend") (by rw [typeLookup_type, builtinLookup_eq_fast]; kernel_rfl) (by decide +kernel) (by decide +kernel) (by decide +kernel)
    (by first | exact .inl (by decide +kernel) | exact .inr (by decide +kernel)) (by rw [isSubtype_type]; kernel_rfl)
theorem ba_plainAttrs : PlainAttrs "bytearray" :=
  ⟨⟨"bytearray.__getattribute__", by rw [typeLookup_type, builtinLookup_eq_fast]; kernel_rfl, by decide +kernel⟩, by rw [typeLookup_type, builtinLookup_eq_fast]; kernel_rfl⟩
theorem ba_type_append : typeOf (.builtin "bytearray.append") = pure (.type "method_descriptor") := by show builtinType _ = _; rw [builtinType_eq_fast]; kernel_rfl
theorem ba_type_extend : typeOf (.builtin "bytearray.extend") = pure (.type "method_descriptor") := by show builtinType _ = _; rw [builtinType_eq_fast]; kernel_rfl
theorem ba_owner : Manifest.owners.lookup (String.ofList ['y', 'a', 'r', 'r', 'a', 'e', 't', 'y', 'b'].reverse) = some Manifest.sig_bytearray := by kernel_rfl
theorem ba_args_init (a : Value) : argsOk "bytearray.__init__" ⟨[a], []⟩ := by
  unfold argsOk; rw [signature?_of (id := "bytearray.__init__") (n := ['_', '_', 't', 'i', 'n', 'i', '_', '_']) (o := ['y', 'a', 'r', 'r', 'a', 'e', 't', 'y', 'b']) (by kernel_rfl) ba_owner]; kernel_rfl
theorem ba_args_append (a b : Value) : argsOk "bytearray.append" ⟨[a, b], []⟩ := by
  unfold argsOk; rw [signature?_of (id := "bytearray.append") (n := ['d', 'n', 'e', 'p', 'p', 'a']) (o := ['y', 'a', 'r', 'r', 'a', 'e', 't', 'y', 'b']) (by kernel_rfl) ba_owner]; kernel_rfl
theorem ba_args_extend (a b : Value) : argsOk "bytearray.extend" ⟨[a, b], []⟩ := by
  unfold argsOk; rw [signature?_of (id := "bytearray.extend") (n := ['d', 'n', 'e', 't', 'x', 'e']) (o := ['y', 'a', 'r', 'r', 'a', 'e', 't', 'y', 'b']) (by kernel_rfl) ba_owner]; kernel_rfl
theorem ba_release : typeLookup (.type "bytearray") "__release_buffer__" = pure (some (.builtin "bytearray.__release_buffer__")) := by rw [typeLookup_type, builtinLookup_eq_fast]; kernel_rfl
theorem ba_buffer : typeLookup (.type "bytearray") "__buffer__" = pure (some (.builtin "bytearray.__buffer__")) := by rw [typeLookup_type, builtinLookup_eq_fast]; kernel_rfl
theorem ba_no_bytes : typeLookup (.type "bytearray") "__bytes__" = pure none := by rw [typeLookup_type, builtinLookup_eq_fast]; kernel_rfl
theorem ba_no_index : typeLookup (.type "bytearray") "__index__" = pure none := by rw [typeLookup_type, builtinLookup_eq_fast]; kernel_rfl
theorem ba_sub : isSubtype (.type "bytearray") (.type "bytearray") = pure true := by rw [isSubtype_type]; kernel_rfl
theorem ba_bind : Builtin.Bytes.bindOptional "bytearray.__init__" "bytearray" ["source", "encoding", "errors"] [] [] = pure [none, none, none] := by kernel_rfl
theorem b_release : typeLookup (.type "bytes") "__release_buffer__" = pure none := by rw [typeLookup_type, builtinLookup_eq_fast]; kernel_rfl
theorem b_buffer : typeLookup (.type "bytes") "__buffer__" = pure (some (.builtin "bytes.__buffer__")) := by rw [typeLookup_type, builtinLookup_eq_fast]; kernel_rfl
end F
set_option maxRecDepth 1000000 in
set_option maxHeartbeats 4000000 in
theorem owner_ba_new : ("bytearray.__new__".splitOn ".__new__").headD "" = "bytearray" := by simp +decide [String.splitOn, String.splitOnAux]

noncomputable abbrev baObj (l : List UInt8) : Obj := { cls := .type "bytearray", data := .bytearray l.toArray }

section
variable {prog : Program} {w : World} {A : Around} {E : Value → Shared → Prop} {s : Shared}

theorem typeIs_ba {a : Addr} {l : List UInt8} (h : s.heap.get? a = some (baObj l)) : s.TypeIs (.ref a) "bytearray" := ⟨_, h, rfl⟩

theorem wpAny_slotIsOwn {v : Value} {T : String} {name id : String} {Q : Bool → Shared → Prop} {M : Model} (hT : s.TypeIs v T) (hl : typeLookup (.type T) (Str.ofString name) = pure (some (.builtin id)))
    (he : id.endsWith ("." ++ name) = true) (hsub : isSubtype (.type T) (.type (id.dropRight (name.length + 1))) = pure true) (h : Q true s) : wpAny M A (Builtin.Bytes.slotIsOwn v name) Q E s := by
  unfold Builtin.Bytes.slotIsOwn
  refine wpAny_bind (wpAny_specialOf hT hl ?_)
  simp only [he, Bool.not_true, Bool.false_eq_true, if_false]
  exact wpAny_isInstance hT hsub h
theorem wpAny_slotIsOwn_none {v : Value} {T : String} {name : String} {Q : Bool → Shared → Prop} {M : Model} (hT : s.TypeIs v T) (hl : typeLookup (.type T) (Str.ofString name) = pure none)
    (h : Q true s) : wpAny M A (Builtin.Bytes.slotIsOwn v name) Q E s := by
  unfold Builtin.Bytes.slotIsOwn
  exact wpAny_bind (wpAny_specialOf hT hl (wpAny_pure h))
theorem wpAny_ownRelease_ba {M : Model} {v : Value} {Q : Bool → Shared → Prop} (hT : s.TypeIs v "bytearray") (h : Q false s) : wpAny M A (Builtin.Bytes.ownRelease v) Q E s := by
  unfold Builtin.Bytes.ownRelease
  exact wpAny_bind (wpAny_slotIsOwn hT F.ba_release (by decide +kernel) (by rw [isSubtype_type]; kernel_rfl) (wpAny_pure h))
theorem wpAny_ownRelease_b {M : Model} {v : Value} {Q : Bool → Shared → Prop} (hT : s.TypeIs v "bytes") (h : Q false s) : wpAny M A (Builtin.Bytes.ownRelease v) Q E s := by
  unfold Builtin.Bytes.ownRelease
  exact wpAny_bind (wpAny_slotIsOwn_none hT F.b_release (wpAny_pure h))
theorem wpAny_payload_ba {M : Model} {a : Addr} {l : List UInt8} {Q : Array UInt8 → Shared → Prop} (ha : s.heap.get? a = some (baObj l)) (h : Q l.toArray s) : wpAny M A (Builtin.Bytes.payload (.ref a)) Q E s := by
  unfold Builtin.Bytes.payload Builtin.Bytes.payload?
  refine wpAny_bind (wpAny_bind (wpAny_load ha ?_))
  exact wpAny_pure (wpAny_pure h)
theorem wpAny_write {M : Model} {a : Addr} {l l' : List UInt8} {f : Array UInt8 → Array UInt8} {Q : Unit → Shared → Prop} (ha : s.heap.get? a = some (baObj l)) (hf : f l.toArray = l'.toArray) (hz : l'.length ≤ sizeLine)
    (h : ∀ h', Heap.SameBut a s.heap h' → h'.get? a = some (baObj l') → Q () { s with heap := h' }) : wpAny M A (Builtin.Bytes.write (.ref a) f) Q E s := by
  show wpAny _ _ (updateBytearray a f) _ _ _
  unfold updateBytearray
  refine wpAny_bind (wpAny_load ha ?_)
  show wpAny _ _ (update a (Obj.mapBytearray f) >>= fun _ => lookBehind a) _ _ _
  refine wpAny_bind (wpAny_update ha ?_)
  have h2 : (s.heap.update a (Obj.mapBytearray f)).get? a = some (baObj l') := by
    have := Heap.get?_update_self (Obj.mapBytearray f) ha rfl
    rw [this]
    show some ({ cls := .type "bytearray", data := .bytearray (f l.toArray) } : Obj) = _
    rw [hf]
  refine wpAny_lookBehind h2 ?_ (h _ (Heap.SameBut.update ..) h2)
  show (if l'.toArray.size > sizeLine then some "bytearray:memory" else none) = none
  rw [if_neg]
  rw [List.size_toArray]; omega
theorem wpR_checkNone {M : Model} {a : Addr} {l : List UInt8} {Q : Bool → Shared → Prop} (hg : A.guards = some []) (ha : s.heap.get? a = some (baObj l)) (h : Q false s) :
    wpR M A (Builtin.Bytes.exported (.ref a) <||> (do return (← Builtin.Bytes.exportsOf (.ref a)) > 0)) Q E s := by
  refine wpR_bind (wpR_exported hg rfl ?_)
  show wpR M A (Builtin.Bytes.exportsOf (.ref a) >>= _) Q E s
  refine wpR_bind ?_
  unfold Builtin.Bytes.exportsOf
  refine wpR_bind (toR (wpAny_load ha ?_))
  exact wpR_pure (wpR_pure h)
theorem wpR_checkResize {M : Model} {a : Addr} {l : List UInt8} {Q : Unit → Shared → Prop} (hg : A.guards = some []) (ha : s.heap.get? a = some (baObj l)) (h : Q () s) : wpR M A (Builtin.Bytes.checkResize (.ref a)) Q E s := by
  unfold Builtin.Bytes.checkResize
  refine wpR_bind (wpR_checkNone hg ha ?_)
  exact wpR_pure h

theorem code_ba_new {Q₁ : Value → Shared → Prop}
    (h : Q₁ (.ref s.heap.objs.size) { s with heap := s.heap.push (baObj []) }) :
    codeAny (model prog w) A (.call (.builtin "bytearray.__new__") ⟨[.type "bytearray"], []⟩) (wants Q₁ E) s := by
  refine codeAny_of_tree ?_
  show wpAny _ A.in1 (do checkBuiltinCall "bytearray.__new__" ⟨[.type "bytearray"], []⟩; again (.builtin "bytearray.__new__" ⟨[.type "bytearray"], []⟩)) _ _ s
  refine wpAny_bind (wpAny_of_eq F.ba_newCall (wpAny_pure ⟨plainId_quiet F.ba_plain_new _, codeAny_builtin_stack F.ba_entry_new rfl fun p st => ?_⟩))
  rw [Around.under_plainId F.ba_plain_new _]
  have hsub := F.ba_sub
  have hown := owner_ba_new
  obtain ⟨hp, g, d, tk, os⟩ := s
  simp only [hown]
  wp_walk
  exact h

theorem wpR_ifF {α : Type} {M : Model} {c : Prop} [Decidable c] {x y : Sem α} {Q : α → Shared → Prop} (hc : ¬ c) (h : wpR M A y Q E s) : wpR M A (if c then x else y) Q E s := by rw [if_neg hc]; exact h
theorem ba_init {a : Addr} {Q : Fin → Shared → Prop} (hg : A.guards = some []) (ha : s.heap.get? a = some (baObj []))
    (h : ∀ h', Heap.SameBut a s.heap h' → h'.get? a = some (baObj []) → Q (.done (.ret .none)) { s with heap := h' }) : wpR (model prog w) A (Builtin.«bytearray.__init__» ⟨[.ref a], []⟩) Q E s := by
  unfold Builtin.«bytearray.__init__»
  refine wpR_bind (toR (wpAny_ownRelease_ba (typeIs_ba ha) ?_))
  refine wpR_ifF (by decide) ?_
  refine wpR_bind (toR (wpAny_of_eq F.ba_bind ?_))
  refine wpR_bind (toR (wpAny_of_eq (a := ()) rfl ?_))
  refine wpR_bind (toR (wpAny_of_eq (a := ()) rfl ?_))
  refine wpR_bind (wpR_checkNone hg ha ?_)
  refine wpR_ifF (by decide) ?_
  refine wpR_bind (toR (wpAny_write (l' := []) ha rfl (Nat.zero_le _) fun h' hs ha' => ?_))
  exact wpR_bind (wpR_pure (wpR_pure (h h' hs ha')))

/-- bytearray() -/
theorem call_ba {Q : Value → Shared → Prop} (hg : A.guards = some []) (h : ∀ h', Kp s.heap h' → h'.get? s.heap.objs.size = some (baObj []) → Q (.ref s.heap.objs.size) { s with heap := h' }) : wpR (model prog w) A (call (.type "bytearray") []) Q E s := by
  refine callTypeR (Q₁ := fun obj s₁ => obj = .ref s.heap.objs.size ∧ s₁ = { s with heap := s.heap.push (baObj []) }) F.ba_called F.ba_typeCall F.ba_entry_init (fun as => by kernel_rfl) (codeToR (code_ba_new ⟨rfl, rfl⟩)) fun obj s₁ h₁ => ?_
  obtain ⟨rfl, rfl⟩ := h₁
  have ha : (s.heap.push (baObj [])).get? s.heap.objs.size = some (baObj []) := Heap.get?_push_size _ rfl
  refine ⟨typeIs_ba (s := { s with heap := s.heap.push (baObj []) }) ha, F.ba_args_init _, ba_init (s := { s with heap := s.heap.push (baObj []) }) hg ha fun h' hs ha' => ⟨rfl, h h' (fun b o e => (hs.2 b (Nat.ne_of_lt (Heap.lt_size e))).trans (Kp.push _ _ b o e)) ha'⟩⟩
end
end Mine

set_option maxRecDepth 100000
namespace Mine

/-! ## owned objects -/

section
variable {Γ : Cx} {k : Nat} {sc : Scope} {σ : Loc} {μ μ₁ μ₂ : Own} {pos : Pos} {P : Fl → Loc → Own → Prop} {A : Around} {F : Fm} {h₀ : Heap} {s : Shared} {a : Addr} {o o' : PO}

/-- a new object comes under the frame -/
theorem Sx.own' {s' : Shared} {cs : Scope} (X : Sx Γ h₀ sc F σ μ s cs) (g : Gr s s') (ha : s.heap.get? a = none) (ho : POat (Dm F ((a, o) :: μ)) s'.heap a o) : Sx Γ h₀ sc F σ ((a, o) :: μ) s' cs ∧ Sp F μ ((a, o) :: μ) s s' := by
  have hD : ∀ b o', s.heap.get? b = some o' → Dm F ((a, o) :: μ) b → Dm F μ b := by
    intro b o' hb d
    rcases d with d | d
    · exact .inl d
    · rw [List.map_cons, List.mem_cons] at d
      rcases d with d | d
      · dsimp only at d; subst d; rw [ha] at hb; cases hb
      · exact .inr d
  have hv : ∀ {x v}, V (Dm F μ) s.heap x v → V (Dm F ((a, o) :: μ)) s'.heap x v := fun e => e.move (fun b o hb _ => g.keep b o hb) hD
  have hvs : ∀ {x v}, Vs (Dm F μ) s.heap x v → Vs (Dm F ((a, o) :: μ)) s'.heap x v := fun e => e.move (fun b o hb _ => g.keep b o hb) hD
  have hnot : a ∉ μ.map (·.1) := fun d => by have := X.toSt.dom a (.inr d); rw [ha] at this; cases this
  refine ⟨⟨⟨X.ok, X.base.trans g.keep, ?_, fun x v p q => ?_, fun b q hm => ?_, fun b hb => g.keep.alive b (X.dal b hb)⟩, X.keep.trans g.keep, X.baseh, X.newL, fun y e => let ⟨c, v, p, q, d⟩ := X.cells y e; ⟨c, v, p, q, d.keeps g.keep⟩,
    fun y c e => let ⟨v, d⟩ := X.cellsAll y c e; ⟨v, d.keeps g.keep⟩, X.cellsApart, fun b hb => ?_, X.dold, ?_⟩, fun b o' e _ _ _ => g.keep b o' e, fun b e => g.keep.alive b e, fun b e d => ?_, g.gens, g.os⟩
  · obtain ⟨m, hn, hm⟩ := X.ns
    exact ⟨m, hn.keeps g.keep, fun x v p q => let ⟨val, e1, e2⟩ := hm x v p q; ⟨val, e1, hv e2⟩⟩
  · obtain ⟨c, val, e1, e2, e3⟩ := X.cel x v p q
    exact ⟨c, val, e1, e2.keeps g.keep, hv e3⟩
  · rcases List.mem_cons.mp hm with hm | hm
    · cases hm; exact ho
    · have := X.own b q hm
      cases q with
      | list xs => obtain ⟨items, n, ho, e⟩ := this; exact ⟨items, n, g.keep _ _ ho, hvs e⟩
      | barr l => exact g.keep _ _ this
  · rw [List.map_cons, List.mem_cons] at hb
    rcases hb with hb | hb
    · dsimp only at hb; subst hb
      cases q : h₀.get? b with
      | none => rfl
      | some o' => have := X.keep b o' q; rw [ha] at this; cases this
    · exact X.ownNew b hb
  · rw [List.map_cons, List.nodup_cons]; exact ⟨hnot, X.apart⟩
  · obtain ⟨o', ho'⟩ := Option.isSome_iff_exists.mp e
    exact hD b o' ho' d

theorem mem_own (o' : PO) (b : Addr) : b ∈ (μ₁ ++ (a, o') :: μ₂).map (·.1) ↔ b ∈ (μ₁ ++ (a, o) :: μ₂).map (·.1) := by simp
theorem Dm_own : Dm F (μ₁ ++ (a, o') :: μ₂) = Dm F (μ₁ ++ (a, o) :: μ₂) := by
  funext b; unfold Dm; rw [propext (mem_own (o := o) o' b)]

/-- an owned object is changed -/
theorem Sx.upd {h' : Heap} {tk : Nat} {cs : Scope} (X : Sx Γ h₀ sc F σ (μ₁ ++ (a, o) :: μ₂) s cs) (hs : Heap.SameBut a s.heap h') (ho : POat (Dm F (μ₁ ++ (a, o) :: μ₂)) h' a o') :
    Sx Γ h₀ sc F σ (μ₁ ++ (a, o') :: μ₂) { s with heap := h', toks := tk } cs ∧ Sp F (μ₁ ++ (a, o) :: μ₂) (μ₁ ++ (a, o') :: μ₂) s { s with heap := h', toks := tk } := by
  have hDa : Dm F (μ₁ ++ (a, o) :: μ₂) a := .inr (by simp)
  have hao := X.own a o (by simp)
  obtain ⟨oa, hoa, hda⟩ : ∃ oa, s.heap.get? a = some oa ∧ ((∃ xs n, oa.data = .seq xs n ∧ oa.cls = .type "list") ∨ ∃ l n, oa.data = .bytearray l n) := by
    cases o with
    | list xs => obtain ⟨items, n, h, _⟩ := hao; exact ⟨_, h, .inl ⟨_, _, rfl, rfl⟩⟩
    | barr l => exact ⟨_, hao, .inr ⟨_, _, rfl⟩⟩
  have hnode : ∀ b o', s.heap.get? b = some o' → Node (Dm F (μ₁ ++ (a, o) :: μ₂)) b o' → h'.get? b = some o' := fun b o' hb hn => (hs.2 b (fun q => by
    subst q
    rw [hoa] at hb; cases hb
    rcases hn with ⟨_, _, hn, hn'⟩ | ⟨hn, _, hn'⟩
    · rcases hn' with hn' | hn'
      · exact hn' hDa
      · rcases hda with ⟨_, _, _, hc⟩ | ⟨_, _, hd⟩
        · rw [hc] at hn'; exact absurd hn' (by decide)
        · rw [hd] at hn; cases hn
    · rcases hda with ⟨_, _, hd, _⟩ | ⟨_, _, hd⟩ <;> (rw [hd] at hn'; cases hn'))).trans hb
  have hv : ∀ {x v}, V (Dm F (μ₁ ++ (a, o) :: μ₂)) s.heap x v → V (Dm F (μ₁ ++ (a, o) :: μ₂)) h' x v := fun e => e.move hnode fun _ _ _ d => d
  have hvs : ∀ {x v}, Vs (Dm F (μ₁ ++ (a, o) :: μ₂)) s.heap x v → Vs (Dm F (μ₁ ++ (a, o) :: μ₂)) h' x v := fun e => e.move hnode fun _ _ _ d => d
  have hnew := X.ownNew a (by simp)
  have hold : ∀ b o', h₀.get? b = some o' → h'.get? b = some o' := fun b o' e => (hs.2 b (fun q => by subst q; rw [hnew] at e; cases e)).trans (X.keep b o' e)
  have hcell : ∀ c v, s.heap.IsCell c v → h'.IsCell c v := fun c v ⟨oc, hoc, hd⟩ => ⟨oc, (hs.2 c (fun q => by
    subst q; rw [hoa] at hoc; cases hoc
    rcases hda with ⟨_, _, hd', _⟩ | ⟨_, _, hd'⟩ <;> (rw [hd'] at hd; cases hd))).trans hoc, hd⟩
  have hnd : (μ₁ ++ (a, o) :: μ₂).map (·.1) = (μ₁ ++ (a, o') :: μ₂).map (·.1) := by simp
  have halive : ∀ b, (s.heap.get? b).isSome → (h'.get? b).isSome := fun b e => by
    by_cases q : b = a
    · subst q
      cases o' with
      | list xs => obtain ⟨items, n, h, _⟩ := ho; rw [h]; rfl
      | barr l => have h : h'.get? b = some (baObj l) := ho; rw [h]; rfl
    · rw [hs.2 b q]; exact e
  have hEq := Dm_own (F := F) (μ₁ := μ₁) (μ₂ := μ₂) (a := a) (o := o) (o' := o')
  have ap := X.apart
  refine ⟨⟨⟨X.ok, fun b o' e => hold b o' (X.baseh b o' e), ?_, fun x v p q => ?_, fun b q hm => ?_, fun b hb => halive b (X.dal b hb)⟩, hold, X.baseh, X.newL, fun x e => let ⟨c, v, a1, a2, a3⟩ := X.cells x e; ⟨c, v, a1, a2, hcell _ _ a3⟩,
    fun x c e => let ⟨v, a3⟩ := X.cellsAll x c e; ⟨v, hcell _ _ a3⟩, X.cellsApart, fun b hb => X.ownNew b (by rw [hnd]; exact hb), X.dold, by rw [← hnd]; exact ap⟩, fun b o' e _ _ h3 => ?_, halive, fun b _ d => by rw [hEq] at d; exact d, rfl, rfl⟩
  · obtain ⟨m, hn, hm⟩ := X.ns
    rw [hEq]
    refine ⟨m, ?_, fun x v p q => let ⟨val, e1, e2⟩ := hm x v p q; ⟨val, e1, hv e2⟩⟩
    obtain ⟨oL, es, ep, hoL, hdL, r⟩ := hn
    refine ⟨oL, es, ep, (hs.2 _ (fun q => ?_)).trans hoL, hdL, r⟩
    rw [q, hoa] at hoL; cases hoL
    rcases hda with ⟨_, _, hd', _⟩ | ⟨_, _, hd'⟩ <;> (rw [hd'] at hdL; cases hdL)
  · obtain ⟨c, val, e1, e2, e3⟩ := X.cel x v p q
    rw [hEq]
    exact ⟨c, val, e1, hcell _ _ e2, hv e3⟩
  · rw [hEq]
    have hother : b ≠ a → (b, q) ∈ μ₁ ++ (a, o) :: μ₂ → POat (Dm F (μ₁ ++ (a, o) :: μ₂)) h' b q := fun hba hm => by
      have := X.own b q hm
      cases q with
      | list xs => obtain ⟨items, n, h, e⟩ := this; exact ⟨items, n, (hs.2 b hba).trans h, hvs e⟩
      | barr l => exact (hs.2 b hba).trans this
    have ap' : (List.map (·.1) μ₁ ++ a :: List.map (·.1) μ₂).Nodup := by simpa using ap
    rw [List.nodup_append] at ap'
    obtain ⟨n1, n2, n3⟩ := ap'
    rw [List.nodup_cons] at n2
    rcases List.mem_append.mp hm with hm | hm
    · have hb1 : b ∈ List.map (·.1) μ₁ := List.mem_map.mpr ⟨_, hm, rfl⟩
      exact hother (fun q => n3 b hb1 a List.mem_cons_self q) (List.mem_append.mpr (.inl hm))
    · rcases List.mem_cons.mp hm with hm | hm
      · cases hm; exact ho
      · have hb2 : b ∈ List.map (·.1) μ₂ := List.mem_map.mpr ⟨_, hm, rfl⟩
        exact hother (fun q => n2.1 (q ▸ hb2)) (List.mem_append.mpr (.inr (List.mem_cons_of_mem _ hm)))
  · exact (hs.2 b (fun q => h3 (q ▸ hDa))).trans e

/-- an owned list is done with: it is a plain value -/
theorem Dm_less (b : Addr) (d : Dm F (μ₁ ++ μ₂) b) : Dm F (μ₁ ++ (a, o) :: μ₂) b := by
  rcases d with d | d
  · exact .inl d
  · refine .inr ?_
    simp only [List.map_append, List.mem_append, List.map_cons, List.mem_cons] at d ⊢
    rcases d with d | d
    · exact .inl d
    · exact .inr (.inr d)
theorem Sx.notOwn (X : Sx Γ h₀ sc F σ (μ₁ ++ (a, o) :: μ₂) s) : ¬ Dm F (μ₁ ++ μ₂) a := by
  rintro (d | d)
  · have := X.dold a d; rw [X.ownNew a (by simp)] at this; cases this
  · have ap' : (List.map (·.1) μ₁ ++ a :: List.map (·.1) μ₂).Nodup := by simpa using X.apart
    rw [List.nodup_append] at ap'
    obtain ⟨n1, n2, n3⟩ := ap'
    rw [List.nodup_cons] at n2
    rw [List.map_append, List.mem_append] at d
    rcases d with d | d
    · exact n3 a d a List.mem_cons_self rfl
    · exact n2.1 d
theorem Sx.drop (X : Sx Γ h₀ sc F σ (μ₁ ++ (a, o) :: μ₂) s) : Sx Γ h₀ sc F σ (μ₁ ++ μ₂) s where
  ok := X.ok
  base := X.base
  ns := let ⟨m, hn, hm⟩ := X.ns; ⟨m, hn, fun x v p q => let ⟨val, e1, e2⟩ := hm x v p q; ⟨val, e1, e2.less fun b _ _ d => Dm_less b d⟩⟩
  cel := fun x v p q => let ⟨c, val, e1, e2, e3⟩ := X.cel x v p q; ⟨c, val, e1, e2, e3.less fun b _ _ d => Dm_less b d⟩
  own := fun b q hm => by
    have := X.own b q (by rcases List.mem_append.mp hm with hm | hm <;> simp [hm])
    cases q with
    | list xs => obtain ⟨items, n, h, e⟩ := this; exact ⟨items, n, h, e.less fun b _ _ d => Dm_less b d⟩
    | barr l => exact this
  dal := X.dal
  keep := X.keep
  baseh := X.baseh
  newL := X.newL
  cells := X.cells
  cellsAll := X.cellsAll
  cellsApart := X.cellsApart
  ownNew := fun b hb => X.ownNew b (by simp only [List.map_append, List.mem_append, List.map_cons, List.mem_cons] at hb ⊢; rcases hb with hb | hb <;> simp [hb])
  dold := X.dold
  apart := by
    have ap' : (List.map (·.1) μ₁ ++ a :: List.map (·.1) μ₂).Nodup := by simpa using X.apart
    rw [List.map_append]
    exact ap'.sublist (List.Sublist.append (List.Sublist.refl _) (List.sublist_cons_self _ _))
theorem Sp.drop : Sp F (μ₁ ++ (a, o) :: μ₂) (μ₁ ++ μ₂) s s := ⟨fun _ _ e _ _ _ => e, fun _ e => e, fun b _ d => Dm_less b d, rfl, rfl⟩

theorem Sx.set {x : Str} {v : PV} (X : Sx Γ h₀ sc F σ μ s)
    (h1 : sc.names.lookup x = some .local → ∀ m, s.heap.Ns F.L m → (∀ y w, σ.lookup y = some w → sc.names.lookup y = some .local → ∃ val, m y = some val ∧ V (Dm F μ) s.heap w val) → ∃ val, m x = some val ∧ V (Dm F μ) s.heap v val)
    (h2 : (sc.names.lookup x = some .cell ∨ sc.names.lookup x = some .free) → ∃ c val, F.cl.lookup x = some c ∧ s.heap.IsCell c (some val) ∧ V (Dm F μ) s.heap v val) : Sx Γ h₀ sc F ((x, v) :: σ) μ s :=
  { X with
    ns := by
      obtain ⟨m, hn, hm⟩ := X.ns
      refine ⟨m, hn, fun y w p q => ?_⟩
      by_cases e : y = x
      · subst e; rw [lookup_cons_self] at p; cases p; exact h1 q m hn hm
      · rw [lookup_cons_ne e] at p; exact hm y w p q
    cel := fun y w p q => by
      by_cases e : y = x
      · subst e; rw [lookup_cons_self] at p; cases p; exact h2 q
      · rw [lookup_cons_ne e] at p; exact X.cel y w p q }
theorem Sx.freeze {x : Str} {xs : List PV} (X : Sx Γ h₀ sc F σ (μ₁ ++ (a, .list xs) :: μ₂) s) (hx : σ.lookup x = some (.ref a)) : Sx Γ h₀ sc F ((x, .lst xs) :: σ) (μ₁ ++ μ₂) s := by
  have hv : V (Dm F (μ₁ ++ μ₂)) s.heap (.lst xs) (.ref a) := by
    obtain ⟨items, n, h, e⟩ := X.own a (.list xs) (by simp)
    exact V_lst.mpr ⟨a, items, rfl, X.notOwn, ⟨_, h, rfl, n, rfl⟩, e.less fun b _ _ d => Dm_less b d⟩
  refine X.drop.set (fun hl m hn hm => ?_) (fun hl => ?_)
  · obtain ⟨val, e1, e2⟩ := hm x _ hx hl
    rw [V_ref] at e2; subst e2
    exact ⟨_, e1, hv⟩
  · obtain ⟨c, val, e1, e2, e3⟩ := X.drop.cel x _ hx hl
    rw [V_ref] at e3; subst e3
    exact ⟨c, _, e1, e2, hv⟩
theorem Xs.freeze {x : Str} {xs : List PV} {sts : List Stmt} (hx : σ.lookup x = some (.ref a)) (h : Xs Γ k sc ((x, .lst xs) :: σ) (μ₁ ++ μ₂) sts P) : Xs Γ k sc σ (μ₁ ++ (a, .list xs) :: μ₂) sts P :=
  fun A n F h₀ s Q E hn hA X hQ => h A n F h₀ s Q E hn hA (X.freeze hx) fun fl σ' μ' f s' hP X' sp hf => hQ fl σ' μ' f s' hP X' (Sp.drop.trans sp) hf
theorem Xs.freeze0 {x : Str} {xs : List PV} {sts : List Stmt} (hx : σ.lookup x = some (.ref a)) (h : Xs Γ k sc ((x, .lst xs) :: σ) μ₂ sts P) : Xs Γ k sc σ ((a, .list xs) :: μ₂) sts P :=
  Xs.freeze (μ₁ := []) hx h

/-- a fresh object -/
noncomputable def EvN (Γ : Cx) (k : Nat) (sc : Scope) (σ : Loc) (μ : Own) (e : Expr) (o : PO) : Prop :=
  ∀ (A : Around) (n : Nat) (F : Fm) (s : Shared) (Q : Value → Shared → Prop) (E : Value → Shared → Prop), n + k ≤ 8 → Lv n A → St Γ sc F σ μ s →
    (∀ a s', Gr s s' → s.heap.get? a = none → POat (Dm F ((a, o) :: μ)) s'.heap a o → Q (.ref a) s') → wpR Γ.M A (eval e (F.env sc)) Q E s

theorem X1.own {x : Str} {p' : Pos} {e : Expr} {o : PO} (he : EvN Γ k sc σ μ e o) (h : ∀ a, a ∉ μ.map (·.1) → P .next ((x, .ref a) :: σ) ((a, o) :: μ)) (hl : isPlace (sc.names.lookup x) = true := by decide +kernel) (hk : sc.kind = .function := by kernel_rfl)
    (hs : ∀ F : Fm, swapsWith e (some (.Name x p')) pos.line (F.env sc) = pure false := by intro _; kernel_rfl) : X1 Γ k sc σ μ (.Assign [.Name x p'] e pos) P := by
  intro A n F h₀ s Q E hn hA X hQ
  refine wpR_Assign_Name (he A n F s _ _ hn hA X.toSt fun a s₁ g ha ho => ?_) (hs F)
  obtain ⟨X₁, sp₁⟩ := X.own' g ha ho
  have hnot : a ∉ μ.map (·.1) := fun d => by have := X.toSt.dom a (.inr d); rw [ha] at this; cases this
  exact toR (X₁.store (V_ref.mpr rfl) hl hk fun s₂ X₂ sp₂ _ => hQ .next _ _ _ s₂ (h a hnot) X₂ (sp₁.trans sp₂) rfl)

theorem Vs.ownPush {h h' : Heap} {xs : List PV} {vs : List Value} (e : Vs (Dm F μ) h xs vs) (ha : h.get? a = none) (hk : Kp h h') : Vs (Dm F ((a, o) :: μ)) h' xs vs :=
  e.move (fun b o hb _ => hk b o hb) fun b o' hb d => by
    rcases d with d | d
    · exact .inl d
    · rw [List.map_cons, List.mem_cons] at d
      rcases d with d | d
      · dsimp only at d; subst d; rw [ha] at hb; cases hb
      · exact .inr d
/-- a call that makes an object -/
noncomputable def CallN (Γ : Cx) (f : Value) (args : List PV) (o : PO) : Prop :=
  ∀ (A : Around) (n : Nat) (D : Addr → Prop) (s : Shared) (vals : List Value) (Q : Value → Shared → Prop) (E : Value → Shared → Prop), n ≤ 8 → Lv n A → Γ.Ok → Kp Γ.B s.heap →
    Vs D s.heap args vals → (∀ b, D b → (s.heap.get? b).isSome) → (∀ a s', Gr s s' → s.heap.get? a = none → (∀ D' : Addr → Prop, (∀ b, D' b → D b ∨ b = a) → POat D' s'.heap a o) → Q (.ref a) s') → wpR Γ.M A (call f vals) Q E s
theorem EvN.call {x : Str} {p : Pos} {args : List Expr} {f : Value} {vs : List PV} {o : PO} (hf : Ev Γ k sc σ μ (.Name x p) (.obj f)) (hkp : KeepOk Γ f) (ha : Es Γ k sc σ μ pos args vs) (hc : CallN Γ f vs o)
    (hp : args.any isStarred = false := by kernel_rfl) : EvN Γ k sc σ μ (.Call (.Name x p) args [] pos) o := by
  intro A n F s Q E hn hA st hQ
  refine wpR_CallName (hf A n F s _ _ hn hA st fun fv s₁ g₁ hfv => ?_)
  rw [V_obj] at hfv; subst hfv
  refine wpR_callWith (P := fun h => Kp Γ.B h) (starEach_plain_any args hp) hkp ?_
  refine wpR_evalArgs hp (ha A n F s₁ _ _ hn hA (st.grow g₁) fun vals s₂ g₂ hvs => ?_)
  have st₂ := (st.grow g₁).grow g₂
  refine ⟨st₂.base, ?_⟩
  show wpR _ _ (PySem.call fv ([] ++ vals) []) Q E s₂
  refine hc A n (Dm F μ) s₂ vals Q E (by omega) hA st.ok st₂.base hvs st₂.dom fun a s₃ g₃ ha hv => hQ a s₃ ((g₁.trans g₂).trans g₃) ?_ (hv _ fun b d => ?_)
  · cases q : s.heap.get? a with
    | none => rfl
    | some o => have := (g₁.trans g₂).keep _ _ q; rw [ha] at this; cases this
  · rcases d with d | d
    · exact .inl (.inl d)
    · rw [List.map_cons, List.mem_cons] at d
      rcases d with d | d
      · exact .inr d
      · exact .inl (.inr d)
theorem CallN.bytearray : CallN Γ (.type "bytearray") [] (.barr []) := by
  intro A n D s vals Q E _ hA ok hB hv hD hQ
  rw [Vs_nil] at hv; subst hv
  exact call_ba hA.guards fun h' hk ha => hQ _ _ (Gr.heap _ hk) (fresh_addr _) fun D' _ => ha

/-! ### methods that change an owned object -/
noncomputable def POt : PO → String
  | .list _ => "list"
  | .barr _ => "bytearray"
noncomputable def MethOk (Γ : Cx) (id : String) (o : PO) (args : List PV) (o' : PO) : Prop :=
  ∀ (A : Around) (n : Nat) (D : Addr → Prop) (s : Shared) (a : Addr) (vals : List Value) (Q : Value → Shared → Prop) (E : Value → Shared → Prop), n ≤ 8 → Lv n A → Γ.Ok → Kp Γ.B s.heap →
    POat D s.heap a o → D a → Vs D s.heap args vals → (∀ b, D b → (s.heap.get? b).isSome) →
    (∀ h' tk, Heap.SameBut a s.heap h' → POat D h' a o' → Q .none { s with heap := h', toks := tk }) → wpR Γ.M A (call (.builtin id) (.ref a :: vals)) Q E s
theorem POat.typeIs {D : Addr → Prop} (h : POat D s.heap a o) : s.TypeIs (.ref a) (POt o) ∧ ∃ ob, s.heap.get? a = some ob ∧ ob.dict = none := by
  cases o with
  | list xs => obtain ⟨items, n, h, _⟩ := h; exact ⟨⟨_, h, rfl⟩, _, h, rfl⟩
  | barr l => exact ⟨⟨_, h, rfl⟩, _, h, rfl⟩

theorem wpR_Call_method {prog : Program} {w : World} {E : Value → Shared → Prop} {env : Env} {o : Expr} {name : Str} {apos pos : Pos} {args : List Expr} {T id : String} {Q : Value → Shared → Prop}
    (hbase : attributeBase o name env (eval o env) = eval o env)
    (hform : methodCallForm (args.length + ([] : List Keyword).length) (backTo pos (starEach args env)) (backToKw pos (keywordEach [] env)) = true)
    (hline : methodCallPos true o env apos pos = pure pos)
    (pa : PlainAttrs T) (slot : Slot T name id) (hty : typeOf (.builtin id) = pure (.type "method_descriptor"))
    (h : wpR (model prog w) A (eval o env) (fun ov s₁ => s₁.TypeIs ov T ∧ (∀ a, ov = .ref a → ∃ ob, s₁.heap.get? a = some ob ∧ ob.dict = none) ∧
      wpR (model prog w) A (callWith pos (.builtin id) [ov] (backTo pos (starEach args env)) []) Q E s₁) E s) :
    wpR (model prog w) A (eval (.Call (.Attribute o name apos) args [] pos) env) Q E s := by
  rw [arm_eval_Call, hbase]
  refine wpR_bind (wpR_mono h (fun ov s₁ h₁ => ?_) fun _ _ e => e)
  obtain ⟨hT, hd, hc⟩ := h₁
  refine wpR_bind (wpR_standAt ?_)
  unfold methodCall
  rw [hform]
  refine wpR_bind (wpR_holding (toR (getMethod_builtin hT pa slot hty hd ?_)))
  exact wpR_bind (toR (wpAny_of_eq hline hc))
theorem form_plain {env : Env} {pos : Pos} {args : List Expr} (hp : args.any isStarred = false) (hn : args.length < 30) :
    methodCallForm (args.length + ([] : List Keyword).length) (backTo pos (starEach args env)) (backToKw pos (keywordEach [] env)) = true := by
  unfold methodCallForm
  have h1 := starEach_plain_any (env := env) (pos := pos) args hp
  have h2 : (backTo pos (starEach args env)).all (fun x => !x.1) = true := by
    rw [List.all_eq_true]
    intro x hx
    have := List.any_eq_false.mp h1 x hx
    simpa using this
  rw [h2]
  show (true && true && decide (args.length + 0 + 0 < 30)) = true
  simp [hn]

theorem X1.meth {x name : Str} {p ap ep : Pos} {args : List Expr} {vs : List PV} {id : String} (hx : σ.lookup x = some (.ref a)) (ha : Es Γ k sc σ (μ₁ ++ (a, o) :: μ₂) pos args vs) (hc : MethOk Γ id o vs o')
    (pa : PlainAttrs (POt o)) (slot : Slot (POt o) name id) (hty : typeOf (.builtin id) = pure (.type "method_descriptor")) (h : P .next σ (μ₁ ++ (a, o') :: μ₂))
    (hl : isVar (sc.names.lookup x) = true := by decide +kernel) (hk : sc.kind = .function := by kernel_rfl) (hd : (x == ("__debug__" : Str)) = false := by decide +kernel) (hcd : (x == ("__classdict__" : Str)) = false := by decide +kernel)
    (hp : args.any isStarred = false := by kernel_rfl) (hn30 : args.length < 30 := by decide +kernel)
    (hline : ∀ F : Fm, methodCallPos true (.Name x p) (F.env sc) ap pos = pure pos := by intro _; kernel_rfl)
    (hi : ∀ F : Fm, interactive (F.env sc) = false := by intro _; kernel_rfl)
    (hs : ∀ F : Fm, swapsWith (.Call (.Attribute (.Name x p) name ap) args [] pos) none ep.line (F.env sc) = pure false := by intro _; kernel_rfl) :
    X1 Γ k sc σ (μ₁ ++ (a, o) :: μ₂) (.Expr (.Call (.Attribute (.Name x p) name ap) args [] pos) ep) P := by
  intro A n F h₀ s Q E hn hA X hQ
  rw [exec_Expr _ _ _ (hi F) (hs F)]
  refine wpR_bind (wpR_standAt (wpR_bind (wpR_Call_method rfl (form_plain hp hn30) (hline F) pa slot hty ?_)))
  refine Ev.name (k := k) hx hl hk hd hcd A n F s _ _ hn hA X.toSt fun ov s₁ g₁ hov => ?_
  rw [V_ref] at hov; subst hov
  have X₁ := X.grow g₁
  have ho₁ := X₁.own a o (by simp)
  refine ⟨(POat.typeIs ho₁).1, fun b e => by cases e; exact (POat.typeIs ho₁).2, ?_⟩
  refine wpR_callWith (P := fun h => Kp Γ.B h) (starEach_plain_any args hp) (KeepOk.builtin) ?_
  refine wpR_evalArgs hp (ha A n F s₁ _ _ hn hA X₁.toSt fun vals s₂ g₂ hvs => ?_)
  have X₂ := X₁.grow g₂
  refine ⟨X₂.base, ?_⟩
  show wpR _ _ (PySem.call (.builtin id) ([.ref a] ++ vals) []) _ E s₂
  refine hc A n _ s₂ a vals _ E (by omega) hA X.ok X₂.base (X₂.own a o (by simp)) (.inr (by simp)) hvs X₂.toSt.dom fun h' tk hs' ho' => ?_
  obtain ⟨X₃, sp₃⟩ := X₂.upd (tk := tk) hs' ho'
  exact toR (wpAny_dropValue (hQ .next σ _ _ _ h X₃ ((Sp.gr (g₁.trans g₂)).trans sp₃) rfl))

theorem MethOk.ba_append {l : List UInt8} {i : Int} (h0 : 0 ≤ i) (h1 : i < 256) (hz : l.length < 2 ^ 20) : MethOk Γ "bytearray.append" (.barr l) [.int i] (.barr (l ++ [i.toNat.toUInt8])) := by
  intro A n D s a vals Q E _ hA ok hB ha hDa hv hD hQ
  rw [Vs_cons] at hv
  obtain ⟨v, r, rfl, hv, hr⟩ := hv
  rw [Vs_nil] at hr; subst hr
  obtain ⟨t, rfl⟩ := V_int.mp hv
  have ha' : s.heap.get? a = some (baObj l) := ha
  refine wpR_call (codeR_call_builtin (by kernel_rfl) F.ba_slot_append.plain F.ba_entry_append (F.ba_slot_append.check _ _ _ _ _ _ _ _ (typeIs_ba ha') (F.ba_args_append _ _) ?_))
  show wpR _ _ (Builtin.Bytes.byteValue (.int i t) >>= fun c => Builtin.Bytes.checkResize (.ref a) >>= fun _ => Builtin.Bytes.write (.ref a) (·.push c) >>= fun _ => ret .none) _ _ _
  have hb : Builtin.Bytes.byteValue (.int i t) = pure i.toNat.toUInt8 := by
    show (do
      if i < 0 || i ≥ 256 then rule "bytes.byte-out-of-range"; raiseError "ValueError" "byte must be in range(0, 256)"
      return i.toNat.toUInt8) = _
    have : (decide (i < 0) || decide (i ≥ 256)) = false := by simp; omega
    rw [this]; rfl
  refine wpR_bind (toR (wpAny_of_eq hb ?_))
  refine wpR_bind (wpR_checkResize hA.guards ha' ?_)
  refine wpR_bind (toR (wpAny_write (l' := l ++ [i.toNat.toUInt8]) ha' (by simp) (by rw [sizeLine_eq]; simp; omega) fun h' hs' ha2 => ?_))
  exact wpR_pure (hQ h' s.toks hs' ha2)
theorem MethOk.list_append {xs : List PV} {v : PV} (hz : xs.length < 2 ^ 20) : MethOk Γ "list.append" (.list xs) [v] (.list (xs ++ [v])) := by
  intro A n D s a vals Q E _ hA ok hB ha hDa hv hD hQ
  rw [Vs_cons] at hv
  obtain ⟨val, r, rfl, hv, hr⟩ := hv
  rw [Vs_nil] at hr; subst hr
  obtain ⟨items, m, ho, e⟩ := ha
  have hlen : items.size = xs.length := by simpa using e.length
  have hnode : ∀ (h' : Heap), Heap.SameBut a s.heap h' → ∀ b o', s.heap.get? b = some o' → Node D b o' → h'.get? b = some o' := fun h' hs b o' hb hn => (hs.2 b (fun q => by
    subst q; rw [ho] at hb; cases hb
    rcases hn with ⟨_, _, _, hn | hn⟩ | ⟨hn, _⟩
    · exact hn hDa
    · exact absurd hn (by show Value.type "list" ≠ Value.type "tuple"; decide)
    · exact absurd hn (by show Value.type "list" ≠ Value.type "range"; decide))).trans hb
  refine toR (wpAny_call_entry slot_list_append ⟨_, ho, rfl⟩ entry_list_append ?_ (args_list_append _ _))
  show wpAny _ _ (updateSeq a (·.push val) >>= fun _ => ret .none) _ _ s
  refine wpAny_bind (wpAny_updateSeq (hz := by rw [hlen, sizeLine_eq]; omega) ho rfl (wpAny_pure ⟨.none, rfl, ?_⟩))
  have hs : Heap.SameBut a s.heap (s.heap.update a (Obj.mapSeq (·.push val))) := Heap.SameBut.update ..
  refine hQ _ s.toks hs ⟨items.push val, _, Heap.get?_update_self _ ho rfl, ?_⟩
  rw [Array.toList_push]
  exact (e.move (hnode _ hs) fun _ _ _ d => d).append (Vs_cons.mpr ⟨val, [], rfl, hv.move (hnode _ hs) (fun _ _ _ d => d), Vs_nil.mpr rfl⟩)

/-! ### bytes of a bytearray -/
theorem wpAny_slotIsOwn_ba {M : Model} {E : Value → Shared → Prop} {Q : Bool → Shared → Prop} {v : Value} (hT : s.TypeIs v "bytearray") (h : Q true s) : wpAny M A (Builtin.Bytes.slotIsOwn v "__buffer__") Q E s :=
  wpAny_slotIsOwn hT F.ba_buffer (by decide +kernel) (by rw [isSubtype_type]; kernel_rfl) h
theorem wpAny_slotIsOwn_b {M : Model} {E : Value → Shared → Prop} {Q : Bool → Shared → Prop} {v : Value} (hT : s.TypeIs v "bytes") (h : Q true s) : wpAny M A (Builtin.Bytes.slotIsOwn v "__buffer__") Q E s :=
  wpAny_slotIsOwn hT F.b_buffer (by decide +kernel) (by rw [isSubtype_type]; kernel_rfl) h
theorem wpAny_buffer_ba {M : Model} {E : Value → Shared → Prop} {id : String} {full : Bool} {l : List UInt8} {Q : Option (Array UInt8) → Shared → Prop} (ha : s.heap.get? a = some (baObj l)) (h : Q (some l.toArray) s) : wpAny M A (Builtin.Bytes.buffer? id (.ref a) full) Q E s := by
  unfold Builtin.Bytes.buffer?
  refine wpAny_bind (wpAny_specialOf (typeIs_ba ha) F.ba_buffer ?_)
  dsimp only
  refine wpAny_bind (wpAny_slotIsOwn_ba (typeIs_ba ha) ?_)
  simp only [Bool.not_true, Bool.false_eq_true, if_false]
  refine wpAny_bind (wpAny_specialOf (typeIs_ba ha) F.ba_buffer ?_)
  refine wpAny_bind (wpAny_ownRelease_ba (typeIs_ba ha) ?_)
  simp only [Bool.false_eq_true, if_false]
  exact wpAny_bind (wpAny_payload_ba ha (wpAny_pure h))
theorem wpAny_buffer_b {M : Model} {E : Value → Shared → Prop} {id : String} {full : Bool} {b : Array UInt8} {t : Tok} {Q : Option (Array UInt8) → Shared → Prop} (h : Q (some b) s) : wpAny M A (Builtin.Bytes.buffer? id (.bytes b t) full) Q E s := by
  unfold Builtin.Bytes.buffer?
  refine wpAny_bind (wpAny_specialOf (typeIs_bytes s b t) F.b_buffer ?_)
  dsimp only
  refine wpAny_bind (wpAny_slotIsOwn_b (typeIs_bytes s b t) ?_)
  simp only [Bool.not_true, Bool.false_eq_true, if_false]
  refine wpAny_bind (wpAny_specialOf (typeIs_bytes s b t) F.b_buffer ?_)
  refine wpAny_bind (wpAny_ownRelease_b (typeIs_bytes s b t) ?_)
  simp only [Bool.false_eq_true, if_false]
  exact wpAny_bind (wpAny_pure (wpAny_pure h))

theorem bm_new_ba {prog : Program} {w : World} {E : Value → Shared → Prop} {l : List UInt8} {Q : Value → Shared → Prop} (ha : s.heap.get? a = some (baObj l)) (hz : l.length ≤ sizeLine)
    (hQ : ∀ t k, Q (.bytes l.toArray t) { s with toks := k }) :
    codeAny (model prog w) A (.call (.builtin "bytes.__new__") ⟨[.type "bytes", .ref a], []⟩) (wants Q E) s := by
  refine codeAny_of_tree ?_
  show wpAny _ A.in1 (do checkBuiltinCall "bytes.__new__" ⟨[.type "bytes", .ref a], []⟩; again (.builtin "bytes.__new__" ⟨[.type "bytes", .ref a], []⟩)) _ _ s
  refine wpAny_bind (wpAny_of_eq (PySem.F.bm_newCall _) (wpAny_pure ⟨plainId_quiet PySem.F.bm_plain _, codeAny_builtin PySem.F.bm_entry ?_⟩))
  rw [Around.under_plainId PySem.F.bm_plain _]
  have hT := typeIs_ba ha
  unfold Builtin.«bytes.__new__»
  refine wpAny_bind (wpAny_of_eq (a := true) rfl ?_)
  refine bm_if_false rfl ?_
  refine wpAny_bind (wpAny_of_eq PySem.F.bm_sub ?_)
  refine bm_if_false rfl ?_
  refine wpAny_bind (wpAny_of_eq (PySem.F.bm_bind _) ?_)
  refine wpAny_bind (wpAny_of_eq (a := ()) rfl ?_)
  refine wpAny_bind (wpAny_of_eq (a := ()) rfl ?_)
  refine bm_if_false rfl ?_
  refine wpAny_bind (wpAny_specialOf hT F.ba_no_bytes ?_)
  refine wpAny_bind (wpAny_bind ?_)
  show wpAny _ _ (load a >>= _) _ _ _
  refine wpAny_bind (wpAny_load ha ?_)
  refine wpAny_pure (wpAny_pure ?_)
  refine bm_if_false rfl ?_
  refine wpAny_bind (wpAny_specialOf hT F.ba_no_index ?_)
  refine bm_if_true rfl ?_
  first
    | refine wpAny_bind (wpAny_buffer_ba ha ?_)
    | refine wpAny_bind (wpAny_bind (wpAny_buffer_ba ha ?_))
  refine wpAny_bind (wpAny_rule ?_)
  refine wpAny_bind (wpAny_mkBytes ?_ (by simpa using hz))
  show wpAny _ _ (if (Value.type "bytes" == Value.type "bytes") = true then _ else _) _ _ _
  refine bm_if_true (by decide) ?_
  exact wpAny_pure (hQ _ _)
theorem call_bytes_ba {prog : Program} {w : World} {E : Value → Shared → Prop} {l : List UInt8} {Q : Value → Shared → Prop} (ha : s.heap.get? a = some (baObj l)) (hz : l.length ≤ sizeLine)
    (hQ : ∀ t k, Q (.bytes l.toArray t) { s with toks := k }) : wpAny (model prog w) A (call (.type "bytes") [.ref a]) Q E s := by
  refine callType_codes (Q₁ := fun obj s₁ => s₁.TypeIs obj "bytes" ∧ Q obj s₁) PySem.F.bm_called (PySem.F.bm_typeCall _) PySem.F.entry_object_init
    (bm_new_ba ha hz fun t k => ⟨PySem.W.typeIs_bytes _ _ _, hQ t k⟩) fun obj s₁ h₁ => ?_
  exact ⟨h₁.1, PySem.F.args_object_init_2 obj _, object_init_meets PySem.F.bm_called.init.lookup PySem.F.bm_called.made (by decide) prog w A.in1 _ s₁ ⟨h₁.1, rfl, h₁.2⟩⟩

/-- bytes(x) of an owned bytearray -/
theorem Ev.bytesOf {x y : Str} {p p' : Pos} {l : List UInt8} (hf : Ev Γ k sc σ (μ₁ ++ (a, .barr l) :: μ₂) (.Name x p) (.obj (.type "bytes"))) (hy : σ.lookup y = some (.ref a)) (hz : l.length < 2 ^ 20)
    (hl : isVar (sc.names.lookup y) = true := by decide +kernel) (hk : sc.kind = .function := by kernel_rfl) (hd : (y == ("__debug__" : Str)) = false := by decide +kernel) (hcd : (y == ("__classdict__" : Str)) = false := by decide +kernel) :
    Ev Γ k sc σ (μ₁ ++ (a, .barr l) :: μ₂) (.Call (.Name x p) [.Name y p'] [] pos) (.bytes l) := by
  intro A n F s Q E hn hA st hQ
  refine wpR_CallName (hf A n F s _ _ hn hA st fun fv s₁ g₁ hfv => ?_)
  rw [V_obj] at hfv; subst hfv
  refine wpR_callWith (P := fun h => Kp Γ.B h) (starEach_plain_any _ rfl) KeepOk.type ?_
  refine wpR_evalArgs rfl (Es.cons (Ev.name (k := k) hy hl hk hd hcd) Es.nil (fun _ => rfl) A n F s₁ _ _ hn hA (st.grow g₁) fun vals s₂ g₂ hvs => ?_)
  have st₂ := (st.grow g₁).grow g₂
  refine ⟨st₂.base, ?_⟩
  rw [Vs_cons] at hvs
  obtain ⟨v, r, rfl, hv, hr⟩ := hvs
  rw [Vs_nil] at hr; subst hr
  rw [V_ref] at hv; subst hv
  show wpR _ _ (PySem.call (.type "bytes") [.ref a] []) Q E s₂
  exact toR (call_bytes_ba (st₂.own a (.barr l) (by simp)) (by rw [sizeLine_eq]; omega) fun t tk => hQ _ _ ((g₁.trans g₂).trans (Gr.toks tk)) (V.bytes _ _))
theorem Op2.itemB {l : List UInt8} {i : Int} (h0 : 0 ≤ i) (h1 : i < l.length) (hz : l.length < 2 ^ 20) : Op2 Γ getItem (.bytes l) (.int i) (.int (l.getD i.toNat 0).toNat) := by
  intro A n D s x y Q E _ _ _ _ hv hy _ hQ
  obtain ⟨t, rfl⟩ := V_bytes.mp hv
  obtain ⟨u, rfl⟩ := V_int.mp hy
  exact getItem_bytes (by omega) h0 h1 (hQ _ _ (Gr.toks _) (V.int _ _))
theorem Truth.int {i : Int} : Truth Γ (.int i) (i != 0) := by
  intro A n D s x Q E _ _ _ hx hQ
  obtain ⟨t, rfl⟩ := V_int.mp hx
  exact PyProof.Rows.truthy_int (hQ s (Gr.refl s))
end
end Mine

set_option maxRecDepth 100000
namespace Mine

section
variable {Γ : Cx} {k : Nat} {sc : Scope} {σ : Loc} {μ : Own} {pos : Pos}

/-! ### slices -/
noncomputable def cutL {α : Type} (l : List α) (lo hi : Option Int) : List α := (l.drop (lo.elim 0 (clipAt l.length))).take (hi.elim l.length (clipAt l.length) - lo.elim 0 (clipAt l.length))
theorem SliceOk.bytes {l : List UInt8} {lo hi : Option Int} (hz : l.length < 2 ^ 20) : SliceOk Γ (.bytes l) lo hi none (.bytes (cutL l lo hi)) := by
  intro A n D s x sl vl vu vs Q E _ _ hv hD hs pl pu ps hQ
  obtain ⟨t, rfl⟩ := V_bytes.mp hv
  cases ps
  refine getItem_meets (typeIs_bytes _ _ _) (by decide) FB.slot_bytes_getitem FB.entry_bytes_getitem (FB.args_bytes_getitem_2 _ _) (KBc.meets_slice2 l.toArray t _ pl pu)
    ⟨hs, Nat.le_trans (KBc.size_picked_le _ lo hi) (by rw [sizeLine_eq]; simp; omega), fun t' k => hQ _ _ (Gr.toks k) ?_⟩
  rw [KBc.picked_eq]
  have : (l.toArray).size = l.length := by simp
  rw [this]
  exact V.bytes _ _

/-! ### equality of bytes, and membership -/
theorem eqBool_bytes {prog : Program} {w : World} {A : Around} {E : Value → Shared → Prop} {s : Shared} {b c : Array UInt8} {t u : Tok} {Q : Bool → Shared → Prop} (h : Q (b.toList == c.toList) s) : wpAny (model prog w) A (eqBool (.bytes b t) (.bytes c u)) Q E s := by
  unfold eqBool
  show wpAny _ _ (if (Value.bytes b t == Value.bytes c u) = true then _ else _) Q E s
  by_cases hab : (Value.bytes b t == Value.bytes c u) = true
  · rw [if_pos hab]
    have e : b = c := by have := eq_of_beq hab; injection this
    subst e
    exact wpAny_bind (wpAny_rule (wpAny_pure (by simpa using h)))
  · rw [if_neg hab]
    exact wpAny_bind (richCompare_gives (op := .Eq) (typeIs_bytes s b t) (typeIs_bytes s c u) FB.slot_bytes_eq FB.entry_bytes_eq (FB.args_bytes_eq_2 _ _) (gives_bytes_eq b c t u) (fun x => nomatch x) (wpAny_truthy_bool h))

theorem Op2.neB {a b : List UInt8} : Op2 Γ (compareOp .NotEq) (.bytes a) (.bytes b) (.bool (a != b)) := by
  intro A n D s x y Q E _ _ _ _ hx hy _ hQ
  obtain ⟨t, rfl⟩ := V_bytes.mp hx; obtain ⟨u, rfl⟩ := V_bytes.mp hy
  exact ne_bytes (hQ _ _ (Gr.refl s) (V.bool _))
end
end Mine

set_option maxRecDepth 100000
namespace Mine

/-! ## list comprehensions -/

noncomputable def inSc (sc cs : Scope) : Scope := { cs with names := cs.names.map fun (n, k) => if k == .free && sc.kind == .function && sc.names.lookup n == some .cell then (n, .cell) else (n, k) }

noncomputable def closL (cells : List (Str × Addr)) : List (Str × NameKind) → List (Str × Addr) → List (Str × Addr)
  | [], acc => acc
  | (n, k) :: r, acc => closL cells r (if k == .free then (n, (cells.lookup n).getD 0) :: acc else acc)

theorem closureFor_eq {scope : Scope} {env : Env} (h : ∀ x ∈ scope.names, x.2 = .free → (env.cells.lookup x.1).isSome) : closureFor scope env = pure (closL env.cells scope.names []) := by
  have key : ∀ (l : List (Str × NameKind)) (acc : List (Str × Addr)), (∀ x ∈ l, x.2 = .free → (env.cells.lookup x.1).isSome) →
      (forIn l acc fun x r => if (x.2 == .free) = true then do let c ← cellOf env x.1; pure (ForInStep.yield ((x.1, c) :: r)) else pure (ForInStep.yield r) : Sem (List (Str × Addr))) = pure (closL env.cells l acc) := by
    intro l
    induction l with
    | nil => intro acc _; rfl
    | cons x l ih =>
      intro acc hx
      obtain ⟨n, k⟩ := x
      rw [List.forIn_cons]
      have ih' := fun acc => ih acc fun x hm => hx x (List.mem_cons_of_mem _ hm)
      by_cases hk : k = .free
      · subst hk
        obtain ⟨c, hc⟩ := Option.isSome_iff_exists.mp (hx (n, .free) List.mem_cons_self rfl)
        have : cellOf env n = pure c := by unfold cellOf; rw [hc]
        simp only [beq_self_eq_true, if_true, this]
        simp only [closL, beq_self_eq_true, if_true, hc, Option.getD_some]
        exact ih' _
      · have hb : (k == NameKind.free) = false := by simpa using hk
        simp only [hb, Bool.false_eq_true, if_false, closL]
        exact ih' _
  have := key scope.names [] h
  unfold closureFor
  simp only [bind_pure]
  exact this

theorem closL_has (cells : List (Str × Addr)) : ∀ (l : List (Str × NameKind)) (acc : List (Str × Addr)) (n : Str), ((n, NameKind.free) ∈ l ∨ acc.lookup n = some ((cells.lookup n).getD 0)) → (closL cells l acc).lookup n = some ((cells.lookup n).getD 0)
  | [], acc, n, h => by
    rcases h with h | h
    · cases h
    · exact h
  | (m, k) :: r, acc, n, h => by
    rw [closL]
    refine closL_has cells r _ n ?_
    by_cases hk : k = .free
    · subst hk
      simp only [beq_self_eq_true, if_true]
      by_cases hm : n = m
      · subst hm; right; rw [List.lookup_cons]; simp
      · have : (n == m) = false := beq_eq_false_iff_ne.mpr hm
        rw [List.lookup_cons, this]
        rcases h with h | h
        · rcases List.mem_cons.mp h with h | h
          · cases h; exact absurd rfl hm
          · exact .inl h
        · exact .inr h
    · have hb : (k == NameKind.free) = false := by simpa using hk
      simp only [hb, Bool.false_eq_true, if_false]
      rcases h with h | h
      · rcases List.mem_cons.mp h with h | h
        · cases h; exact absurd rfl hk
        · exact .inl h
      · exact .inr h
theorem closL_only (cells : List (Str × Addr)) : ∀ (l : List (Str × NameKind)) (acc : List (Str × Addr)) (n : Str) (c : Addr), (closL cells l acc).lookup n = some c → ((n, NameKind.free) ∈ l ∧ c = (cells.lookup n).getD 0) ∨ acc.lookup n = some c
  | [], acc, n, c, h => .inr h
  | (m, k) :: r, acc, n, c, h => by
    rw [closL] at h
    rcases closL_only cells r _ n c h with h' | h'
    · exact .inl ⟨List.mem_cons_of_mem _ h'.1, h'.2⟩
    · by_cases hk : k = .free
      · subst hk
        simp only [beq_self_eq_true, if_true] at h'
        rw [List.lookup_cons] at h'
        cases hm : (n == m) with
        | true =>
          rw [hm] at h'; simp at h'
          have hm' := beq_iff_eq.mp hm
          subst hm'
          exact .inl ⟨List.mem_cons_self, h'.symm⟩
        | false => rw [hm] at h'; exact .inr h'
      · have hb : (k == NameKind.free) = false := by simpa using hk
        simp only [hb, Bool.false_eq_true, if_false] at h'
        exact .inr h'

theorem lookup_mapk (g : Str → NameKind → NameKind) (n : Str) : ∀ l : List (Str × NameKind), (l.map fun p => (p.1, g p.1 p.2)).lookup n = (l.lookup n).map (g n)
  | [] => rfl
  | (m, k) :: l => by
    rw [List.map_cons, List.lookup_cons, List.lookup_cons]
    cases h : (n == m) with
    | true => have hm := beq_iff_eq.mp h; subst hm; rfl
    | false => exact lookup_mapk g n l
theorem lookup_inSc (sc cs : Scope) (n : Str) : (inSc sc cs).names.lookup n = (cs.names.lookup n).map fun k => if k == .free && sc.kind == .function && sc.names.lookup n == some .cell then .cell else k := by
  rw [← lookup_mapk (fun n k => if k == .free && sc.kind == .function && sc.names.lookup n == some .cell then .cell else k)]
  show (List.map _ cs.names).lookup n = _
  congr 2
  funext p
  obtain ⟨m, k⟩ := p
  dsimp only
  split <;> rfl

section
variable {M : Model} {A : Around} {E : Value → Shared → Prop} {s : Shared} {env : Env}
theorem wpR_standIf {α : Type} {c : Prop} [Decidable c] {pos : Pos} {k : PUnit → Sem α} {Q : α → Shared → Prop} (h : wpR M A (k ()) Q E s) :
    wpR M A (if c then (standAt pos >>= k) else k ()) Q E s := by
  split
  · exact wpR_bind (wpR_standAt h)
  · exact h

/-- what is asked at a comprehension's end -/
noncomputable def compEnd (M : Model) (A : Around) (E : Value → Shared → Prop) (Q : Value → Shared → Prop) (L : Addr) (acc : Value) : Option (Value → Sem Unit) → Shared → Prop
  | none, s' => ∃ m, s'.heap.Ns L m ∧ ∀ h', Heap.SameBut L s'.heap h' → Q acc { s' with heap := h' }
  | some u, s' => wpR M A (u acc) (fun _ s'' => ∃ m, s''.heap.Ns L m ∧ ∀ h', Heap.SameBut L s''.heap h' → Q .none { s'' with heap := h' }) E s'

theorem wpR_comprehension {e : Expr} {cs : Scope} {pos : Pos} {newAcc first : Sem Value} {g : Comprehension} {gs : List Comprehension} {use : Option (Value → Sem Unit)} {Q : Value → Shared → Prop}
    (hcl : clausesOf e = g :: gs) (hs : ∀ x, foldedSetIterable g.iter env x = pure x) (hkind : cs.kind = .function) (hfree : ∀ x ∈ cs.names, x.2 = .free → (env.cells.lookup x.1).isSome)
    (hnames : ∀ x ∈ cs.names, x.2 = .local → cs.names.lookup x.1 = some .local)
    (h : wpR M A first (fun x s₁ => wpR M A (pyIter x) (fun it s₂ => wpR M A newAcc (fun acc s₃ =>
      wpR M A (newFunctionEnv cs env.globals (closL env.cells cs.names []) [] env.qual none .none (some env)) (fun cenv s₄ =>
        codeR M A (.compStart e 0 it acc { cenv with scope := inSc env.scope cs }) (fun r s' => match r with | .ok _ => compEnd M A E Q cenv.locals acc use s' | .error x => False) s₄) E s₃) E s₂) E s₁) E s) :
    wpR M A (comprehension e cs env pos newAcc false first use) Q E s := by
  unfold comprehension
  rw [closureFor_eq hfree, hcl]
  refine wpR_bind (wpR_mono h (fun x s₁ h₁ => wpR_bind (wpR_standAt (wpR_bind (toR (wpAny_of_eq (hs x) (wpR_bind (wpR_holding (wpR_mono h₁ (fun it s₂ h₂ =>
    wpR_standIf (wpR_bind (wpR_mono h₂ (fun acc s₃ h₃ => wpR_bind (wpR_pure (wpR_bind (wpR_mono h₃ (fun cenv s₄ h₄ => ?_) fun _ _ h' => h')))) fun _ _ h' => h')))
      fun _ _ h' => h')))))))) fun _ _ h' => h')
  dsimp only
  have hv : ∀ x : Str × NameKind, x ∈ (cs.names.filter fun x => (x.2 == .local || x.2 == .cell) && x.1 != (".0" : Str)) → x.2 = .local →
      Env.kindOf { cenv with scope := inSc env.scope cs } x.1 = some .local := fun x hx hl => by
    show (inSc env.scope cs).names.lookup x.1 = some .local
    rw [lookup_inSc, hnames x (List.mem_filter.mp hx).1 hl]; rfl
  refine wpR_holding (wpR_bind (wpR_attempt (wpR_holding (wpR_run (codeR_mono h₄ fun r s' hr => ?_)))))
  cases r with
  | error x => exact hr.elim
  | ok f =>
    cases use with
    | none =>
      obtain ⟨m, hn, hr⟩ := hr
      exact wpR_bind (wpR_holding (toR (wpAny_comp_letGo (cenv := { cenv with scope := inSc env.scope cs }) hkind _ s' m (fun x hx => hv x (List.mem_reverse.mp hx)) hn fun h' m' _ hs' => wpR_pure (hr h' hs'))))
    | some u =>
      refine wpR_bind (wpR_rule (wpR_bind (wpR_holding (wpR_mono hr (fun _ s'' hr' => ?_) fun _ _ h' => h'))))
      obtain ⟨m, hn, hr'⟩ := hr'
      refine wpR_bind (toR (wpAny_comp_letGo (cenv := { cenv with scope := inSc env.scope cs }) hkind _ s'' m (fun x hx => ?_) hn fun h' m' _ hs' => wpR_pure (hr' h' hs')))
      refine hv x (List.mem_reverse.mp ?_)
      rcases List.mem_append.mp hx with hx | hx
      · exact List.mem_of_mem_drop hx
      · exact List.mem_of_mem_take hx
end

section
variable {prog : Program} {w : World} {A : Around} {R : Result → Shared → Prop} {s : Shared} {env : Env}
theorem wpR_notedAt {α : Type} {M : Model} {m : Sem α} {pos : Pos} {Q : α → Shared → Prop} {E : Value → Shared → Prop} (h : wpR M A m Q (noted M A env E) s) :
    wpR M A (m.onRaise fun x => do noteFrame x env; standAt pos) Q E s :=
  wpR_onRaise (wpR_mono h (fun _ _ q => q) fun _ _ hx => wpR_bind (wpR_mono hx (fun _ _ e => wpR_standAt e) fun _ _ e => e))
theorem codeR_compStart {elt target iter : Expr} {ifs : List Expr} {rest : List Comprehension} {scope : Scope} {pos : Pos} {it acc : Value}
    (h0 : codeR (model prog w) A (.compLoop (.ListComp elt (⟨target, iter, ifs, 0⟩ :: rest) scope pos) 0 it acc env) R s)
    (h : wpR (model prog w) A (pyIter it) (fun it' s' => codeR (model prog w) A (.compLoop (.ListComp elt (⟨target, iter, ifs, 0⟩ :: rest) scope pos) 0 it' acc env) R s')
      (noted (model prog w) A env fun x s' => R (.error x) s') s) :
    codeR (model prog w) A (.compStart (.ListComp elt (⟨target, iter, ifs, 0⟩ :: rest) scope pos) 0 it acc env) R s := by
  refine codeR_of_tree rfl ?_
  show wpR _ _ ((compStart (.ListComp elt (⟨target, iter, ifs, 0⟩ :: rest) scope pos) 0 it acc env).onRaise (fun x => do noteFrame x env; standAt theWindowsPlace)) _ _ s
  refine wpR_notedAt ?_
  unfold compStart
  show wpR _ _ (ask >>= _) _ _ s
  refine wpR_bind (toR (wpAny_askSetting ?_))
  split
  · exact wpR_pure (And.intro rfl h0)
  · refine wpR_bind (wpR_rule ?_)
    show wpR _ _ (standAt iter.pos >>= _) _ _ s
    exact wpR_bind (wpR_standAt (wpR_bind (wpR_mono h (fun it' s' h' => wpR_pure (And.intro rfl h')) fun _ _ x => x)))

noncomputable def compIfs (ifs : List Expr) (env : Env) : Sem Bool :=
  forIn ifs true fun c r => if r = true then do let ok ← isTrue c env (eval c env); pure (ForInStep.yield ok) else pure (ForInStep.yield r)
theorem codeR_compLoop1 {elt target iter : Expr} {ifs : List Expr} {scope : Scope} {pos : Pos} {it acc : Value}
    (h : wpR (model prog w) A (pyNext it) (fun r s₁ => match r with
      | none => R (.ok .next) s₁
      | some v => wpR (model prog w) A (letOwnedTupleGo target it v) (fun _ s₁' => wpR (model prog w) A (assign target env v) (fun _ s₂ => wpR (model prog w) A (compIfs ifs env) (fun ok s₃ =>
            if ok = true then wpR (model prog w) A (eval elt env) (fun x s₄ =>
              wpR (model prog w) A (call (.builtin "list.append") [acc, x]) (fun _ s₅ => codeR (model prog w) A (.compLoop (.ListComp elt [⟨target, iter, ifs, 0⟩] scope pos) 0 it acc env) R s₅) (noted (model prog w) A env fun e s' => R (.error e) s') s₄) (noted (model prog w) A env fun e s' => R (.error e) s') s₃
            else codeR (model prog w) A (.compLoop (.ListComp elt [⟨target, iter, ifs, 0⟩] scope pos) 0 it acc env) R s₃) (noted (model prog w) A env fun e s' => R (.error e) s') s₂)
              (noted (model prog w) A env fun e s' => R (.error e) s') s₁') (noted (model prog w) A env fun e s' => R (.error e) s') s₁) (noted (model prog w) A env fun e s' => R (.error e) s') s) :
    codeR (model prog w) A (.compLoop (.ListComp elt [⟨target, iter, ifs, 0⟩] scope pos) 0 it acc env) R s := by
  refine codeR_of_tree rfl ?_
  show wpR _ A ((compTurn (.ListComp elt [⟨target, iter, ifs, 0⟩] scope pos) 0 it acc env).onRaise (fun x => do noteFrame x env; theTreesLotGoes x)) _ _ s
  refine wpR_noted ?_
  rw [compTurn_list]
  refine wpR_bind (wpR_standAt (wpR_bind (wpR_mono h (fun r s₁ h₁ => ?_) fun _ _ h' => h')))
  cases r with
  | none => exact wpR_pure h₁
  | some v =>
    refine wpR_bind (wpR_mono h₁ (fun _ s₁' h₁' => ?_) fun _ _ h' => h')
    refine wpR_bind (wpR_mono h₁' (fun _ s₂ h₂ => wpR_bind (wpR_mono h₂ (fun ok s₃ h₃ => ?_) fun _ _ h' => h')) fun _ _ h' => h')
    cases ok with
    | false => exact wpR_pure ⟨rfl, h₃⟩
    | true =>
      exact wpR_bind (wpR_bind (wpR_mono h₃ (fun x s₄ h₄ => wpR_bind (wpR_mono h₄ (fun _ s₅ h₅ => wpR_pure (wpR_pure ⟨rfl, h₅⟩)) fun _ _ h' => h')) fun _ _ h' => h'))
end

section
variable {Γ : Cx} {k : Nat} {sc cs : Scope} {σ σf : Loc} {μ : Own} {pos : Pos}

/-- the tests of a comprehension -/
noncomputable def CIf (Γ : Cx) (k : Nat) (sc : Scope) (σ : Loc) (μ : Own) : List Expr → Bool → Prop
  | [], b => b = true
  | [c], b => Tr Γ k sc σ μ c b
  | _, _ => False
/-- a turn of a comprehension: an item gives a value, or none -/
noncomputable def Turn (Γ : Cx) (k : Nat) (sc cs : Scope) (σf : Loc) (target : Expr) (ifs : List Expr) (elt : Expr) (x : PV) (r : Option PV) : Prop :=
  ∃ σ₁ b, (∀ μ, As Γ k sc σf μ target x σ₁ cs) ∧ (∀ y v, σf.lookup y = some v → σ₁.lookup y = some v) ∧ (∀ μ, CIf Γ k sc σ₁ μ ifs b) ∧
    (b = true → ∃ v, r = some v ∧ ∀ μ, Ev Γ k sc σ₁ μ elt v) ∧ (b = false → r = none)
theorem Turn.all {target elt : Expr} {x v : PV} {σ₁ : Loc} (ha : ∀ μ, As Γ k sc σf μ target x σ₁ cs) (hs : Sub σ₁ σf) (he : ∀ μ, Ev Γ k sc σ₁ μ elt v) : Turn Γ k sc cs σf target [] elt x (some v) :=
  ⟨σ₁, true, ha, hs.to, fun _ => rfl, fun _ => ⟨v, rfl, he⟩, fun h => nomatch h⟩
theorem CIf.run {A : Around} {n : Nat} {F : Fm} {s : Shared} {ifs : List Expr} {b : Bool} {Q : Bool → Shared → Prop} {E : Value → Shared → Prop} (h : CIf Γ k sc σ μ ifs b) (hn : n + k ≤ 8) (hA : Lv n A) (st : St Γ sc F σ μ s)
    (hQ : ∀ s', Gr s s' → Q b s') : wpR Γ.M A (compIfs ifs (F.env sc)) Q E s := by
  match ifs, h with
  | [], h => subst h; exact wpR_pure (hQ s (Gr.refl s))
  | [c], h =>
    unfold compIfs
    simp only [List.forIn_cons, List.forIn_nil, if_true]
    have h' : Tr Γ k sc σ μ c b := h
    exact wpR_bind (wpR_bind (h' A n F s _ E hn hA st fun s' g => wpR_pure (wpR_pure (hQ s' g))))
  | _ :: _ :: _, h => exact h.elim

/-- the loop of a comprehension -/
theorem comp_loop {elt target iter : Expr} {ifs : List Expr} {A : Around} {n : Nat} {F : Fm} {h₁ : Heap} {acc it : Addr} {wr : List Addr} {J : (Addr → Prop) → List PV → Heap → Prop} {R : Result → Shared → Prop} {s₀ : Shared}
    {nd : Bool} (hn : n + k ≤ 8) (hA : Lv n A) (hI : Iter Γ A it wr J nd) (hnd : nd = true → isTupE target = true) (hw : ∀ b ∈ wr, h₁.get? b = none) : ∀ {xs : List PV} {rs : List (Option PV)}, Paired (Turn Γ k sc cs σf target ifs elt) xs rs → ∀ (ys : List PV) (σ' : Loc) (s : Shared), ys.length + xs.length < 2 ^ 20 →
      Sx Γ h₁ sc F σ' [(acc, .list ys)] s cs → (∀ y v, σf.lookup y = some v → σ'.lookup y = some v) → J (Dm F [(acc, .list ys)]) xs s.heap → s.gens = s₀.gens → s.os = s₀.os →
      (∀ σ'' s', Sx Γ h₁ sc F σ'' [(acc, .list (ys ++ rs.filterMap id))] s' cs → s'.gens = s₀.gens → s'.os = s₀.os → R (.ok .next) s') →
      codeR Γ.M A (.compLoop (.ListComp elt [⟨target, iter, ifs, 0⟩] cs pos) 0 (.ref it) (.ref acc) (F.env sc)) R s := by
  intro xs rs hp
  induction hp with
  | nil =>
    intro ys σ' s hz X hσ hJ hg ho hR
    refine codeR_compLoop1 (toR (wpAny_mono (hI.done _ s (fun s₁ => R (.ok .next) s₁) _ hJ fun h' tk hk => ?_) (fun r s₁ hr => ?_) fun _ _ e => e))
    · exact hR σ' _ (by simpa using X.wr (tk := tk) hk (hI.wrs _ _ _ hJ) hw) hg ho
    · obtain ⟨rfl, hr⟩ := hr; exact hr
  | @cons x r xs rs ht _ ih =>
    intro ys σ' s hz X hσ hJ hg ho hR
    obtain ⟨σ₁, b, hAs, hsub, hif, hyes, hno⟩ := ht
    have hz' : ys.length + (xs.length + 1) < 2 ^ 20 := hz
    refine codeR_compLoop1 (toR (wpAny_mono (hI.item _ x xs s target (fun v s₁ => wpR Γ.M A (assign target (F.env sc) v) (fun _ s₂ => wpR Γ.M A (compIfs ifs (F.env sc)) (fun ok s₃ =>
            if ok = true then wpR Γ.M A (eval elt (F.env sc)) (fun x s₄ =>
              wpR Γ.M A (PySem.call (.builtin "list.append") [.ref acc, x]) (fun _ s₅ => codeR Γ.M A (.compLoop (.ListComp elt [⟨target, iter, ifs, 0⟩] cs pos) 0 (.ref it) (.ref acc) (F.env sc)) R s₅) (noted Γ.M A (F.env sc) fun e s' => R (.error e) s') s₄) (noted Γ.M A (F.env sc) fun e s' => R (.error e) s') s₃
            else codeR Γ.M A (.compLoop (.ListComp elt [⟨target, iter, ifs, 0⟩] cs pos) 0 (.ref it) (.ref acc) (F.env sc)) R s₃) (noted Γ.M A (F.env sc) fun e s' => R (.error e) s') s₂)
              (noted Γ.M A (F.env sc) fun e s' => R (.error e) s') s₁) _ hJ X.toSt.dom hnd fun v h' tk hv hJ' hk => ?_) (fun r s₁ hr => ?_) fun _ _ e => e))
    · have X' := (X.wr (tk := tk) hk (hI.wrs _ _ _ hJ) hw).less hσ
      refine toR (hAs _ A n F h₁ _ v _ _ hn hA X' hv fun s₂ X₂ sp₂ => ?_)
      refine CIf.run (hif _) hn hA X₂.toSt fun s₃ g₃ => ?_
      have X₃ := X₂.grow g₃
      have sp₃ := sp₂.trans (Sp.gr (F := F) (μ := [(acc, .list ys)]) g₃)
      cases b with
      | false =>
        have := hno rfl
        subst this
        simp only [Bool.false_eq_true, if_false]
        refine ih ys σ₁ s₃ (by omega) X₃ hsub (hI.move _ _ _ _ _ (X'.hk X₃ sp₃) (fun b o hb d => sp₃.dom b (by rw [hb]; rfl) d) hJ') (sp₃.gens.trans hg) (sp₃.os.trans ho) fun σ'' s' Y => hR σ'' s' (by simpa using Y)
      | true =>
        obtain ⟨v', rfl, hev⟩ := hyes rfl
        simp only [if_true]
        refine hev _ A n F s₃ _ _ hn hA X₃.toSt fun val s₄ g₄ hval => ?_
        have X₄ := X₃.grow g₄
        refine MethOk.list_append (Γ := Γ) (xs := ys) (v := v') (by omega) A n _ s₄ acc [val] _ _ (by omega) hA X.ok X₄.base (X₄.own acc (.list ys) (by simp)) (.inr (by simp)) (Vs_cons.mpr ⟨val, [], rfl, hval, Vs_nil.mpr rfl⟩) X₄.toSt.dom fun h5 tk5 hs5 ho5 => ?_
        obtain ⟨X₅, sp₅⟩ := Sx.upd (μ₁ := []) (μ₂ := []) (o' := .list (ys ++ [v'])) (tk := tk5) X₄ hs5 ho5
        have sp₆ := (sp₃.trans (Sp.gr (F := F) (μ := [(acc, .list ys)]) g₄)).trans sp₅
        have hk6 : ∀ b o, h'.get? b = some o → DataOk o.data → (¬ Dm F [(acc, .list ys)] b ∨ o.cls = .type "tuple" ∨ o.cls = .type "range") → h5.get? b = some o := X'.hk X₅ sp₆
        refine ih (ys ++ [v']) σ₁ _ (by simp; omega) X₅ hsub (hI.move _ _ _ _ _ hk6 (fun b o hb d => sp₆.dom b (by rw [hb]; rfl) d) hJ') (sp₆.gens.trans hg) (sp₆.os.trans ho) fun σ'' s' Y => hR σ'' s' (by simpa using Y)
    · cases r with
      | none => exact hr.elim
      | some v => exact toR (wpAny_mono hr (fun _ _ e => e) fun _ _ e => e)

noncomputable def isCF : Option NameKind → Bool
  | some .cell | some .free => true
  | _ => false
noncomputable def freeOk (sc cs : Scope) (σ : Loc) : Bool := cs.names.all fun x => x.2 != .free || ((σ.lookup x.1).isSome && isCF (sc.names.lookup x.1))
noncomputable def freeIn (cs : Scope) (σf : Loc) : Bool := σf.all fun p => cs.names.lookup p.1 == some .free
noncomputable def cleanSc (cs : Scope) : Bool := (cs.kind == .function) && cs.names.all fun x => x.2 != .cell && (x.2 != .local || cs.names.lookup x.1 == some .local)

theorem freeOk.at {F : Fm} {s : Shared} (h : freeOk sc cs σ = true) (st : St Γ sc F σ μ s) : ∀ n, (n, NameKind.free) ∈ cs.names → ∃ v c val, σ.lookup n = some v ∧ F.cl.lookup n = some c ∧ s.heap.IsCell c (some val) ∧ V (Dm F μ) s.heap v val := by
  intro n hn
  have := List.all_eq_true.mp h _ hn
  simp only [bne_self_eq_false, Bool.false_or, Bool.and_eq_true] at this
  obtain ⟨h1, h2⟩ := this
  obtain ⟨v, hv⟩ := Option.isSome_iff_exists.mp h1
  have : sc.names.lookup n = some .cell ∨ sc.names.lookup n = some .free := by
    unfold isCF at h2
    split at h2
    · left; assumption
    · right; assumption
    · cases h2
  obtain ⟨c, val, e1, e2, e3⟩ := st.cel n v hv this
  exact ⟨v, c, val, hv, e1, e2, e3⟩

/-- what stands when the loop of a comprehension begins -/
theorem comp_start {F : Fm} {s s₃ : Shared} {acc : Addr} {h' : Heap} {tk : Nat} (st : St Γ sc F σ μ s) (g : Gr s s₃) (hfo : freeOk sc cs σ = true) (hfi : freeIn cs σf = true) (hcl : cleanSc cs = true) (hsub : Sub σ σf)
    (hacc0 : s.heap.get? acc = none) (hacc : s₃.heap.get? acc = some { cls := .type "list", data := .seq #[] })
    (hns : h'.Ns s₃.heap.objs.size (fun x => ([] : List (Str × Value)).reverse.lookup x)) (hsb : Heap.SameBut s₃.heap.objs.size (s₃.heap.push { cls := .type "dict", data := .dict #[] }) h') :
    Sx Γ s.heap (inSc sc cs) ⟨s₃.heap.objs.size, closL F.cl cs.names [], F.q, none, F.cd, F.fr, Dm F μ⟩ σf [(acc, .list [])] { s₃ with heap := h', toks := tk } cs := by
  have hkeep3 : Kp s₃.heap h' := fun b o e => (hsb.2 b (Nat.ne_of_lt (Heap.lt_size e))).trans (Heap.get?_push_of_some _ e)
  have hkeep : Kp s.heap h' := g.keep.trans hkeep3
  have hnc : ∀ x ∈ cs.names, x.2 ≠ .cell := fun x hx q => by
    have := List.all_eq_true.mp (Bool.and_eq_true _ _ |>.mp hcl).2 x hx
    rw [q] at this; simp at this
  have hlookFree : ∀ x v, σf.lookup x = some v → cs.names.lookup x = some .free := by
    intro x v hx
    obtain ⟨p, hp, hpx⟩ := List.lookup_isSome_iff.mp (show (σf.lookup x).isSome from by rw [hx]; rfl)
    have h1 := beq_iff_eq.mp (List.all_eq_true.mp hfi p hp)
    rw [beq_iff_eq.mp hpx]; exact h1
  have hmemFree : ∀ x v, σf.lookup x = some v → (x, NameKind.free) ∈ cs.names := by
    intro x v hx
    obtain ⟨l₁, l₂, he, _⟩ := List.lookup_eq_some_iff.mp (hlookFree x v hx)
    rw [he]; simp
  refine ⟨⟨st.ok, st.base.trans hkeep, ⟨_, hns, fun x v h1 h2 => ?_⟩, fun x v h1 h2 => ?_, fun b o hm => ?_, fun b hb => hkeep.alive b (st.dom b hb)⟩, hkeep, st.base, ?_, fun x hx => ?_, fun x c hx => ?_, fun x y c hx => ?_, fun b hb => ?_, fun b hb => st.dom b hb, ?_⟩
  · exfalso
    rw [lookup_inSc, hlookFree x v h1] at h2
    simp only [Option.map_some, Option.some.injEq] at h2
    split at h2 <;> cases h2
  · have hm := hmemFree x v h1
    obtain ⟨v', c, val, e1, e2, e3, e4⟩ := hfo |> fun h => freeOk.at h st x hm
    have hv' : v' = v := by have := hsub.to x v h1; rw [e1] at this; cases this; rfl
    subst hv'
    refine ⟨c, val, ?_, e3.keeps hkeep, ?_⟩
    · have := closL_has F.cl cs.names [] x (.inl hm); rw [e2] at this; exact this
    · refine e4.move (fun b o hb _ => hkeep b o hb) fun b o hb d => ?_
      rcases d with d | d
      · exact d
      · simp at d; subst d; rw [hacc0] at hb; cases hb
  · simp only [List.mem_singleton] at hm
    cases hm
    exact ⟨#[], _, hkeep3 _ _ hacc, by simp [Vs_nil]⟩
  · cases q : s.heap.get? s₃.heap.objs.size with
    | none => rfl
    | some o => have := g.keep _ _ q; rw [fresh_addr] at this; cases this
  · exfalso
    obtain ⟨l₁, l₂, he, _⟩ := List.lookup_eq_some_iff.mp hx
    exact hnc (x, .cell) (by rw [he]; simp) rfl
  · rcases closL_only F.cl cs.names [] x c hx with ⟨hm, hc⟩ | hc
    · obtain ⟨v', c', val, e1, e2, e3, e4⟩ := freeOk.at hfo st x hm
      rw [e2] at hc
      simp only [Option.getD_some] at hc
      subst hc
      exact ⟨_, e3.keeps hkeep⟩
    · cases hc
  · exfalso
    obtain ⟨l₁, l₂, he, _⟩ := List.lookup_eq_some_iff.mp hx
    exact hnc (x, .cell) (by rw [he]; simp) rfl
  · simp at hb; subst hb; exact hacc0
  · simp

theorem cleanSc.ok (h : cleanSc cs = true) : cs.kind = .function ∧ (∀ x ∈ cs.names, x.2 ≠ .cell) ∧ ∀ x ∈ cs.names, x.2 = .local → cs.names.lookup x.1 = some .local := by
  obtain ⟨h1, h2⟩ := (Bool.and_eq_true _ _).mp h
  refine ⟨beq_iff_eq.mp h1, fun x hx q => ?_, fun x hx q => ?_⟩
  · have := List.all_eq_true.mp h2 x hx
    rw [q] at this; simp at this
  · have := List.all_eq_true.mp h2 x hx
    rw [q] at this
    simpa using this

/-- a comprehension runs: what it leaves when its loop is over -/
theorem comp_run {elt target iter : Expr} {ifs : List Expr} {cpos : Pos} {nd : Bool} {xs : List PV} {rs : List (Option PV)} {use : Option (Value → Sem Unit)} {A : Around} {n : Nat} {F : Fm} {s : Shared} {Q : Value → Shared → Prop} {E : Value → Shared → Prop}
    (hit : EvI Γ k sc σ μ iter xs nd) (hnd : nd = true → isTupE target = true) (ht : Paired (Turn Γ k (inSc sc cs) cs σf target ifs elt) xs rs) (hz : xs.length < 2 ^ 20) (hsub : Sub σ σf)
    (hfo : freeOk sc cs σ = true) (hfi : freeIn cs σf = true) (hcl : cleanSc cs = true) (hs : ∀ env x, foldedSetIterable iter env x = pure x)
    (hn : n + k ≤ 8) (hA : Lv n A) (st : St Γ sc F σ μ s)
    (hQ : ∀ acc L s' m, Gr s s' → s.heap.get? acc = none → s.heap.get? L = none → L ≠ acc → POat (Dm F ((acc, .list (rs.filterMap id)) :: μ)) s'.heap acc (.list (rs.filterMap id)) → s'.heap.Ns L m → compEnd Γ.M A E Q L (.ref acc) use s') :
    wpR Γ.M A (comprehension (.ListComp elt [⟨target, iter, ifs, 0⟩] cs pos) cs (F.env sc) cpos (newList []) false (eval iter (F.env sc)) use) Q E s := by
  obtain ⟨c1, c2, c3⟩ := cleanSc.ok hcl
  refine wpR_comprehension rfl (hs _) c1 (fun x hx hxf => ?_) c3 (hit A n F s _ E hn hA st fun it wr J s₂ hI hJ g₂ hw => ?_)
  · obtain ⟨x1, x2⟩ := x
    simp only at hxf; subst hxf
    obtain ⟨v', c, val, e1, e2, e3, e4⟩ := freeOk.at hfo st x1 hx
    show (F.cl.lookup x1).isSome = true
    rw [e2]; rfl
  refine toR (wpAny_newObj_type ?_ (Nat.zero_le _))
  have g₃ : Gr s { s₂ with heap := s₂.heap.push { cls := .type "list", data := .seq #[] } } := g₂.trans (Gr.heap _ (Kp.push _ _))
  have hacc0 : s.heap.get? s₂.heap.objs.size = none := by
    cases q : s.heap.get? s₂.heap.objs.size with
    | none => rfl
    | some o => have := g₂.keep _ _ q; rw [fresh_addr] at this; cases this
  refine toR (wpAny_newFunctionEnv c2 (fun x hx => nomatch hx) (fun h' hns hsb => ?_) c1)
  have X := comp_start (tk := s₂.toks + 0) (s₃ := { s₂ with heap := s₂.heap.push { cls := .type "list", data := .seq #[] } }) st g₃ hfo hfi hcl hsub hacc0 (Heap.get?_push_size _ rfl) hns hsb
  have hkeep3 : Kp (s₂.heap.push { cls := .type "list", data := .seq #[] }) h' := fun b o e => (hsb.2 b (Nat.ne_of_lt (Heap.lt_size e))).trans (Heap.get?_push_of_some _ e)
  have hLacc : (s₂.heap.push { cls := .type "list", data := .seq #[] }).objs.size ≠ s₂.heap.objs.size := by rw [Heap.size_push]; exact Nat.succ_ne_self _
  have hJ' : J (Dm (⟨(s₂.heap.push { cls := .type "list", data := .seq #[] }).objs.size, closL F.cl cs.names [], F.q, none, F.cd, F.fr, Dm F μ⟩ : Fm) [(s₂.heap.objs.size, .list [])]) xs h' :=
    hI.move _ _ _ _ _ (fun b o hb _ _ => hkeep3 b o (Kp.push _ _ b o hb)) (fun b o hb d => by
      rcases d with d | d
      · exact d
      · simp at d; subst d; rw [fresh_addr] at hb; cases hb) hJ
  have fin : ∀ σ'' s', Sx Γ s.heap (inSc sc cs) (⟨(s₂.heap.push { cls := .type "list", data := .seq #[] }).objs.size, closL F.cl cs.names [], F.q, none, F.cd, F.fr, Dm F μ⟩ : Fm) σ'' [(s₂.heap.objs.size, .list ([] ++ rs.filterMap id))] s' cs → s'.gens = s.gens → s'.os = s.os →
      compEnd Γ.M A E Q (s₂.heap.push { cls := .type "list", data := .seq #[] }).objs.size (.ref s₂.heap.objs.size) use s' := by
    intro σ'' s' Y hg ho
    obtain ⟨m, hm, _⟩ := Y.ns
    refine hQ _ _ s' m ⟨Y.keep, hg, ho⟩ hacc0 Y.newL hLacc ?_ hm
    have := Y.own s₂.heap.objs.size (.list ([] ++ rs.filterMap id)) (by simp)
    obtain ⟨items, nn, e1, e2⟩ := this
    refine ⟨items, nn, e1, e2.less fun b _ _ d => ?_⟩
    rcases d with d | d
    · exact .inl (.inl d)
    · rw [List.map_cons, List.mem_cons] at d
      rcases d with d | d
      · exact .inr (by simp at d; simp [d])
      · exact .inl (.inr d)
  have hgen : s₂.gens = s.gens := g₂.gens
  have hos : s₂.os = s.os := g₂.os
  have loop : ∀ s4 : Shared, s4 = { s₂ with heap := h', toks := s₂.toks + 0 } → codeR Γ.M A (.compLoop (.ListComp elt [⟨target, iter, ifs, 0⟩] cs pos) 0 (.ref it) (.ref s₂.heap.objs.size)
      (Fm.env (⟨(s₂.heap.push { cls := .type "list", data := .seq #[] }).objs.size, closL F.cl cs.names [], F.q, none, F.cd, F.fr, Dm F μ⟩ : Fm) (inSc sc cs)))
      (fun r s' => match r with | .ok _ => compEnd Γ.M A E Q (s₂.heap.push { cls := .type "list", data := .seq #[] }).objs.size (.ref s₂.heap.objs.size) use s' | .error x => False) s4 := by
    intro s4 e4
    subst e4
    exact comp_loop (s₀ := s) (h₁ := s.heap) hn hA hI hnd hw ht [] σf _ (by simpa using hz) X (fun _ _ e => e) hJ' hgen hos fun σ'' s' Y hg ho => fin σ'' s' Y hg ho
  refine codeR_compStart (loop _ rfl) (toR (hI.self _ _ _ _ _ hJ' (loop _ rfl)))

theorem EvN.compI {elt target iter : Expr} {ifs : List Expr} {nd : Bool} {xs : List PV} {rs : List (Option PV)}
    (hit : EvI Γ k sc σ μ iter xs nd) (ht : Paired (Turn Γ k (inSc sc cs) cs σf target ifs elt) xs rs) (hz : xs.length < 2 ^ 20) (hsub : Sub σ σf)
    (hnd : nd = true → isTupE target = true := by first | exact (fun h => nomatch h) | exact (fun _ => rfl))
    (hfo : freeOk sc cs σ = true := by kernel_rfl) (hfi : freeIn cs σf = true := by kernel_rfl) (hcl : cleanSc cs = true := by kernel_rfl) (hs : ∀ env x, foldedSetIterable iter env x = pure x := by intro _ _; kernel_rfl) :
    EvN Γ k sc σ μ (.ListComp elt [⟨target, iter, ifs, 0⟩] cs pos) (.list (rs.filterMap id)) := by
  intro A n F s Q E hn hA st hQ
  rw [eval_ListComp]
  refine comp_run hit hnd ht hz hsub hfo hfi hcl hs hn hA st fun acc L s' m g ha hL hne ho hm => ⟨m, hm, fun h' hs' => ?_⟩
  obtain ⟨oL, es, ep, hoL, hdL, _⟩ := id hm
  refine hQ acc _ ⟨fun b o e => (hs'.2 b (fun q => by rw [q, hL] at e; cases e)).trans (g.keep b o e), g.gens, g.os⟩ ha (ho.same hs' hoL (by rw [hdL]; exact id) (by rw [hdL]; intro _ _ q; cases q))
theorem EvN.comp {elt target iter : Expr} {ifs : List Expr} {p : PV} {xs : List PV} {rs : List (Option PV)}
    (hit : Ev Γ k sc σ μ iter p) (hi : IterOk Γ p xs) (ht : Paired (Turn Γ k (inSc sc cs) cs σf target ifs elt) xs rs) (hz : xs.length < 2 ^ 20) (hsub : Sub σ σf)
    (hfo : freeOk sc cs σ = true := by kernel_rfl) (hfi : freeIn cs σf = true := by kernel_rfl) (hcl : cleanSc cs = true := by kernel_rfl) (hs : ∀ env x, foldedSetIterable iter env x = pure x := by intro _ _; kernel_rfl) :
    EvN Γ k sc σ μ (.ListComp elt [⟨target, iter, ifs, 0⟩] cs pos) (.list (rs.filterMap id)) :=
  EvN.compI (EvI.of hit hi) ht hz hsub (fun h => nomatch h) hfo hfi hcl hs
theorem EvN.ev {e : Expr} {ys : List PV} (h : EvN Γ k sc σ μ e (.list ys)) : Ev Γ k sc σ μ e (.lst ys) := by
  intro A n F s Q E hn hA st hQ
  refine h A n F s Q E hn hA st fun a s' g ha ho => hQ _ s' g ?_
  obtain ⟨items, m, e1, e2⟩ := ho
  refine V_lst.mpr ⟨a, items, rfl, (fun d => by have := st.dom a d; rw [ha] at this; cases this), ⟨_, e1, rfl, m, rfl⟩, e2.less fun b _ _ d => ?_⟩
  rcases d with d | d
  · exact .inl d
  · exact .inr (by simp [d])

/-- an object that nobody knows is changed -/
theorem Sx.junk {F : Fm} {h₀ h' : Heap} {s : Shared} {L : Addr} {o : Obj} {tk : Nat} (X : Sx Γ h₀ sc F σ μ s) (hL : s.heap.get? L = some o) (hd : ¬ DataOk o.data) (hb : ∀ l n, o.data ≠ .bytearray l n) (hc : ∀ v, o.data ≠ .cell v) (hne : L ≠ F.L) (hnew : h₀.get? L = none)
    (hs : Heap.SameBut L s.heap h') : Sx Γ h₀ sc F σ μ { s with heap := h', toks := tk } := by
  have hold : ∀ b o, h₀.get? b = some o → h'.get? b = some o := fun b o e => (hs.2 b (fun q => by rw [q, hnew] at e; cases e)).trans (X.keep b o e)
  have hcell : ∀ c v, s.heap.IsCell c v → h'.IsCell c v := fun c v ⟨oc, hoc, hdc⟩ => ⟨oc, (hs.2 c (fun q => by subst q; rw [hL] at hoc; cases hoc; exact hc _ hdc)).trans hoc, hdc⟩
  obtain ⟨m, hm, hmv⟩ := X.ns
  have hm' : h'.Ns F.L m := by
    obtain ⟨oL, es, ep, hoL, hdL, r⟩ := hm
    exact ⟨oL, es, ep, (hs.2 _ (Ne.symm hne)).trans hoL, hdL, r⟩
  exact ⟨⟨X.ok, fun b o e => hold b o (X.baseh b o e), ⟨m, hm', fun x v a b => let ⟨val, e1, e2⟩ := hmv x v a b; ⟨val, e1, e2.same hs hL hd⟩⟩, fun x v a b => let ⟨c, val, e1, e2, e3⟩ := X.cel x v a b; ⟨c, val, e1, hcell _ _ e2, e3.same hs hL hd⟩,
    fun a o' hm => (X.own a o' hm).same hs hL hd hb, fun b hb => by
      obtain ⟨o', ho'⟩ := Option.isSome_iff_exists.mp (X.dold b hb)
      show (h'.get? b).isSome
      rw [hold b o' ho']; rfl⟩,
    hold, X.baseh, X.newL, fun x e => let ⟨c, v, a1, a2, a3⟩ := X.cells x e; ⟨c, v, a1, a2, hcell _ _ a3⟩, fun x c e => let ⟨v, a3⟩ := X.cellsAll x c e; ⟨v, hcell _ _ a3⟩, X.cellsApart, X.ownNew, X.dold, X.apart⟩

variable {P : Fl → Loc → Own → Prop}
/-- x = [.. for ..] where the stores change places -/
theorem X1.ownCompI {x : Str} {p' cp : Pos} {elt target iter : Expr} {ifs : List Expr} {nd : Bool} {xs : List PV} {rs : List (Option PV)}
    (hit : EvI Γ k sc σ μ iter xs nd) (ht : Paired (Turn Γ k (inSc sc cs) cs σf target ifs elt) xs rs) (hz : xs.length < 2 ^ 20) (hsub : Sub σ σf)
    (h : ∀ a, a ∉ μ.map (·.1) → P .next ((x, .ref a) :: σ) ((a, .list (rs.filterMap id)) :: μ))
    (hnd : nd = true → isTupE target = true := by first | exact (fun h => nomatch h) | exact (fun _ => rfl))
    (hfo : freeOk sc cs σ = true := by kernel_rfl) (hfi : freeIn cs σf = true := by kernel_rfl) (hcl : cleanSc cs = true := by kernel_rfl) (hs : ∀ env x, foldedSetIterable iter env x = pure x := by intro _ _; kernel_rfl)
    (hl : isPlace (sc.names.lookup x) = true := by decide +kernel) (hk : sc.kind = .function := by kernel_rfl)
    (hsw : ∀ F : Fm, swapsWith (.ListComp elt [⟨target, iter, ifs, 0⟩] cs cp) (some (.Name x p')) pos.line (F.env sc) = pure true := by intro _; kernel_rfl) :
    X1 Γ k sc σ μ (.Assign [.Name x p'] (.ListComp elt [⟨target, iter, ifs, 0⟩] cs cp) pos) P := by
  intro A n F h₀ s Q E hn hA X hQ
  have e : exec (.Assign [.Name x p'] (.ListComp elt [⟨target, iter, ifs, 0⟩] cs cp) pos) (F.env sc) = (do
      standAt pos
      if ← swapsWith (.ListComp elt [⟨target, iter, ifs, 0⟩] cs cp) (some (.Name x p')) pos.line (F.env sc) then
        evalThenUse (.ListComp elt [⟨target, iter, ifs, 0⟩] cs cp) (F.env sc) (PySem.assign (.Name x p') (F.env sc))
        return .next
      let v ← eval (.ListComp elt [⟨target, iter, ifs, 0⟩] cs cp) (F.env sc)
      standAt p'
      bindName (F.env sc) x v
      pure .next) := rfl
  rw [e, hsw]
  refine wpR_bind (wpR_standAt (wpR_bind (wpR_pure ?_)))
  simp only [if_true]
  refine wpR_bind ?_
  rw [arm_evalThenUse_ListComp]
  refine wpR_bind (comp_run (pos := cp) hit hnd ht hz hsub hfo hfi hcl hs hn hA X.toSt fun acc L s' m g ha hL hne ho hm => ?_)
  obtain ⟨X₁, sp₁⟩ := X.own' g ha ho
  have hnot : acc ∉ μ.map (·.1) := fun d => by have := X.toSt.dom acc (.inr d); rw [ha] at this; cases this
  obtain ⟨oL, es, ep, hoL, hdL, hrest⟩ := id hm
  have hLD : ¬ Dm F ((acc, .list (rs.filterMap id)) :: μ) L := by
    rintro (d | d)
    · have := X.toSt.dom L (.inl d); rw [hL] at this; cases this
    · rw [List.map_cons, List.mem_cons] at d
      rcases d with d | d
      · exact hne d
      · have := X.toSt.dom L (.inr d); rw [hL] at this; cases this
  have hLL : L ≠ F.L := fun q => by
    obtain ⟨m', ⟨o', _, _, ho', _⟩, _⟩ := X.ns
    rw [q, ho'] at hL; cases hL
  have hLc : ∀ y, F.cl.lookup y ≠ some L := fun y q => by
    obtain ⟨v, o', ho', _⟩ := X.cellsAll y L q
    rw [ho'] at hL; cases hL
  have hL0 : h₀.get? L = none := by
    cases q : h₀.get? L with
    | none => rfl
    | some o' => have := X.keep _ _ q; rw [hL] at this; cases this
  refine toR (wpAny_assign_Name (X₁.store (V_ref.mpr rfl) hl hk fun s₂ X₂ sp₂ _ => ?_))
  have hoL2 := sp₂.keep L oL hoL hLL hLc hLD
  refine ⟨m, ⟨oL, es, ep, hoL2, hdL, hrest⟩, fun h' hs' => ?_⟩
  have X₃ := X₂.junk (tk := s₂.toks) hoL2 (by rw [hdL]; exact id) (by rw [hdL]; intro _ _ q; cases q) (by rw [hdL]; intro _ q; cases q) hLL hL0 hs'
  have sp := sp₁.trans sp₂
  have hbL : ∀ b, (s.heap.get? b).isSome → b ≠ L := fun b hb q => by rw [q, hL] at hb; cases hb
  refine wpR_pure (wpR_pure (hQ .next _ _ _ _ (h acc hnot) X₃ ⟨fun b o' e h1 h2 h3 => (hs'.2 b (hbL b (by rw [e]; rfl))).trans (sp.keep b o' e h1 h2 h3), fun b e => ?_, sp.dom, sp.gens, sp.os⟩ rfl))
  show (h'.get? b).isSome
  rw [hs'.2 b (hbL b e)]
  exact sp.alive b e
theorem X1.ownComp {x : Str} {p' cp : Pos} {elt target iter : Expr} {ifs : List Expr} {p : PV} {xs : List PV} {rs : List (Option PV)}
    (hit : Ev Γ k sc σ μ iter p) (hi : IterOk Γ p xs) (ht : Paired (Turn Γ k (inSc sc cs) cs σf target ifs elt) xs rs) (hz : xs.length < 2 ^ 20) (hsub : Sub σ σf)
    (h : ∀ a, a ∉ μ.map (·.1) → P .next ((x, .ref a) :: σ) ((a, .list (rs.filterMap id)) :: μ))
    (hfo : freeOk sc cs σ = true := by kernel_rfl) (hfi : freeIn cs σf = true := by kernel_rfl) (hcl : cleanSc cs = true := by kernel_rfl) (hs : ∀ env x, foldedSetIterable iter env x = pure x := by intro _ _; kernel_rfl)
    (hl : isPlace (sc.names.lookup x) = true := by decide +kernel) (hk : sc.kind = .function := by kernel_rfl)
    (hsw : ∀ F : Fm, swapsWith (.ListComp elt [⟨target, iter, ifs, 0⟩] cs cp) (some (.Name x p')) pos.line (F.env sc) = pure true := by intro _; kernel_rfl) :
    X1 Γ k sc σ μ (.Assign [.Name x p'] (.ListComp elt [⟨target, iter, ifs, 0⟩] cs cp) pos) P :=
  X1.ownCompI (EvI.of hit hi) ht hz hsub h (fun h => nomatch h) hfo hfi hcl hs hl hk hsw
end
end Mine

set_option maxRecDepth 100000
namespace Mine

section
variable {Γ : Cx} {k : Nat} {sc : Scope} {σ : Loc} {μ : Own} {pos : Pos}

theorem CallOk.min2 {a b : Int} : CallOk Γ k (.builtin "min") [.int a, .int b] (.int (min a b)) := by
  intro A n D s vals Q E _ hA _ _ hvs _ hQ
  rw [Vs_cons] at hvs
  obtain ⟨v, r, rfl, hv, hr⟩ := hvs
  rw [Vs_cons] at hr
  obtain ⟨v2, r2, rfl, hv2, hr2⟩ := hr
  rw [Vs_nil] at hr2; subst hr2
  obtain ⟨t, rfl⟩ := V_int.mp hv
  obtain ⟨u, rfl⟩ := V_int.mp hv2
  refine toR (min_two_ints hA.handled fun h' tk hk => ?_)
  by_cases h : b < a
  · rw [if_pos h] at *
    exact hQ _ _ (Gr.heap _ hk) (by rw [Int.min_eq_right (by omega)]; exact V.int _ _)
  · rw [if_neg h] at *
    exact hQ _ _ (Gr.heap _ hk) (by rw [Int.min_eq_left (by omega)]; exact V.int _ _)

theorem intsOf {vs : List Value} {ns : List Int} (hi : IntsAre vs ns) : ∃ xs : Array (Int × Tok), vs.toArray = intItems xs ∧ xs.toList.map (·.1) = ns := by
  obtain ⟨xs, hx⟩ := (hi.allInts).items
  refine ⟨xs, hx, ?_⟩
  rw [← hi.numsOf, ← nums_intItems, ← hx]
theorem CallOk.sum {ns : List Int} : CallOk Γ k (.builtin "sum") [.lst (ns.map .int)] (.int ns.sum) := by
  intro A n D s vals Q E _ hA _ _ hvs _ hQ
  rw [Vs_cons] at hvs
  obtain ⟨v, r, rfl, hv, hr⟩ := hvs
  rw [Vs_nil] at hr; subst hr
  obtain ⟨a, items, rfl, _, hl, he⟩ := V_lst.mp hv
  obtain ⟨xs, hx, hn⟩ := intsOf he.ints
  have : items = intItems xs := by rw [← hx]
  subst this
  refine toR (sum_intListG hA.handled hl fun h' tk t' hk => hQ _ _ (Gr.heap _ hk) ?_)
  rw [preSum_eq, List.take_of_length_le (by simp), hn]
  exact V.int _ _
/-! ### bytes as items -/
/-! ### slices of lists -/
theorem slicePick_cut (items : Array Value) (lo hi : Option Int) : slicePick items lo hi none = (cutL items.toList lo hi).toArray := by
  unfold slicePick cutL
  rw [sliceBounds_plain]
  simp only [sliceRange_one, pick_run]
  simp
theorem Vs.cut {D : Addr → Prop} {h : Heap} {xs : List PV} {vs : List Value} {lo hi : Option Int} (e : Vs D h xs vs) : Vs D h (cutL xs lo hi) (cutL vs lo hi) := by
  unfold cutL
  rw [e.length]
  exact (e.drop _).take _
theorem SliceOk.lst {xs : List PV} {lo hi : Option Int} (hz : xs.length < 2 ^ 20) : SliceOk Γ (.lst xs) lo hi none (.lst (cutL xs lo hi)) := by
  intro A n D s x sl vl vu vs Q E _ _ hv hD hs pl pu ps hQ
  obtain ⟨a, items, rfl, _, hl, he⟩ := V_lst.mp hv
  have hlen : items.size = xs.length := by simpa using he.length
  refine wpAny_getItem_list_slice (hsz := by rw [sizeLine_eq]; omega) hl hs pl pu ps (fun q => nomatch q) ?_
  cases ps
  rw [slicePick_cut]
  exact hQ _ _ (Gr.heap _ (Kp.push _ _)) (V.newList hD he.cut)

/-! ### bytes of a list of ints -/
end
end Mine

set_option maxRecDepth 100000
namespace Mine

/-! ## calls of defs whose names are held in cells -/
end Mine

set_option maxRecDepth 100000
namespace Mine

section
variable {Γ : Cx} {k : Nat} {sc cs : Scope} {σ σ₁ σ₂ σ₃ : Loc} {μ : Own} {pos : Pos} {P : Fl → Loc → Own → Prop}

/-! ### targets that are tuples -/
theorem As.grown {target : Expr} {v : PV} (h : As Γ k sc σ μ target v σ₁ cs) {A : Around} {n : Nat} {F : Fm} {h₀ : Heap} {s s' : Shared} {val : Value} {Q : Unit → Shared → Prop} {E : Value → Shared → Prop}
    (hn : n + k ≤ 8) (hA : Lv n A) (X : Sx Γ h₀ sc F σ μ s cs) (hv : V (Dm F μ) s.heap v val) (g : Gr s s') (hQ : ∀ s'', Sx Γ h₀ sc F σ₁ μ s'' cs → Sp F μ μ s s'' → Q () s'') : wpAny Γ.M A (assign target (F.env sc) val) Q E s' :=
  h A n F h₀ s' val Q E hn hA (X.grow g) (hv.grow g.keep) fun s'' X' sp => hQ s'' X' ((Sp.gr g).trans sp)
noncomputable def plainT : Expr → Bool
  | .Starred _ _ => false
  | _ => true
theorem assignEach1 {t : Expr} {ts : List Expr} {env : Env} (h : plainT t = true) : assignEach (t :: ts) env = (false, assign t env) :: assignEach ts env := by
  cases t <;> first | (cases h; done) | rfl
theorem assignEach2 {t1 t2 : Expr} {env : Env} (h1 : plainT t1 = true) (h2 : plainT t2 = true) : assignEach [t1, t2] env = [(false, assign t1 env), (false, assign t2 env)] := by
  rw [assignEach1 h1, assignEach1 h2]; rfl
theorem As.tuple2 {t1 t2 : Expr} {kd : Nat} {v1 v2 : PV} (h1 : As Γ k sc σ μ t1 v1 σ₁ cs) (h2 : As Γ k sc σ₁ μ t2 v2 σ₂ cs) (p1 : plainT t1 = true := by rfl) (p2 : plainT t2 = true := by rfl) : As Γ k sc σ μ (.Tuple [t1, t2] kd pos) (.tup [v1, v2]) σ₂ cs := by
  intro A n F h₀ s val Q E hn hA X hv hQ
  obtain ⟨a, items, rfl, hT, hvs⟩ := V_tup.mp hv
  rw [Vs_cons] at hvs
  obtain ⟨x1, r1, e1, hx1, hr1⟩ := hvs
  rw [Vs_cons] at hr1
  obtain ⟨x2, r2, e2, hx2, hr2⟩ := hr1
  rw [Vs_nil] at hr2
  subst hr2; subst e2
  have hi : items.size = 2 := by rw [← Array.length_toList, e1]; rfl
  refine wpAny_assign_Tuple hA.handled hT (by rw [assignEach2 p1 p2, hi]; rfl) (by rw [assignEach2 p1 p2]; rfl) fun h' hx => ?_
  rw [assignEach2 p1 p2, e1]
  have g : Gr s { s with heap := h' } := ⟨fun b o e => hx b o (Nat.ne_of_lt (Heap.lt_size e)) e, rfl, rfl⟩
  show wpAny _ _ (holding [x2] (assign t1 (F.env sc) x1) >>= fun _ => holding [] (assign t2 (F.env sc) x2) >>= fun _ => pure ()) _ _ _
  refine wpAny_bind (wpAny_holding (As.grown h1 hn hA X hx1 g fun s₂ X₂ sp₂ => ?_))
  refine wpAny_bind (wpAny_holding (h2 A n F h₀ s₂ x2 _ _ hn hA X₂ (X.step X₂ sp₂ hx2) fun s₃ X₃ sp₃ => wpAny_pure (hQ s₃ X₃ (sp₂.trans sp₃))))

/-! ### bytes -/
/-! ### zip of two lists (its own tuple is written again and again: no tuple may be known meanwhile) -/

end
end Mine

set_option maxRecDepth 100000
namespace Mine

section
variable {Γ : Cx} {k : Nat} {sc cs : Scope} {σ σ₁ σ₂ σ₃ : Loc} {μ μ₁ μ₂ : Own} {pos : Pos} {P : Fl → Loc → Own → Prop}

/-! ### enumerate -/
noncomputable def enumL : Int → List PV → List PV
  | _, [] => []
  | i, x :: xs => .tup [.int i, x] :: enumL (i + 1) xs
noncomputable def JEnum (it : Addr) (i1 : Addr) (D : Addr → Prop) (zs : List PV) (h : Heap) : Prop :=
  ∃ l i items xs old, ¬ D it ∧ ¬ D i1 ∧ ¬ D l ∧ it ≠ i1 ∧ l ≠ i1 ∧ l ≠ it ∧ IsEnum h it i1 ((i : Nat) : Int) old ∧ h.IsListIter i1 l i ∧ h.IsList l items ∧ Vs D h xs (items.toList.drop i) ∧ zs = enumL (i : Int) xs
theorem Iter.enum {A : Around} (hh : A.handled = none) (it i1 : Addr) : Iter Γ A it [it, i1] (JEnum it i1) true where
  move := by
    rintro D D' zs h h' hk hD ⟨l, i, items, xs, old, a1, a2, a3, a4, a5, a6, a7, ⟨o1, e1, c1, d1⟩, ⟨o2, e2, c2, m2, d2⟩, a10, a11⟩
    exact ⟨l, i, items, xs, old, fun d => a1 (hD _ _ a7 d), fun d => a2 (hD _ _ e1 d), fun d => a3 (hD _ _ e2 d), a4, a5, a6, hk _ _ a7 trivial (.inl a1), ⟨o1, hk _ _ e1 (by rw [d1]; trivial) (.inl a2), c1, d1⟩, ⟨o2, hk _ _ e2 (by rw [d2]; trivial) (.inl a3), c2, m2, d2⟩, a10.move' hk hD, a11⟩
  wrs := by
    rintro D zs h ⟨l, i, items, xs, old, a1, a2, a3, a4, a5, a6, a7, ⟨o1, e1, c1, d1⟩, a9, a10, a11⟩ b hb
    simp only [List.mem_cons, List.not_mem_nil, or_false] at hb
    rcases hb with rfl | rfl
    · exact ⟨a1, _, _, a7, rfl, by show Value.type "enumerate" ≠ Value.type "range"; decide⟩
    · exact ⟨a2, o1, _, e1, d1, by rw [c1]; decide⟩
  item := by
    rintro D x zs s target Q E ⟨l, i, items, xs, old, a1, a2, a3, a4, a5, a6, a7, a8, a9, a10, a11⟩ hal hnd hQ
    cases xs with
    | nil => cases a11
    | cons y ys =>
      simp only [enumL, List.cons.injEq] at a11
      obtain ⟨rfl, rfl⟩ := a11
      obtain ⟨v, ev, hv, hvs⟩ := dropStep a10
      have ht := hnd rfl
      cases target with
      | Tuple elts kd tp =>
        refine wpAny_pyNext_enum_item a7 a8 a9 ev a4 fun h₁ q1 q2 q3 q4 hk₁ => ?_
        refine wpAny_letOwnedTupleGo_enum q1 fun h₂ r1 hs₂ => ?_
        have hs₂' : Heap.SameBut it h₁ h₂ := hs₂
        have hk : ∀ b o, b ∉ [it, i1] → s.heap.get? b = some o → h₂.get? b = some o := fun b o hb e => (hs₂'.2 b (fun q => hb (by simp [q]))).trans (hk₁ b o (fun q => hb (by simp [q])) (fun q => hb (by simp [q])) e)
        obtain ⟨o1, e1, c1, d1⟩ := id a8
        have hnode : ∀ b o, s.heap.get? b = some o → Node D b o → h₂.get? b = some o := fun b o hb hn => hk b o (fun q => by
          simp only [List.mem_cons, List.not_mem_nil, or_false] at q
          rcases q with rfl | rfl
          · rw [a7] at hb; cases hb
            rcases hn with ⟨_, _, hn, _⟩ | ⟨hn, _⟩
            · cases hn
            · exact absurd hn (by show Value.type "enumerate" ≠ Value.type "range"; decide)
          · rw [e1] at hb; cases hb
            rcases hn with ⟨_, _, hn, _⟩ | ⟨hn, _⟩
            · rw [d1] at hn; cases hn
            · rw [c1] at hn; exact absurd hn (by decide)) hb
        have lt : ∀ {c o}, s.heap.get? c = some o → s.heap.objs.size ≠ c := fun e => Nat.ne_of_gt (Heap.lt_size e)
        refine hQ _ h₂ _ ?_ ⟨l, i + 1, items, ys, v, a1, a2, a3, a4, a5, a6, ?_, ?_, ?_, hvs.move hnode (fun _ _ _ d => d), ?_⟩ hk
        · refine V_tup.mpr ⟨_, #[.int i s.toks, v], rfl, ⟨_, (hs₂'.2 _ (lt a7)).trans q3, rfl, _, rfl⟩, ?_⟩
          show Vs _ _ [.int (i : Int), y] [.int i s.toks, v]
          exact Vs_cons.mpr ⟨_, _, rfl, V.int _ _, Vs_cons.mpr ⟨v, [], rfl, hv.move hnode (fun _ _ _ d => d), Vs_nil.mpr rfl⟩⟩
        · exact r1
        · exact q2.extBut hs₂'.extBut (Ne.symm a4)
        · obtain ⟨o, ho, r⟩ := a9; exact ⟨o, hk _ _ (by simp [a5, a6]) ho, r⟩
        · congr 1
      | _ => cases ht
  done := by
    rintro D s Q E ⟨l, i, items, xs, old, a1, a2, a3, a4, a5, a6, a7, a8, a9, a10, a11⟩ hQ
    cases xs with
    | cons y ys => cases a11
    | nil => exact wpAny_pyNext_enum_end hh a7 a8 a9 (dropEnd a10) fun h' he => ⟨rfl, hQ h' _ fun b o hb e => he b o (fun q => hb (by simp [q])) e⟩
  self := by
    rintro D xs s Q E ⟨l, i, items, xs', old, a1, a2, a3, a4, a5, a6, a7, a8, a9, a10, a11⟩ hQ
    have hT : s.TypeIs (.ref it) "enumerate" := ⟨_, a7, rfl⟩
    refine wpAny_pyIter_slot hT PySem.F.slot_enumerate_iter (wpAny_call_entry PySem.F.slot_enumerate_iter hT PySem.F.entry_enumerate_iter ?_ (PySem.F.args_enumerate_iter_1 _))
    show wpAny _ _ (ret (.ref it)) _ _ s
    exact wpAny_pure ⟨_, rfl, "enumerate", _, hT, PySem.F.slot_enumerate_next.lookup, hQ⟩
theorem EvI.enum {x : Str} {xp cp : Pos} {args : List Expr} {us : List PV} (hf : Ev Γ k sc σ μ (.Name x xp) (.obj (.type "enumerate"))) (ha : Es Γ k sc σ μ cp args [.lst us]) (hp : args.any isStarred = false := by kernel_rfl) :
    EvI Γ k sc σ μ (.Call (.Name x xp) args [] cp) (enumL 0 us) true := by
  intro A n F s Q E hn hA st hQ
  refine wpR_CallName (hf A n F s _ _ hn hA st fun fv s₁ g₁ hfv => ?_)
  rw [V_obj] at hfv; subst hfv
  refine wpR_callWith (P := fun h => Kp Γ.B h) (starEach_plain_any args hp) KeepOk.type ?_
  refine wpR_evalArgs hp (ha A n F s₁ _ _ hn hA (st.grow g₁) fun vals s₂ g₂ hvs => ?_)
  have st₂ := (st.grow g₁).grow g₂
  refine ⟨st₂.base, ?_⟩
  rw [Vs_cons] at hvs
  obtain ⟨v1, r1, rfl, hv1, hr1⟩ := hvs
  rw [Vs_nil] at hr1; subst hr1
  obtain ⟨l, xs, rfl, n1, m1, e1⟩ := V_lst.mp hv1
  show wpR _ _ (PySem.call (.type "enumerate") [.ref l] []) _ E s₂
  refine toR (call_enumerate_list m1 fun h' z1 z2 z3 hk => ?_)
  have lt1 : l < s₂.heap.objs.size := by obtain ⟨o, ho, _⟩ := m1; exact Heap.lt_size ho
  have nD : ∀ j, ¬ Dm F μ (s₂.heap.objs.size + j) := fun j d => by
    obtain ⟨o, ho⟩ := Option.isSome_iff_exists.mp (st₂.dom _ d)
    exact absurd (Heap.lt_size ho) (Nat.not_lt.mpr (Nat.le_add_right _ _))
  have J : JEnum (s₂.heap.objs.size + 1) s₂.heap.objs.size (Dm F μ) (enumL 0 us) h' :=
    ⟨l, 0, xs, us, .none, nD 1, nD 0, n1, Nat.succ_ne_self _, Nat.ne_of_lt lt1, Nat.ne_of_lt (Nat.lt_succ_of_lt lt1), z1, z2, (by obtain ⟨o, ho, r⟩ := m1; exact ⟨o, hk _ _ ho, r⟩), by simpa using e1.grow hk, rfl⟩
  have hT : ({ s₂ with heap := h' } : Shared).TypeIs (.ref (s₂.heap.objs.size + 1)) "enumerate" := ⟨_, z1, rfl⟩
  refine toR ((Iter.enum (Γ := Γ) hA.handled _ _).self _ _ { s₂ with heap := h' } _ _ J (hQ _ _ _ _ (Iter.enum hA.handled _ _) J ((g₁.trans g₂).trans (Gr.heap _ hk)) fun b hb => ?_))
  simp only [List.mem_cons, List.not_mem_nil, or_false] at hb
  cases q : s.heap.get? b with
  | none => rfl
  | some o =>
    have := Heap.lt_size ((g₁.trans g₂).keep _ _ q)
    rcases hb with rfl | rfl
    · exact absurd this (Nat.not_lt.mpr (Nat.le_succ _))
    · exact absurd this (Nat.lt_irrefl _)

/-! ### bytearray.extend of bytes -/
theorem MethOk.ba_extend {l m : List UInt8} (hz : l.length + m.length < 2 ^ 20) : MethOk Γ "bytearray.extend" (.barr l) [.bytes m] (.barr (l ++ m)) := by
  intro A n D s a vals Q E _ hA ok hB ha hDa hv hD hQ
  rw [Vs_cons] at hv
  obtain ⟨v, r, rfl, hv, hr⟩ := hv
  rw [Vs_nil] at hr; subst hr
  obtain ⟨t, rfl⟩ := V_bytes.mp hv
  have ha' : s.heap.get? a = some (baObj l) := ha
  have hTb := typeIs_bytes s m.toArray t
  refine wpR_call (codeR_call_builtin (by kernel_rfl) F.ba_slot_extend.plain F.ba_entry_extend (F.ba_slot_extend.check _ _ _ _ _ _ _ _ (typeIs_ba ha') (F.ba_args_extend _ _) ?_))
  unfold Builtin.«bytearray.extend»
  refine wpR_bind (wpR_pure ?_)
  dsimp only
  refine wpR_bind (toR (wpAny_specialOf hTb F.b_buffer ?_))
  simp only [Option.isSome_some, if_true]
  refine wpR_bind (wpR_rule ?_)
  refine wpR_bind (toR (wpAny_payload_ba ha' ?_))
  refine wpR_bind ?_
  unfold Builtin.Bytes.takeBufferQuiet?
  refine wpR_bind (wpR_attempt ?_)
  unfold Builtin.Bytes.takeBuffer?
  refine wpR_bind (toR (wpAny_specialOf hTb F.b_buffer ?_))
  dsimp only
  refine wpR_bind (toR (wpAny_slotIsOwn_b hTb ?_))
  simp only [Bool.not_true, Bool.false_eq_true, if_false]
  refine wpR_bind (toR (wpAny_specialOf hTb F.b_buffer ?_))
  refine wpR_bind (toR (wpAny_buffer_b ?_))
  refine wpR_pure (wpR_pure ?_)
  show wpR _ _ (if (!m.toArray.isEmpty) = true then (Builtin.Bytes.checkResize (.ref a) >>= fun _ => Builtin.Bytes.write (.ref a) (· ++ m.toArray) >>= fun _ => ret .none) else (Builtin.Bytes.write (.ref a) (· ++ m.toArray) >>= fun _ => ret .none)) _ _ _
  have fin : wpR (model Γ.prog Γ.w) A.in1 (Builtin.Bytes.write (.ref a) (· ++ m.toArray) >>= fun _ => ret .none) (fun fin s' => match fin with | .done f => (match Except.ok f with | Except.ok (.ret v) => Q v s' | Except.ok _ => False | Except.error e => E e s') | .again c' => c'.quiet = true ∧ codeR (model Γ.prog Γ.w) A c' (fun r s' => match r with | .ok (.ret v) => Q v s' | .ok _ => False | .error e => E e s') s') (fun e s' => E e s') s := by
    refine wpR_bind (toR (wpAny_write (l' := l ++ m) ha' (by simp) (by rw [sizeLine_eq]; simp; omega) fun h' hs' ha2 => ?_))
    exact wpR_pure (hQ h' s.toks hs' ha2)
  split
  · exact wpR_bind (wpR_checkResize hA.guards ha' fin)
  · exact fin
end
end Mine

set_option maxRecDepth 100000
namespace Mine

section
variable {Γ : Cx} {k : Nat} {sc cs : Scope} {σ σ₁ σ₂ : Loc} {μ μ₁ μ₂ : Own} {pos : Pos} {P : Fl → Loc → Own → Prop} {a : Addr}

/-! ### lists: +, * -/
theorem Op2.addL {xs ys : List PV} (h : xs.length + ys.length < 2 ^ 20) : Op2 Γ (binaryOp .Add) (.lst xs) (.lst ys) (.lst (xs ++ ys)) := by
  intro A n D s x y Q E _ _ _ _ hx hy hD hQ
  obtain ⟨l, items, rfl, _, ⟨⟨cls, dd, data, sl⟩, ho, hc, m, hd⟩, e1⟩ := V_lst.mp hx
  obtain ⟨l2, items2, rfl, _, ⟨⟨cls2, dd2, data2, sl2⟩, ho2, hc2, m2, hd2⟩, e2⟩ := V_lst.mp hy
  simp only at hc hd hc2 hd2
  subst hc hd hc2 hd2
  have h1 : items.size = xs.length := by simpa using e1.length
  have h2 : items2.size = ys.length := by simpa using e2.length
  refine concat_meets ⟨_, ho, rfl⟩ ⟨_, ho2, rfl⟩ noFill_list_add seq_list_add PySem.F.slot_list_add PySem.F.entry_list_add (PySem.F.args_list_add_2 _ _) (list_addW l l2 items items2 m m2 dd dd2 sl sl2 (by rw [sizeLine_eq]; omega)) ⟨ho, ho2, ?_⟩
  have hv := V.newList hD (e1.append e2)
  have e : (items.toList ++ items2.toList).toArray = items ++ items2 := by simp
  rw [e] at hv
  exact hQ _ _ (Gr.heap _ (Kp.push _ _)) hv
theorem Vs.rep {D : Addr → Prop} {h : Heap} {xs : List PV} {vs : List Value} (e : Vs D h xs vs) : ∀ n : Nat, Vs D h (List.replicate n xs).flatten (List.replicate n vs).flatten
  | 0 => Vs_nil.mpr rfl
  | n + 1 => by
    rw [List.replicate_succ, List.replicate_succ, List.flatten_cons, List.flatten_cons]
    exact e.append (Vs.rep e n)
theorem Op2.mulL {xs : List PV} {i : Int} (hlo : -(2 ^ 62 : Int) ≤ i) (hhi : i < 2 ^ 62) (h : xs.length * i.toNat < 2 ^ 20) : Op2 Γ (binaryOp .Mult) (.lst xs) (.int i) (.lst (List.replicate i.toNat xs).flatten) := by
  intro A n D s x y Q E _ _ _ _ hx hy hD hQ
  obtain ⟨l, items, rfl, _, ⟨⟨cls, d, data, sl⟩, ho, hc, m, hd⟩, e1⟩ := V_lst.mp hx
  obtain ⟨u, rfl⟩ := V_int.mp hy
  simp only at hc hd
  subst hc hd
  have h1 : items.size = xs.length := by simpa using e1.length
  have hsz' : items.size * i.toNat ≤ 2 ^ 20 := by rw [h1]; omega
  refine wpAny_binaryOp_repeat_ref (T := "list") (U := "int") (by decide) ⟨_, ho, rfl⟩ (fun s' => typeIs_int s' i u) noFill_list_mul PySem.F.fills_int_mul PySem.F.slot_int_rmul repeat_list PySem.F.slot_int_index.lookup
    (call_meets PySem.F.slot_int_rmul (typeIs_int s i u) PySem.F.entry_int_rmul (PySem.F.args_int_rmul_2 _ _) (lm_int_rmul_list_any i u l items m d sl)
      ⟨ho, rfl, ⟨_, ho, rfl⟩, call_meets PySem.F.slot_list_mul ⟨_, ho, rfl⟩ PySem.F.entry_list_mul (PySem.F.args_list_mul_2 _ _)
        (lm_list_mul_any l items m d sl i u (by simp [Builtin.List.listFitsIndex]; omega) (by omega) (by simp [Builtin.List.listTooLong, sizeLine]; omega))
        ⟨ho, ?_⟩⟩)
  rw [listMul_foldl_if]
  exact hQ _ _ (Gr.heap _ (Kp.push _ _)) (V.newList hD (e1.rep _))

/-! ### list.extend, list.insert -/
theorem ownNode {D : Addr → Prop} {s : Shared} {a : Addr} {items : Array Value} {m : Nat} (ho : s.heap.get? a = some { cls := .type "list", data := .seq items m }) (hDa : D a) {h' : Heap} (hs : Heap.SameBut a s.heap h') :
    ∀ b o', s.heap.get? b = some o' → Node D b o' → h'.get? b = some o' := fun b o' hb hn => (hs.2 b (fun q => by
    subst q; rw [ho] at hb; cases hb
    rcases hn with ⟨_, _, _, hn | hn⟩ | ⟨hn, _⟩
    · exact hn hDa
    · exact absurd hn (by show Value.type "list" ≠ Value.type "tuple"; decide)
    · exact absurd hn (by show Value.type "list" ≠ Value.type "range"; decide))).trans hb

noncomputable def insL {α : Type} (xs : List α) (i : Nat) (x : α) : List α := xs.take i ++ x :: xs.drop i
theorem MethOk.list_insert {xs : List PV} {i : Int} {v : PV} (h0 : 0 ≤ i) (h1 : i ≤ xs.length) (hz : xs.length < 2 ^ 20) : MethOk Γ "list.insert" (.list xs) [.int i, v] (.list (insL xs i.toNat v)) := by
  intro A n D s a vals Q E _ hA ok hB ha hDa hv hD hQ
  rw [Vs_cons] at hv
  obtain ⟨iv, r, rfl, hi, hr⟩ := hv
  rw [Vs_cons] at hr
  obtain ⟨val, r2, rfl, hv, hr⟩ := hr
  rw [Vs_nil] at hr; subst hr
  obtain ⟨u, rfl⟩ := V_int.mp hi
  obtain ⟨items, m, ho, e⟩ := ha
  have hsz : items.size = xs.length := by simpa using e.length
  refine toR (call_meets PySem.F.slot_list_insert ⟨_, ho, rfl⟩ PySem.F.entry_list_insert (PySem.F.args_list_insert_3 _ _ _) (AutoSeq1.list_insert_list_int_val_1 a items m i u val (by simp [Builtin.List.listFitsIndex]; omega) (by rw [sizeLine_eq]; omega)) ⟨ho, ?_⟩)
  have hs : Heap.SameBut a s.heap (s.heap.update a (Obj.mapSeq fun xs => have k := if i < 0 then (i + (xs.size : Int)).toNat else min i.toNat xs.size; (xs.extract 0 k).push val ++ xs.extract k)) := Heap.SameBut.update ..
  refine hQ _ s.toks hs ⟨_, _, Heap.get?_update_self _ ho rfl, ?_⟩
  have ek : (if i < 0 then (i + (items.size : Int)).toNat else min i.toNat items.size) = i.toNat := by rw [if_neg (by omega)]; omega
  have el : ((items.extract 0 i.toNat).push val ++ items.extract i.toNat).toList = items.toList.take i.toNat ++ val :: items.toList.drop i.toNat := by
    simp [List.take_of_length_le]
  simp only [ek]
  rw [el]
  have e' := e.move (ownNode ho hDa hs) fun _ _ _ d => d
  exact (e'.take _).append (Vs_cons.mpr ⟨val, _, rfl, hv.move (ownNode ho hDa hs) (fun _ _ _ d => d), e'.drop _⟩)

/-! ### what an owned list says -/
theorem Ev.lenOwn {f x : Str} {p p' : Pos} {xs : List PV} (hf : Ev Γ k sc σ (μ₁ ++ (a, .list xs) :: μ₂) (.Name f p) (.obj (.builtin "len"))) (hx : σ.lookup x = some (.ref a)) (hz : xs.length < 2 ^ 62)
    (hl : isVar (sc.names.lookup x) = true := by decide +kernel) (hk : sc.kind = .function := by kernel_rfl) (hd : (x == ("__debug__" : Str)) = false := by decide +kernel) (hcd : (x == ("__classdict__" : Str)) = false := by decide +kernel) :
    Ev Γ k sc σ (μ₁ ++ (a, .list xs) :: μ₂) (.Call (.Name f p) [.Name x p'] [] pos) (.int xs.length) := by
  intro A n F s Q E hn hA st hQ
  refine wpR_CallName (hf A n F s _ _ hn hA st fun fv s₁ g₁ hfv => ?_)
  rw [V_obj] at hfv; subst hfv
  refine wpR_callWith (P := fun h => Kp Γ.B h) (starEach_plain_any _ rfl) KeepOk.builtin ?_
  refine wpR_evalArgs rfl (Es.cons (Ev.name (k := k) hx hl hk hd hcd) Es.nil (fun _ => rfl) A n F s₁ _ _ hn hA (st.grow g₁) fun vals s₂ g₂ hvs => ?_)
  have st₂ := (st.grow g₁).grow g₂
  refine ⟨st₂.base, ?_⟩
  rw [Vs_cons] at hvs
  obtain ⟨v, r, rfl, hv, hr⟩ := hvs
  rw [Vs_nil] at hr; subst hr
  rw [V_ref] at hv; subst hv
  show wpR _ _ (PySem.call (.builtin "len") [.ref a] []) Q E s₂
  obtain ⟨items, m, ho, e⟩ := st₂.own a (.list xs) (by simp)
  have hlen : items.size = xs.length := by simpa using e.length
  refine toR (PyProof.Rows.len_list ⟨_, ho, rfl, m, rfl⟩ (by omega) (hQ _ _ ((g₁.trans g₂).trans (Gr.toks _)) ?_))
  rw [hlen]; exact V.int _ _
/-! ### methods of values -/
noncomputable def HasMeth (a : PV) (T : String) : Prop := ∀ (D : Addr → Prop) (s : Shared) (v : Value), V D s.heap a v → s.TypeIs v T ∧ ∀ b, v ≠ .ref b
theorem HasMeth.bytes {l : List UInt8} : HasMeth (.bytes l) "bytes" := fun D s v hv => by
  obtain ⟨t, rfl⟩ := V_bytes.mp hv
  exact ⟨typeIs_bytes s _ _, fun b q => nomatch q⟩
theorem HasMeth.str {l : List Nat} : HasMeth (.str l) "str" := fun D s v hv => by
  obtain ⟨t, rfl⟩ := V_str.mp hv
  exact ⟨typeIs_str s _ _, fun b q => nomatch q⟩
theorem Ev.meth {o : Expr} {name : Str} {ap : Pos} {args : List Expr} {T id : String} {v r : PV} {vs : List PV} (ho : Ev Γ k sc σ μ o v) (hm : HasMeth v T) (ha : Es Γ k sc σ μ pos args vs) (hc : CallOk Γ k (.builtin id) (v :: vs) r)
    (pa : PlainAttrs T) (slot : Slot T name id) (hty : typeOf (.builtin id) = pure (.type "method_descriptor"))
    (hbase : ∀ env, attributeBase o name env (eval o env) = eval o env := by intro _; kernel_rfl)
    (hp : args.any isStarred = false := by kernel_rfl) (hn30 : args.length < 30 := by decide +kernel)
    (hline : ∀ F : Fm, methodCallPos true o (F.env sc) ap pos = pure pos := by intro _; kernel_rfl) :
    Ev Γ k sc σ μ (.Call (.Attribute o name ap) args [] pos) r := by
  intro A n F s Q E hn hA st hQ
  refine wpR_Call_method (hbase _) (form_plain hp hn30) (hline F) pa slot hty ?_
  refine ho A n F s _ _ hn hA st fun ov s₁ g₁ hov => ?_
  obtain ⟨hT, hnr⟩ := hm _ _ _ hov
  refine ⟨hT, fun b e => absurd e (hnr b), ?_⟩
  refine wpR_callWith (P := fun h => Kp Γ.B h) (starEach_plain_any args hp) (KeepOk.builtin) ?_
  refine wpR_evalArgs hp (ha A n F s₁ _ _ hn hA (st.grow g₁) fun vals s₂ g₂ hvs => ?_)
  have st₂ := (st.grow g₁).grow g₂
  refine ⟨st₂.base, ?_⟩
  show wpR _ _ (PySem.call (.builtin id) ([ov] ++ vals) []) _ E s₂
  exact hc A n _ s₂ (ov :: vals) _ E (by omega) hA st.ok st₂.base (Vs_cons.mpr ⟨ov, vals, rfl, hov.grow g₂.keep, hvs⟩) st₂.dom fun v s₃ g₃ hv => hQ v s₃ ((g₁.trans g₂).trans g₃) hv

namespace F
theorem b_owner : Manifest.owners.lookup (String.ofList ['s', 'e', 't', 'y', 'b'].reverse) = some Manifest.sig_bytes := by kernel_rfl
theorem b_slot_upper : Slot "bytes" "upper" "bytes.upper" :=
  .of (owner := "bytes") (n := "upper") (by rw [typeLookup_type, builtinLookup_eq_fast]; kernel_rfl) (by decide +kernel) (by decide +kernel) (by decide +kernel)
    (by first | exact .inl (by decide +kernel) | exact .inr (by decide +kernel)) (by rw [isSubtype_type]; kernel_rfl)
theorem b_entry_upper : entryFor table "bytes.upper" = some Builtin.«bytes.upper» := by first | exact entryFor_of_fast (by kernel_rfl) | exact entryFor_of_tree (by kernel_rfl)
theorem b_args_upper (a : Value) : argsOk "bytes.upper" ⟨[a], []⟩ := by
  unfold argsOk; rw [signature?_of (id := "bytes.upper") (n := ['r', 'e', 'p', 'p', 'u']) (o := ['s', 'e', 't', 'y', 'b']) (by kernel_rfl) b_owner]; kernel_rfl
theorem b_type_upper : typeOf (.builtin "bytes.upper") = pure (.type "method_descriptor") := by show builtinType _ = _; rw [builtinType_eq_fast]; kernel_rfl
theorem b_plainAttrs : PlainAttrs "bytes" :=
  ⟨⟨"bytes.__getattribute__", by rw [typeLookup_type, builtinLookup_eq_fast]; kernel_rfl, by decide +kernel⟩, by rw [typeLookup_type, builtinLookup_eq_fast]; kernel_rfl⟩
end F
theorem meets_upper (b : Array UInt8) (t : Tok) : Meets (Builtin.«bytes.upper» ⟨[.bytes b t], []⟩) (fun _ R s => b.size ≤ sizeLine ∧ ∀ t' k, R (.ok (.ret (.bytes (b.toList.map Builtin.Bytes.toUpper).toArray t'))) { s with toks := k }) := by
  intro prog w A R s h
  show wpAny _ _ (mkBytes (b.toList.map Builtin.Bytes.toUpper).toArray >>= fun v => ret v) _ _ s
  refine wpAny_bind (wpAny_mkBytes ?_ (by simpa using h.1))
  exact wpAny_pure (h.2 _ _)
theorem CallOk.upper {l : List UInt8} (hz : l.length < 2 ^ 20) : CallOk Γ k (.builtin "bytes.upper") [.bytes l] (.bytes (l.map Builtin.Bytes.toUpper)) := by
  intro A n D s vals Q E _ _ _ _ hvs _ hQ
  rw [Vs_cons] at hvs
  obtain ⟨v, r, rfl, hv, hr⟩ := hvs
  rw [Vs_nil] at hr; subst hr
  obtain ⟨t, rfl⟩ := V_bytes.mp hv
  refine toR (call_meets F.b_slot_upper (typeIs_bytes s _ _) F.b_entry_upper (F.b_args_upper _) (meets_upper _ _) ⟨by rw [sizeLine_eq]; simp; omega, fun t' k => hQ _ _ (Gr.toks k) (V.bytes _ _)⟩)

/-! ### x, y = e -/
theorem wpR_Assign_Tuple {M : Model} {A : Around} {E : Value → Shared → Prop} {s : Shared} {env : Env} {elts k tpos value pos} {Q : Flow → Shared → Prop}
    (h : wpR M A (eval value env) (fun v s₁ => wpR M A (assign (.Tuple elts k tpos) env v) (fun _ => Q .next) E s₁) E s)
    (hs : swapsWithSole [.Tuple elts k tpos] value pos.line env = pure false)
    (hw : swappedStores [.Tuple elts k tpos] value env = pure none) :
    wpR M A (exec (.Assign [.Tuple elts k tpos] value pos) env) Q E s := by
  rw [PyProof.Rows.exec_Assign]
  refine wpR_bind (wpR_standAt ?_)
  rw [hs]
  refine wpR_bind (wpR_pure ?_)
  rw [if_neg (by decide)]
  refine wpR_bind (wpR_mono h (fun v s₁ h₁ => ?_) fun _ _ x => x)
  rw [hw]
  refine wpR_bind (wpR_pure ?_)
  show wpR M A (do assignAll v [assign (.Tuple elts k tpos) env]; pure .next) Q E s₁
  exact wpR_bind (wpR_mono h₁ (fun _ _ x => wpR_pure x) fun _ _ x => x)
theorem X1.assignT {elts : List Expr} {kd : Nat} {tp : Pos} {e : Expr} {v : PV} (he : Ev Γ k sc σ μ e v) (ha : As Γ k sc σ μ (.Tuple elts kd tp) v σ₁) (h : P .next σ₁ μ)
    (hs : ∀ F : Fm, swapsWithSole [.Tuple elts kd tp] e pos.line (F.env sc) = pure false := by intro _; kernel_rfl)
    (hw : ∀ F : Fm, swappedStores [.Tuple elts kd tp] e (F.env sc) = pure none := by intro _; kernel_rfl) : X1 Γ k sc σ μ (.Assign [.Tuple elts kd tp] e pos) P := by
  intro A n F h₀ s Q E hn hA X hQ
  refine wpR_Assign_Tuple (he A n F s _ _ hn hA X.toSt fun val s₁ g hv => ?_) (hs F) (hw F)
  exact toR (ha A n F h₀ s₁ val _ _ hn hA (X.grow g) hv fun s₂ X₂ sp₂ => hQ .next _ μ _ s₂ h X₂ ((Sp.gr g).trans sp₂) rfl)

/-! ### try, nothing raised -/
theorem wpR_tryStmt {M : Model} {A : Around} {E : Value → Shared → Prop} {s : Shared} {env : Env} {body orelse : Sem Flow} {h₀ : ExceptHandler} {hs : List ExceptHandler} {Q : Flow → Shared → Prop}
    (h : wpR M A body (fun f s₁ => match f with | .next => wpR M A orelse Q E s₁ | f => Q f s₁)
      (fun e s₁ => wpR M A (noteFrame e env) (fun _ s₂ => wpR M A (setFlight e none) (fun _ s₃ => wpR M A (handleBy e env (h₀ :: hs)) Q E s₃) E s₂) E s₁) s) :
    wpR M A (tryStmt false body (h₀ :: hs) orelse [] env) Q E s := by
  unfold tryStmt
  simp only [List.isEmpty_nil, if_true, List.isEmpty_cons, Bool.false_and, Bool.false_eq_true, if_false]
  refine wpR_bind (wpR_attempt (wpR_mono h (fun f s₁ h₁ => ?_) fun e s₁ h₁ => ?_))
  · cases f <;> first | exact h₁ | exact wpR_pure h₁
  · exact wpR_bind (wpR_mono h₁ (fun _ _ h₂ => wpR_bind h₂) fun _ _ x => x)
theorem X1.try {body orelse : List Stmt} {h₀ : ExceptHandler} {hs : List ExceptHandler} (h : Xs Γ k sc σ μ body (fun fl σ' μ' => match fl with | .next => Xs Γ k sc σ' μ' orelse P | fl => P fl σ' μ')) : X1 Γ k sc σ μ (.Try body (h₀ :: hs) orelse [] pos) P := by
  intro A n F h₀ s Q E hn hA X hQ
  rw [arm_exec_Try]
  refine wpR_bind (wpR_standAt (wpR_tryStmt (h A n F h₀ s _ _ hn hA X fun fl σ' μ' f s' hP X' sp hf => ?_)))
  cases fl with
  | next =>
    have : f = .next := hf
    subst this
    exact hP A n F h₀ s' _ _ hn hA X' fun fl2 σ2 μ2 f2 s2 hP2 X2 sp2 hf2 => hQ fl2 σ2 μ2 f2 s2 hP2 X2 (sp.trans sp2) hf2
  | brk => have : f = .brk := hf; subst this; exact hQ _ _ _ _ _ hP X' sp rfl
  | cont => have : f = .cont := hf; subst this; exact hQ _ _ _ _ _ hP X' sp rfl
  | ret v =>
    obtain ⟨val, rfl, hv⟩ := hf
    exact hQ _ _ _ _ _ hP X' sp ⟨val, rfl, hv⟩
end
end Mine

namespace Mine

/-! ## the head, for the logic over restricted contexts
The library's head asks for wpAny under the claim's caller. The run itself starts on one context, and that one holds no decoder:
so wpR under the caller is enough. -/

theorem good_caller : GoodC (⟨.builtin "claim.caller" {}, none, none, [], none⟩ : Ctx) := ⟨by decide +kernel, fun _ h => nomatch h⟩

theorem halts_of_wpR {prog : Program} {w : World} {t : Sem Fin} {s : Shared} {R : Result → Shared → Prop} (hreg : s.asleep)
    (h : wpR (model prog w) callerA t (fun fin s' => ∃ f, fin = .done f ∧ (R (.ok f) s' ∧ leftWithCleanup s'.gens = false)) (fun e s' => R (.error e) s' ∧ leftWithCleanup s'.gens = false) s) :
    ∃ n r s' s'', runN (denote table) prog w n s ⟨t, .builtin "claim.caller" {}, default, []⟩ = .halted (outcomeOf r) s' ∧
      schedN (denote table) prog w n (.single s ⟨t, .builtin "claim.caller" {}, default, []⟩) = .halted (outcomeOf r) s' ∧ s'.forget = s''.forget ∧ R r s'' := by
  have hwp : Sem.wp (model prog w) ⟨.builtin "claim.caller" {}, none, none, [], none⟩ t (Sem.finPost (model prog w) ⟨.builtin "claim.caller" {}, none, none, [], none⟩ fun r s' => R r s' ∧ leftWithCleanup s'.gens = false)
      (fun e _ s' => R (.error e) s' ∧ leftWithCleanup s'.gens = false) default s := by
    refine Sem.wp_mono _ _ t (fun fin p' s' h' => ?_) (fun _ _ _ h' => h') _ s (h _ default caller_in good_caller)
    obtain ⟨f, rfl, hf⟩ := h'
    exact hf
  obtain ⟨n, r, s₁, s₂, hs, hn, hfo, hR⟩ := wp_halts_full (M := model prog w) (R := R) hreg hwp
  exact ⟨n, r, s₂, s₁, hn, hs, hfo, hR⟩

theorem callFromR {c : ClaimW} {tree : List Value → Sem Fin} {w : World} {s : Shared} {free : Addr → Prop} {gens : Prop} {kept : Heap → Prop} (hz : s.asleep) (hgens : s.gens = #[])
    (hspec : ∀ args, c.pre args = true → WData.layableAll args = true → ∀ ord : List DictEntry → List DictEntry, (∀ l, (ord l).Perm l) →
      ∃ vs s₁, layAllW c.records (classAt s.heap) w.params ord args s = some (vs, s₁) ∧
        wpR (model c.prog w) callerA (tree vs) (fun fin s' => ∃ f, fin = .done f ∧ (c.Ends s args vs s₁ (.ok f) s' ∧ s'.os = s.os ∧ AllBare s'.gens ∧ kept s'.heap))
          (fun e s' => c.Ends s args vs s₁ (.error e) s' ∧ s'.os = s.os ∧ AllBare s'.gens ∧ kept s'.heap) s₁) :
    c.CallFrom (fun vs => ⟨tree vs, .builtin "claim.caller" {}, default, []⟩) w free gens kept s := by
  intro args hpre hlay ord hord
  obtain ⟨vs, s₁, hlaid, hcode⟩ := hspec args hpre hlay ord hord
  have hal := layAllW_rest _ _ _ hlaid
  obtain ⟨k, r, s', s'', hrun, hsched, hfo, hcase, hos, hkp⟩ := halts_of_wpR (prog := c.prog) (w := w) (t := tree vs) (s := s₁)
    (R := fun r s' => c.Ends s args vs s₁ r s' ∧ s'.os = s.os ∧ kept s'.heap) (Shared.asleep_of_life hal.2.2.2 hz)
    (wpR_mono hcode (fun fin s' ⟨f, e, h1, h2, h3, h4⟩ => ⟨f, e, ⟨h1, h2, h4⟩, leftWithCleanup_false_of_bare h3⟩) fun e s' ⟨h1, h2, h3, h4⟩ => ⟨⟨h1, h2, h4⟩, leftWithCleanup_false_of_bare h3⟩)
  obtain ⟨eh, _, _, eo, _⟩ := Shared.forget_eq hfo
  have hends := hcase.congr eh
  have hkept : kept s'.heap := by rw [eh]; exact hkp
  have hos' : s'.os = s.os := eo.trans hos
  have hlife : s'.heap.life = s.heap.life := (runN_life _ _ _ hrun).trans hal.2.2.2
  refine ⟨vs, s₁, hlaid, k, _, s', hsched, ?_, (fun _ i x hx => by rw [hgens] at hx; simp at hx), hkept, by rw [hlife], Shared.rest_eq hos'⟩
  rcases hends with ⟨v, rfl, d1, d2, d3, d4, d5⟩ | ⟨e, ob, cls, rfl, d1, d2, d3, d4, d5⟩
  · exact .inl ⟨v, rfl, d1, d2, d3, fun b o y _ => d4 b o y, d5⟩
  · exact .inr ⟨e, ob, cls, rfl, d1, d2, d3, d4, fun b o y _ => d5 b o y⟩

noncomputable abbrev WalkR (q : Program) (loose : List Str) (XP : (Str → Option Value) → Heap → Prop) (YP : World → Heap → Prop) (r : RowW) (d : DefRec) (kwd : List (Str × Expr)) (run : Value → List Value → Sem Value) : Prop :=
  ∀ (w : World) (s₀ s₁ : Shared) (mg mb : Str → Option Value), Ground q loose r.records XP w s₀ mg mb s₁.heap → YP w s₁.heap → ∀ (a : Addr) (o : Obj) (pm cd doc dV kV : Value), s₁.heap.get? a = some o →
    o.data = .func { docDef d.name d.params d.body d.scope pm cd doc with defaults := dV, kwdefaults := kV } → s₁.heap.CodeRec cd d.name → Dflts mg s₁.heap d.params kwd dV kV → mg d.name = some (.ref a) → s₁.gens = #[] →
    ∀ (args : List WData) (vals : List Value) (as : List Addr), r.claim.pre args = true → WData.layableAll args = true → ReadsAllW r.records (classAt s₀.heap) s₁.heap vals args as → WellAll w.params s₁.heap vals args → (∀ a ∈ as, (a == sysModules) = false) →
      wpR (model r.prog w) callerA (run (.ref a) vals) (fun v s' => GoodWG r.claim (classAt s₀.heap) (ExcName.means s₀.heap) args s₁ (.ok (.ret v)) s')
        (fun e s' => GoodWG r.claim (classAt s₀.heap) (ExcName.means s₀.heap) args s₁ (.error e) s') s₁

theorem PySem.W.holds_open {r : OpenRow} {q : Program} {loose : List Str} {Xt : Shared → Bool} {XP : (Str → Option Value) → Heap → Prop} {α : Type} {Yf : Shared → α} {Ya : World → α} {YP : World → Heap → Prop} {d : DefRec} {kwd : List (Str × Expr)} {N : Nat}
    (left : LeftO r.prog q loose Xt Yf Ya N) (hY : ∀ w s, Yf s = Ya w → YP w s.heap) (hYk : ∀ w h h', YP w h → (∀ b o, h.get? b = some o → h'.get? b = some o) → YP w h')
    (hX : ∀ s, Xt s = true → XP (s.heap.nsMap mainGlobals) s.heap) (hXk : ∀ mg h h', XP mg h → (∀ b o, h.get? b = some o → h'.get? b = some o) → XP mg h')
    (hdef : defOf q r.name = some (d, kwd)) (hp : r.prog.theDef r.name = some (d.params, d.body, d.scope)) (hk : kwWritten? d.params.kwonlyargs d.params.kw_defaults = some kwd) (hRf : ∀ s, Xt s = true → RecFacts r.records s.heap) (hwr : (!r.writes || r.records.isEmpty) = true)
    (k1 : r.wellSaid = true) (ok : (chainsOk q && opensWell r.prog && (frees r.toRowW && r.within.isEmpty)) = true) (hb : r.prog.bare) (hw : r.toRowW.promised)
    (call : WalkR q loose XP YP r.toRowW d kwd fun f vs => PySem.call f vs) : r.Holds := by
  obtain ⟨ok, k5⟩ := Bool.and_eq_true_iff.mp ok
  obtain ⟨hch, o1⟩ := Bool.and_eq_true_iff.mp ok
  obtain ⟨k5, k6⟩ := Bool.and_eq_true_iff.mp k5
  obtain ⟨hsame, hu, ha, hap, hm⟩ := frees_parts k5
  refine ⟨k1, hw, ⟨⟨hb, o1, by show r.makers.map _ = []; rw [hm]; rfl⟩, hw.witness, fun w => ⟨(left.behind hX hch w).1, fun s' hs' => ?_⟩⟩⟩
  obtain ⟨s₀, hf, hg0, s, hT, hz, hgens, hg, G00, y⟩ := (left.behind (XP := fun mg h => XP mg h ∧ RecFacts r.records h) (fun s hs => ⟨hX s hs, hRf s hs⟩) hch w).2 s' hs'
  have G0 : Ground q loose [] XP w s (s.heap.nsMap mainGlobals) (s.heap.nsMap builtinsNs) s.heap := ⟨G00.T, G00.B, G00.D, G00.TE, G00.TD, G00.W, G00.X.1, G00.cls, G00.has, G00.apart, G00.once, G00.K⟩
  have RF := G00.X.2
  have hT' := hT
  refine ⟨s₀, hf, hg0, s, hT, (fun n hn => ?_), RF.1, RF.2.1, ?_⟩
  · obtain rfl : n = r.name := by split at hn <;> simp_all
    exact pinned_of_view hg G0 hdef hp hk
  have hgens : s.gens = #[] := Array.eq_empty_of_size_eq_zero (beq_iff_eq.mp hgens)
  have G : Ground q loose r.records XP w s _ _ s.heap := RF.ground G0
  refine callFromR (c := r.toRowW.claim) hz hgens fun args hpre hlay ord hord => ?_
  obtain ⟨⟨vs, s₁⟩, hlaid⟩ := Option.isSome_iff_exists.mp (layAllW_isSome (P := w.params) (ord := ord) G.has args r.args s (pre_splitW hpre).1)
  have keeps := layAllW_keeps _ _ _ hlaid
  have hal := layAllW_rest _ _ _ hlaid
  obtain ⟨as, hrd, hin, hold⟩ := reads_layAllW hord _ _ _ hlaid hlay s₁.heap (fun _ _ e => e)
  have L : Laid r.records w s s₁ args vs as := ⟨⟨ord, hord, hlaid⟩, hrd, hin, hold, keeps, hal.1.trans hgens, hal.2.2.1⟩
  have G₁ := G.keeps hXk keeps
  obtain ⟨a, o, pm, cd, doc, dV, kV, h1, h2, h3, h4, h5⟩ := G₁.fn hdef
  have h := call w s s₁ _ _ G₁ (hYk _ _ _ (hY w s y) keeps) a o pm cd doc dV kV h2 h3 h4 h5 (defOf_name hdef ▸ h1) L.gens args vs as hpre hlay L.reads L.well (L.low G.low)
  have hi := ident_freeW hu ha hap
  have hwi : r.toRowW.claim.within = [] := List.isEmpty_iff.mp k6
  refine ⟨vs, s₁, hlaid, ?_⟩
  refine wpR_bind (toR (wpAny_nsGet G₁.T.g ?_))
  rw [h1]
  exact wpR_bind (wpR_mono h (fun v s' g => wpR_pure ⟨_, rfl, have z := g.laid (c := r.toRowW.claim) hsame hwi hi L; ⟨z.1, z.2.1, z.2.2, fun q => ⟨namesKept_of hT' hg r.keeps keeps g.2.1.old, noTable hwr q⟩⟩⟩)
    fun e s' g => have z := g.laid (c := r.toRowW.claim) hsame hwi hi L; ⟨z.1, z.2.1, z.2.2, fun q => ⟨namesKept_of hT' hg r.keeps keeps g.2.1.old, noTable hwr q⟩⟩)

theorem Lv.top : Lv 0 callerA := ⟨rfl, by decide, by decide, rfl⟩

end Mine

namespace Mine

noncomputable def adLoop (delta divs : Int) : Int := if h : 455 < delta then adLoop (delta / 35) (divs + 36) else divs + 36 * delta / (delta + 38)
termination_by delta.toNat
decreasing_by omega

noncomputable def adaptF (delta : Int) (first : Bool) (n : Int) : Int := adLoop ((if first then delta / 700 else delta / 2) + (if first then delta / 700 else delta / 2) / n) 0

/-! ## adapt in numbers -/
theorem adLoop_small {e : Int} (h : e ≤ 455) (d : Int) : adLoop e d = d + 36 * e / (e + 38) := by
  rw [adLoop, dif_neg (by omega)]
theorem adLoop_big {e : Int} (h : 455 < e) (d : Int) : adLoop e d = adLoop (e / 35) (d + 36) := by
  rw [adLoop, dif_pos h]
theorem adLoop_acc (e : Int) : ∀ d : Int, adLoop e d = d + adLoop e 0 := by
  obtain ⟨m, hm⟩ : ∃ m : Nat, e.toNat ≤ m := ⟨_, Nat.le_refl _⟩
  induction m using Nat.strongRecOn generalizing e with
  | ind m ih =>
    intro d
    by_cases h : 455 < e
    · rw [adLoop_big h d, adLoop_big h 0, ih (e / 35).toNat (by omega) (e / 35) (Nat.le_refl _) (d + 36), ih (e / 35).toNat (by omega) (e / 35) (Nat.le_refl _) (0 + 36)]
      omega
    · rw [adLoop_small (by omega), adLoop_small (by omega)]; omega
theorem adLoop_step {e : Int} (h : 455 < e) : adLoop e 0 = 36 + adLoop (e / 35) 0 := by
  rw [adLoop_big h, adLoop_acc (e / 35) (0 + 36)]; omega

theorem small_le {e : Int} (he : 0 ≤ e) (h : e ≤ 455) : 36 * e / (e + 38) ≤ 33 := by
  have : 36 * e / (e + 38) < 34 := Int.ediv_lt_of_lt_mul (by omega) (by omega)
  omega
end Mine

namespace Mine

/-! ## the plain law of generate_generalized_integer -/

noncomputable def tF (j bias : Int) : Int := if 36 * (j + 1) - bias < 1 then 1 else if 26 < 36 * (j + 1) - bias then 26 else 36 * (j + 1) - bias
theorem tF_ge (j bias : Int) : 1 ≤ tF j bias := by unfold tF; repeat' split <;> omega
theorem tF_le (j bias : Int) : tF j bias ≤ 26 := by unfold tF; repeat' split <;> omega

noncomputable def dgs : List UInt8 := [97, 98, 99, 100, 101, 102, 103, 104, 105, 106, 107, 108, 109, 110, 111, 112, 113, 114, 115, 116, 117, 118, 119, 120, 121, 122, 48, 49, 50, 51, 52, 53, 54, 55, 56, 57]
noncomputable def dB (d : Int) : UInt8 := dgs.getD d.toNat 0

theorem ediv_small {a b : Int} (h : 0 < a) (hb : 2 ≤ b) : a / b < a := by
  have := Int.ediv_lt_of_lt_mul (a := a) (b := a) (c := b) (by omega) (by
    have : a * 2 ≤ a * b := Int.mul_le_mul_of_nonneg_left hb (by omega)
    omega)
  exact this
theorem next_lt {N t : Int} (h1 : 1 ≤ t) (h2 : t ≤ 26) (h : ¬ N < t) : ((N - t) / (36 - t)).toNat < N.toNat := by
  have hb : (N - t) / (36 - t) ≤ N - t := by
    by_cases hz : N - t = 0
    · rw [hz]; simp
    · have := ediv_small (a := N - t) (b := 36 - t) (by omega) (by omega)
      omega
  omega

/-- the numeral's figures -/
noncomputable def ggiD (N bias : Int) (j : Int) : List Int :=
  if h : N < tF j bias then [N]
  else (tF j bias + (N - tF j bias) % (36 - tF j bias)) :: ggiD ((N - tF j bias) / (36 - tF j bias)) bias (j + 1)
termination_by N.toNat
decreasing_by exact next_lt (tF_ge _ _) (tF_le _ _) h

noncomputable def ggiB (N bias : Int) : List UInt8 := (ggiD N bias 0).map dB

theorem ggiD_length_le : ∀ (m : Nat) (N bias j : Int), N < 10 ^ m → (ggiD N bias j).length ≤ m + 1
  | 0, N, bias, j, h => by
    rw [ggiD, dif_pos (by have := tF_ge j bias; omega)]; simp
  | m + 1, N, bias, j, h => by
    rw [ggiD]
    split
    · simp
    · rename_i hn
      have h1 := tF_ge j bias
      have h2 := tF_le j bias
      have : (N - tF j bias) / (36 - tF j bias) < 10 ^ m := by
        refine Int.ediv_lt_of_lt_mul (by omega) ?_
        have h3 : (10 : Int) ^ m * 10 ≤ 10 ^ m * (36 - tF j bias) := Int.mul_le_mul_of_nonneg_left (by omega) (Int.pow_nonneg (by omega))
        rw [Int.pow_succ] at h
        omega
      have := ggiD_length_le m _ bias (j + 1) this
      simpa using this
end Mine

namespace Mine

/-! ## the plain law 04: adding numerals -/
theorem ggiD_range : ∀ (m : Nat) (N bias j : Int), N.toNat ≤ m → 0 ≤ N → ∀ d ∈ ggiD N bias j, 0 ≤ d ∧ d < 36 := by
  intro m
  induction m using Nat.strongRecOn with
  | ind m ih =>
    intro N bias j hm h0 d hd
    have h1 := tF_ge j bias
    have h2 := tF_le j bias
    rw [ggiD] at hd
    split at hd
    · simp at hd; subst hd; omega
    · rename_i hn
      rcases List.mem_cons.mp hd with rfl | hd
      · have := Int.emod_nonneg (N - tF j bias) (b := 36 - tF j bias) (by omega)
        have := Int.emod_lt_of_pos (N - tF j bias) (b := 36 - tF j bias) (by omega)
        omega
      · have := next_lt h1 h2 hn
        exact ih _ (by omega) _ bias (j + 1) (Nat.le_refl _) (Int.ediv_nonneg (by omega) (by omega)) d hd
theorem ggiD_dig {N bias : Int} (h0 : 0 ≤ N) : ∀ d ∈ ggiD N bias 0, 0 ≤ d ∧ d < 36 := ggiD_range _ N bias 0 (Nat.le_refl _) h0

end Mine

namespace Mine

/-! ## the plain law 05: a numeral, cut -/
noncomputable def preD (bias : Int) : Int → List Int → Int → Int
  | _, [], M => M
  | j, a :: as, M => a + (36 - tF j bias) * preD bias (j + 1) as M
noncomputable def okP (bias : Int) : Int → List Int → Prop
  | _, [] => True
  | j, a :: as => tF j bias ≤ a ∧ a ≤ 35 ∧ okP bias (j + 1) as
noncomputable def limD (bias : Int) : Int → Nat → List Int
  | _, 0 => []
  | j, c + 1 => tF j bias :: limD bias (j + 1) c

theorem preD_nonneg (bias : Int) : ∀ (as : List Int) (j M : Int), okP bias j as → 0 ≤ M → 0 ≤ preD bias j as M
  | [], j, M, _, h => h
  | a :: as, j, M, h, hM => by
    have h1 := tF_ge j bias
    have h2 := tF_le j bias
    have := Int.mul_nonneg (a := 36 - tF j bias) (by omega) (preD_nonneg bias as (j + 1) M h.2.2 hM)
    have := h.1
    simp only [preD]; omega
theorem limD_ok (bias : Int) : ∀ (c : Nat) (j : Int), okP bias j (limD bias j c)
  | 0, _ => trivial
  | c + 1, j => ⟨Int.le_refl _, by have := tF_le j bias; omega, limD_ok bias c (j + 1)⟩
theorem dB_inj' : ((List.range 36).all fun a => (List.range 36).all fun b => (dB (a : Int) != dB (b : Int)) || a == b) = true := by decide +kernel
theorem dB_inj {a b : Int} (ha : 0 ≤ a ∧ a < 36) (hb : 0 ≤ b ∧ b < 36) (h : dB a = dB b) : a = b := by
  have := List.all_eq_true.mp (List.all_eq_true.mp dB_inj' a.toNat (List.mem_range.mpr (by omega))) b.toNat (List.mem_range.mpr (by omega))
  rw [Int.toNat_of_nonneg ha.1, Int.toNat_of_nonneg hb.1, h] at this
  simp at this
  omega
end Mine

namespace Mine
/-! ## generate_integers in numbers -/
noncomputable def giD (base : Int) : Int → Int → List Int → List Int
  | _, _, [] => []
  | p, b, d :: ds => ggiD d b 0 ++ giD base (p + 1) (adaptF d (decide (p = 0)) (base + p + 1)) ds
theorem giD_length (base : Int) : ∀ (ds : List Int) (p b : Int), (∀ d ∈ ds, d < 10 ^ 20) → (giD base p b ds).length ≤ 21 * ds.length
  | [], _, _, _ => by simp [giD]
  | d :: ds, p, b, h => by
    have h1 := ggiD_length_le 20 d b 0 (h d List.mem_cons_self)
    have h2 := giD_length base ds (p + 1) (adaptF d (decide (p = 0)) (base + p + 1)) fun x hx => h x (List.mem_cons_of_mem _ hx)
    simp only [giD, List.length_append, List.length_cons]; omega
end Mine

namespace Mine
/-! ## thresholds of a bias that adapt gives -/
noncomputable def levF (e : Int) : Nat := if h : 455 < e then levF (e / 35) + 1 else 0
termination_by e.toNat
decreasing_by omega
noncomputable def leftF (e : Int) : Int := e / 35 ^ levF e
theorem levF_iff : ∀ (l : Nat) (e : Int), (456 * 35 ^ l ≤ e ↔ l < levF e)
  | 0, e => by
    rw [levF]
    split <;> simp <;> omega
  | l + 1, e => by
    rw [levF]
    have hp : (1 : Int) ≤ 35 ^ l := by
      have : (1 : Nat) ≤ 35 ^ l := Nat.pow_pos (by decide)
      exact_mod_cast this
    split
    · rename_i h
      have := levF_iff l (e / 35)
      rw [Nat.add_lt_add_iff_right, ← this, Int.le_ediv_iff_mul_le (by decide), Int.pow_succ]
      omega
    · rename_i h
      rw [Int.pow_succ]
      constructor
      · intro q; omega
      · intro q; omega
theorem levF_le {e : Int} {l : Nat} (h : e < 456 * 35 ^ l) : levF e ≤ l := by
  have := levF_iff l e
  omega
theorem leftF_eq (e : Int) : leftF e = if 455 < e then leftF (e / 35) else e := by
  unfold leftF
  rw [levF]
  split
  · rename_i h
    rw [Int.pow_succ, Int.mul_comm, Int.ediv_ediv_of_nonneg (by decide)]
  · simp
theorem leftF_range (e : Int) (h : 0 ≤ e) : 0 ≤ leftF e ∧ leftF e ≤ 455 := by
  have : ∀ (m : Nat) (e : Int), e.toNat ≤ m → 0 ≤ e → 0 ≤ leftF e ∧ leftF e ≤ 455 := by
    intro m
    induction m with
    | zero => intro e hm h0; rw [leftF_eq, if_neg (by omega)]; omega
    | succ m ih =>
      intro e hm h0
      rw [leftF_eq]
      split
      · exact ih (e / 35) (by omega) (by omega)
      · omega
  exact this _ e (Nat.le_refl _) h
theorem adLoop_lev (e : Int) (h : 0 ≤ e) : adLoop e 0 = 36 * (levF e : Int) + 36 * leftF e / (leftF e + 38) := by
  have : ∀ (m : Nat) (e : Int), e.toNat ≤ m → 0 ≤ e → adLoop e 0 = 36 * (levF e : Int) + 36 * leftF e / (leftF e + 38) := by
    intro m
    induction m with
    | zero =>
      intro e hm h0
      rw [adLoop_small (by omega), leftF_eq, if_neg (by omega), levF, dif_neg (by omega)]; simp
    | succ m ih =>
      intro e hm h0
      rw [leftF_eq, levF]
      split
      · rename_i h
        rw [adLoop_step h, ih (e / 35) (by omega) (by omega)]
        omega
      · rename_i h
        rw [adLoop_small (by omega)]; simp
  exact this _ e (Nat.le_refl _) h
noncomputable def midF (left : Int) : Int := min 26 ((1368 + left + 37) / (left + 38))
noncomputable def limF (level : Nat) (middle : Int) (p : Nat) : Int := if p < level then 1 else if p = level then middle else 26
theorem ceil_mid {x : Int} (h0 : 0 ≤ x) : (1368 + x + 37) / (x + 38) = 36 - 36 * x / (x + 38) := by
  have h1 := Int.mul_ediv_add_emod (36 * x) (x + 38)
  have h2 := Int.emod_nonneg (36 * x) (b := x + 38) (by omega)
  have h3 := Int.emod_lt_of_pos (36 * x) (b := x + 38) (by omega)
  generalize 36 * x / (x + 38) = q at *
  generalize 36 * x % (x + 38) = r at *
  have e : 1368 + x + 37 = (x + 37 - r) + (36 - q) * (x + 38) := by
    rw [Int.sub_mul, Int.mul_comm q]; omega
  rw [e, Int.add_mul_ediv_right _ _ (by omega), Int.ediv_eq_zero_of_lt (by omega) (by omega)]; omega
theorem tF_lim (e : Int) (h : 0 ≤ e) (p : Nat) : tF p (adLoop e 0) = limF (levF e) (midF (leftF e)) p := by
  rw [adLoop_lev e h]
  obtain ⟨l0, l1⟩ := leftF_range e h
  unfold midF
  rw [ceil_mid l0]
  have hq1 := small_le l0 l1
  have hq0 : 0 ≤ 36 * leftF e / (leftF e + 38) := Int.ediv_nonneg (by omega) (by omega)
  generalize 36 * leftF e / (leftF e + 38) = q at *
  unfold limF tF
  split <;> split <;> (try split) <;> (try split) <;> omega
theorem tF_72 (p : Nat) : tF p 72 = limF 2 26 p := by
  unfold limF tF
  split <;> split <;> (try split) <;> (try split) <;> omega
/-! ## capitals -/
noncomputable def upB (c : UInt8) : UInt8 := if 97 ≤ c ∧ c ≤ 122 then c - 32 else c
noncomputable def dU (d : Int) : UInt8 := upB (dB d)
theorem dU_val : ∀ d : Nat, d < 36 → ((dU (d : Int)).toNat : Int) = if (d : Int) < 26 then (d : Int) + 65 else (d : Int) + 22 := by decide +kernel
theorem map_upB (ds : List Int) : (ds.map dB).map upB = ds.map dU := by rw [List.map_map]; rfl
/-! ## law 07 in numbers -/
end Mine

namespace Mine
/-! ## small helps for the walks -/
theorem Paired.maps {α β γ : Type} {R : β → γ → Prop} {f : α → β} {g : α → γ} : ∀ (l : List α), (∀ a ∈ l, R (f a) (g a)) → Paired R (l.map f) (l.map g)
  | [], _ => .nil
  | a :: l, h => .cons (h a List.mem_cons_self) (Paired.maps l fun b hb => h b (List.mem_cons_of_mem _ hb))
theorem filterMap_some {α β : Type} (f : α → β) (l : List α) : (l.map fun a => some (f a)).filterMap id = l.map f := by
  induction l with
  | nil => rfl
  | cons a l ih => simp
theorem cut_to {α : Type} (l : List α) (c : Nat) : cutL l none (some (c : Int)) = l.take c := by
  unfold cutL
  simp only [Option.elim, clipAt_nat, List.drop_zero, Nat.sub_zero]
  by_cases h : c ≤ l.length
  · rw [Nat.min_eq_left h]
  · rw [Nat.min_eq_right (by omega), List.take_of_length_le (Nat.le_refl _), List.take_of_length_le (by omega)]
theorem limD_map (bias : Int) : ∀ (n : Nat) (a : Int), limD bias a n = (List.range n).map fun (p : Nat) => tF (a + (p : Int)) bias
  | 0, a => rfl
  | n + 1, a => by
    rw [limD, limD_map bias n (a + 1), List.range_succ_eq_map, List.map_cons, List.map_map]
    congr 1
    · congr 1; omega
    · refine List.map_congr_left fun p _ => ?_
      show tF (a + 1 + (p : Int)) bias = tF (a + ((p + 1 : Nat) : Int)) bias
      congr 1; omega
theorem toUpper_eq : Builtin.Bytes.toUpper = upB := by
  funext c
  unfold Builtin.Bytes.toUpper upB Builtin.Bytes.isLower
  by_cases h : 97 ≤ c ∧ c ≤ 122
  · rw [if_pos h, if_pos (by simpa using h)]
  · rw [if_neg h, if_neg (by simpa using h)]
theorem len1 {α : Type} {l : List α} (h : l.length = 1) : ∃ x, l = [x] := by
  cases l with
  | nil => cases h
  | cons x l => cases l with
    | nil => exact ⟨x, rfl⟩
    | cons y l => cases h
theorem len2 {α : Type} {l : List α} (h : l.length = 2) : ∃ x y, l = [x, y] := by
  cases l with
  | nil => cases h
  | cons x l =>
    obtain ⟨y, rfl⟩ := len1 (l := l) (by simpa using h)
    exact ⟨x, y, rfl⟩
theorem len3 {α : Type} {l : List α} (h : l.length = 3) : ∃ x y z, l = [x, y, z] := by
  cases l with
  | nil => cases h
  | cons x l =>
    obtain ⟨y, z, rfl⟩ := len2 (l := l) (by simpa using h)
    exact ⟨x, y, z, rfl⟩
theorem len4 {α : Type} {l : List α} (h : l.length = 4) : ∃ x y z u, l = [x, y, z, u] := by
  cases l with
  | nil => cases h
  | cons x l =>
    obtain ⟨y, z, u, rfl⟩ := len3 (l := l) (by simpa using h)
    exact ⟨x, y, z, u, rfl⟩
end Mine

set_option maxRecDepth 100000
namespace Mine

section
variable {Γ : Cx} {k : Nat} {sc : Scope} {σ : Loc} {μ : Own} {pos : Pos}

/-! ## text -/
theorem str_len (l : List Nat) : (Str.mk l.toArray).length = l.length := by show l.toArray.size = _; simp
theorem str_app (a b : List Nat) : (Str.mk a.toArray) ++ (Str.mk b.toArray) = Str.mk (a ++ b).toArray := by
  show Str.mk (a.toArray ++ b.toArray) = _
  simp
theorem Op2.addS {a b : List Nat} (h : a.length + b.length < 2 ^ 20) : Op2 Γ (binaryOp .Add) (.str a) (.str b) (.str (a ++ b)) := by
  intro A n D s x y Q E _ _ _ _ hx hy _ hQ
  obtain ⟨t, rfl⟩ := V_str.mp hx; obtain ⟨u, rfl⟩ := V_str.mp hy
  refine PyProof.Rows.add_str (fun t' tk => hQ _ _ (Gr.toks tk) ?_) (by rw [str_len, str_len, sizeLine_eq]; omega)
  rw [str_app]; exact V.str _ _
theorem Op2.eqS {a b : List Nat} : Op2 Γ (compareOp .Eq) (.str a) (.str b) (.bool (a == b)) := by
  intro A n D s x y Q E _ _ _ _ hx hy _ hQ
  obtain ⟨t, rfl⟩ := V_str.mp hx; obtain ⟨u, rfl⟩ := V_str.mp hy
  exact P.eq_str (hQ _ _ (Gr.refl s) (by simpa using V.bool _))
theorem Op2.neS {a b : List Nat} : Op2 Γ (compareOp .NotEq) (.str a) (.str b) (.bool (a != b)) := by
  intro A n D s x y Q E _ _ _ _ hx hy _ hQ
  obtain ⟨t, rfl⟩ := V_str.mp hx; obtain ⟨u, rfl⟩ := V_str.mp hy
  exact P.ne_str (hQ _ _ (Gr.refl s) (by simpa using V.bool _))
noncomputable def isNoneP : PV → Bool
  | .none => true
  | _ => false
noncomputable def noObj : PV → Bool
  | .obj _ => false
  | _ => true
theorem V.isNone {D : Addr → Prop} {h : Heap} {p : PV} {v : Value} (ho : noObj p = true) (e : V D h p v) : (v == .none) = isNoneP p := by
  cases p with
  | none => rw [V_none] at e; subst e; rfl
  | bool b => rw [V_bool] at e; subst e; rfl
  | int i => obtain ⟨t, rfl⟩ := V_int.mp e; rfl
  | str l => obtain ⟨t, rfl⟩ := V_str.mp e; rfl
  | bytes l => obtain ⟨t, rfl⟩ := V_bytes.mp e; rfl
  | obj w => cases ho
  | tup xs => obtain ⟨a, items, rfl, _⟩ := V_tup.mp e; rfl
  | lst xs => obtain ⟨a, items, rfl, _⟩ := V_lst.mp e; rfl
  | lsn xs => obtain ⟨a, items, n, rfl, _⟩ := V_lsn.mp e; rfl
  | ref a => rw [V_ref] at e; subst e; rfl
  | rng a b c => obtain ⟨r, t, u, z, rfl, _⟩ := V_rng.mp e; rfl
theorem Op2.is0 {p : PV} (ho : noObj p = true) : Op2 Γ (compareOp .Is) p .none (.bool (isNoneP p)) := by
  intro A n D s x y Q E _ _ _ _ hx hy _ hQ
  rw [V_none] at hy; subst hy
  refine is_none_gen ?_
  rw [hx.isNone ho]
  exact hQ _ _ (Gr.refl s) (V.bool _)
theorem CallOk.len_str {l : List Nat} (h : l.length < 2 ^ 62) : CallOk Γ k (.builtin "len") [.str l] (.int l.length) := by
  intro A n D s vals Q E _ _ _ _ hvs _ hQ
  rw [Vs_cons] at hvs
  obtain ⟨v, r, rfl, hv, hr⟩ := hvs
  rw [Vs_nil] at hr; subst hr
  obtain ⟨t, rfl⟩ := V_str.mp hv
  refine toR (P.len_str (by rw [str_len]; omega) (hQ _ _ (Gr.toks _) ?_))
  rw [str_len]; exact V.int _ _
theorem CallOk.chr {i : Int} (h0 : 0 ≤ i) (h1 : i ≤ 1114111) : CallOk Γ k (.builtin "chr") [.int i] (.str [i.toNat]) := by
  intro A n D s vals Q E _ _ _ _ hvs _ hQ
  rw [Vs_cons] at hvs
  obtain ⟨v, r, rfl, hv, hr⟩ := hvs
  rw [Vs_nil] at hr; subst hr
  obtain ⟨t, rfl⟩ := V_int.mp hv
  exact toR (chr_of_range h0 h1 (hQ _ _ (Gr.toks _) (V.str [i.toNat] _)))
/-! ### slices and items -/
theorem getItem_slice {prog : Program} {w : World} {A : Around} {E : Value → Shared → Prop} {s : Shared} {x : Str} {t : Tok} {sl : Addr} {vl vu : Value} {lo hi : Option Int} {Q : Value → Shared → Prop}
    (hs : s.heap.IsSliceOf sl vl vu .none) (pl : IsPart vl lo) (pu : IsPart vu hi) (hz : x.length ≤ sizeLine) (hQ : ∀ t' k, Q (.str (Txt.slice x lo hi) t') { s with toks := k }) : wpAny (model prog w) A (getItem (.str x t) (.ref sl)) Q E s := by
  cases pl with
  | none =>
    cases pu with
    | none => exact wpAny_getItem_str_slice (l := none) (u := none) (st := none) hs rfl (post_val_or_str ⟨Nat.le_trans (Txt.slice_le x _ _) hz, fun t' k => hQ t' k⟩)
    | int j uj => exact wpAny_getItem_str_slice (l := none) (u := some (j, uj)) (st := none) hs rfl (post_val_or_str ⟨Nat.le_trans (Txt.slice_le x _ _) hz, fun t' k => hQ t' k⟩)
  | int i ui =>
    cases pu with
    | none => exact wpAny_getItem_str_slice (l := some (i, ui)) (u := none) (st := none) hs rfl (post_val_or_str ⟨Nat.le_trans (Txt.slice_le x _ _) hz, fun t' k => hQ t' k⟩)
    | int j uj => exact wpAny_getItem_str_slice (l := some (i, ui)) (u := some (j, uj)) (st := none) hs rfl (post_val_or_str ⟨Nat.le_trans (Txt.slice_le x _ _) hz, fun t' k => hQ t' k⟩)
theorem SliceOk.strTo {l : List Nat} {c : Nat} (hc : c ≤ l.length) (hz : l.length < 2 ^ 20) : SliceOk Γ (.str l) none (some (c : Int)) none (.str (l.take c)) := by
  intro A n D s x sl vl vu vs Q E _ _ hv hD hs pl pu ps hQ
  obtain ⟨t, rfl⟩ := V_str.mp hv
  cases ps
  refine getItem_slice hs pl pu (by rw [str_len, sizeLine_eq]; omega) fun t' k => hQ _ _ (Gr.toks k) ?_
  have e : Txt.slice ⟨l.toArray⟩ none (some (c : Int)) = ⟨(l.take c).toArray⟩ := by
    show StrLaws.sliceText ⟨l.toArray⟩ none (some (c : Int)) = _
    rw [StrLaws.sliceText_to ⟨by omega, by simp; omega⟩]
    simp
  rw [e]; exact V.str _ _
theorem SliceOk.strFrom {l : List Nat} {c : Nat} (hc : c ≤ l.length) (hz : l.length < 2 ^ 20) : SliceOk Γ (.str l) (some (c : Int)) none none (.str (l.drop c)) := by
  intro A n D s x sl vl vu vs Q E _ _ hv hD hs pl pu ps hQ
  obtain ⟨t, rfl⟩ := V_str.mp hv
  cases ps
  refine getItem_slice hs pl pu (by rw [str_len, sizeLine_eq]; omega) fun t' k => hQ _ _ (Gr.toks k) ?_
  have e : Txt.slice ⟨l.toArray⟩ (some (c : Int)) none = ⟨(l.drop c).toArray⟩ := by
    show StrLaws.sliceText ⟨l.toArray⟩ (some (c : Int)) none = _
    rw [StrLaws.sliceText_from ⟨by omega, by simp; omega⟩]
    simp only [Int.toNat_natCast]
    rw [List.take_of_length_le (by simp)]
  rw [e]; exact V.str _ _
/-! ### join -/
theorem strsAre {D : Addr → Prop} {h : Heap} : ∀ {ls : List (List Nat)} {vs : List Value}, Vs D h (ls.map .str) vs → StrsAre vs (ls.map fun l => Str.mk l.toArray)
  | [], vs, e => by simp only [List.map_nil, Vs_nil] at e; subst e; exact .nil
  | l :: ls, vs, e => by
    simp only [List.map_cons, Vs_cons] at e
    obtain ⟨v, r, rfl, e2, e3⟩ := e
    obtain ⟨t, rfl⟩ := V_str.mp e2
    exact .cons _ _ (strsAre e3)
theorem join_flat : ∀ (ls : List (List Nat)), Str.join ⟨#[]⟩ (ls.map fun l => Str.mk l.toArray) = Str.mk ls.flatten.toArray
  | [] => rfl
  | [l] => by show Str.mk l.toArray = _; simp
  | l :: m :: ls => by
    have ih := join_flat (m :: ls)
    show Str.mk l.toArray ++ ⟨#[]⟩ ++ Str.join ⟨#[]⟩ ((m :: ls).map fun l => Str.mk l.toArray) = _
    rw [ih]
    show Str.mk ((l.toArray ++ #[]) ++ (m :: ls).flatten.toArray) = _
    simp
theorem CallOk.join {ls : List (List Nat)} (hw : (ls.map (·.length)).sum + ls.length < 2 ^ 20) : CallOk Γ k (.builtin "str.join") [.str [], .lst (ls.map .str)] (.str ls.flatten) := by
  intro A n D s vals Q E _ hA _ _ hvs _ hQ
  rw [Vs_cons] at hvs
  obtain ⟨v, r, rfl, hv, hr⟩ := hvs
  rw [Vs_cons] at hr
  obtain ⟨v2, r2, rfl, hv2, hr2⟩ := hr
  rw [Vs_nil] at hr2; subst hr2
  obtain ⟨t, rfl⟩ := V_str.mp hv
  obtain ⟨a, items, rfl, _, hl, he⟩ := V_lst.mp hv2
  refine toR (join_listW hl (strsAre he) (by decide) ?_ fun t' k => hQ _ _ (Gr.toks k) ?_)
  · rw [List.map_map, List.length_map]
    have : ((fun x : Str => x.length) ∘ fun l : List Nat => Str.mk l.toArray) = (·.length) := by funext l; exact str_len l
    rw [this]; omega
  · have e : Txt.join ⟨([] : List Nat).toArray⟩ (ls.map fun l => Str.mk l.toArray) = Str.mk ls.flatten.toArray := (StrLaws.glued_eq_join _ _).trans (join_flat ls)
    rw [e]; exact V.str _ _
theorem flatten_ones {α β : Type} (f : α → β) : ∀ l : List α, (l.map fun a => [f a]).flatten = l.map f
  | [] => rfl
  | a :: l => by rw [List.map_cons, List.flatten_cons, flatten_ones f l]; rfl

/-! ### max, rfind -/
end
end Mine

set_option maxRecDepth 100000
namespace Mine
section
variable {Γ : Cx} {k : Nat}
theorem Lv.room {n : Nat} {A : Around} (h : Lv n A) (hn : n ≤ 8) : A.units + 64 < cLine := by
  have := h.units
  show A.units + 64 < _
  unfold cLine
  omega
/-! ### lists of ints: ==, != -/
theorem Op2.eqI {as bs : List Int} : Op2 Γ (compareOp .Eq) (.lst (as.map .int)) (.lst (bs.map .int)) (.bool (decide (as = bs))) := by
  intro A n D s x y Q E hn hA _ _ hx hy _ hQ
  obtain ⟨a, items, rfl, _, hl, he⟩ := V_lst.mp hx
  obtain ⟨b, items2, rfl, _, hl2, he2⟩ := V_lst.mp hy
  exact ke_eq_ints (xs := items.toList) (ys := items2.toList) (by simpa using hl) (by simpa using hl2) he.ints he2.ints (hA.room hn) (hQ _ _ (Gr.refl s) (V.bool _))
end
end Mine

namespace Mine
/-! ## insertion_sort in numbers -/
noncomputable def stepC (c : Int) : Int := if 1114111 < c then 63 else c
noncomputable def putN (base : List Nat) (p : Int) (c : Int) : List Nat := base.take p.toNat ++ c.toNat :: base.drop p.toNat
theorem putN_length (base : List Nat) (p c : Int) : (putN base p c).length = base.length + 1 := by
  unfold putN; simp [List.length_take, List.length_drop]; omega
noncomputable def insF : List Nat → Int → Int → List Int → List Nat
  | base, _, _, [] => base
  | base, char, pos, d :: ds =>
    insF (putN base ((pos + (d + 1)) % ((base.length : Int) + 1)) (stepC (char + (pos + (d + 1)) / ((base.length : Int) + 1)))) (stepC (char + (pos + (d + 1)) / ((base.length : Int) + 1))) ((pos + (d + 1)) % ((base.length : Int) + 1)) ds
/-- no code point too great -/
noncomputable def noOv : List Nat → Int → Int → List Int → Prop
  | _, _, _, [] => True
  | base, char, pos, d :: ds => char + (pos + (d + 1)) / ((base.length : Int) + 1) ≤ 1114111 ∧
    noOv (putN base ((pos + (d + 1)) % ((base.length : Int) + 1)) (char + (pos + (d + 1)) / ((base.length : Int) + 1))) (char + (pos + (d + 1)) / ((base.length : Int) + 1)) ((pos + (d + 1)) % ((base.length : Int) + 1)) ds
theorem stepC_id {c : Int} (h : c ≤ 1114111) : stepC c = c := by unfold stepC; rw [if_neg (by omega)]
theorem ggiD_pos (N bias j : Int) : 1 ≤ (ggiD N bias j).length := by rw [ggiD]; split <;> simp
theorem giD_dig (base : Int) : ∀ (ds : List Int) (p b : Int), (∀ d ∈ ds, 0 ≤ d) → ∀ x ∈ giD base p b ds, 0 ≤ x ∧ x < 36
  | [], _, _, _, x, h => nomatch h
  | d :: ds, p, b, hd, x, h => by
    simp only [giD, List.mem_append] at h
    rcases h with h | h
    · exact ggiD_dig (hd d List.mem_cons_self) x h
    · exact giD_dig base ds _ _ (fun y hy => hd y (List.mem_cons_of_mem _ hy)) x h
noncomputable def strictL : List Nat := [115, 116, 114, 105, 99, 116]
end Mine

namespace Mine
/-! ## law 09 in numbers -/
theorem noOv_small : ∀ (ds : List Int) (base : List Nat) (char pos : Int), (∀ d ∈ ds, 0 ≤ d ∧ d < 10000) → 0 ≤ char → -1 ≤ pos → pos ≤ base.length → char + 10001 * ds.length ≤ 1114111 → noOv base char pos ds
  | [], _, _, _, _, _, _, _, _ => trivial
  | d :: ds, base, char, pos, hd, c0, p0, p1, hb => by
    obtain ⟨d0, d1⟩ := hd d List.mem_cons_self
    have hP : 0 ≤ pos + (d + 1) := by omega
    have q0 : 0 ≤ (pos + (d + 1)) / ((base.length : Int) + 1) := Int.ediv_nonneg hP (by omega)
    have q1 : (pos + (d + 1)) / ((base.length : Int) + 1) ≤ 10001 := by
      refine Int.le_of_lt_add_one (Int.ediv_lt_of_lt_mul (by omega) ?_)
      have : (10001 + 1) * ((base.length : Int) + 1) = 10002 * base.length + 10002 := by omega
      omega
    have m0 : 0 ≤ (pos + (d + 1)) % ((base.length : Int) + 1) := Int.emod_nonneg _ (by omega)
    have m1 : (pos + (d + 1)) % ((base.length : Int) + 1) < (base.length : Int) + 1 := Int.emod_lt_of_pos _ (by omega)
    simp only [List.length_cons] at hb
    refine ⟨by omega, noOv_small ds _ _ _ (fun x hx => hd x (List.mem_cons_of_mem _ hx)) (by omega) (by omega) (by rw [putN_length]; omega) (by omega)⟩
end Mine

set_option maxRecDepth 100000
namespace Mine

/-! ## UnicodeDecodeError: making one -/
noncomputable abbrev udeObj (vs : Array Value) : Obj := { cls := .type "UnicodeDecodeError", data := .fields vs }
noncomputable abbrev udeVs (t tb ctx cs sup nt : Value) (m : Builtin.UnicodeEncodeError.Members) : Array Value := #[t, tb, ctx, cs, sup, nt, m.encoding, m.object, rawInt m.start, rawInt m.stop, m.reason]

section
variable {M : Model} {A : Around} {E : Value → Shared → Prop} {s : Shared} {e : Addr}
theorem ude_set0 {t tb ctx cs sup nt : Value} {m : Builtin.UnicodeEncodeError.Members} {Q : Unit → Shared → Prop} (he : s.heap.get? e = some (udeObj #[t, tb, ctx, cs, sup, nt]))
    (h : ∀ h', Heap.SameBut e s.heap h' → h'.get? e = some (udeObj (udeVs t tb ctx cs sup nt m)) → Q () { s with heap := h' }) : wpAny M A (Builtin.UnicodeEncodeError.setMembers (.ref e) m) Q E s := by
  unfold Builtin.UnicodeEncodeError.setMembers
  refine wpAny_updateFields he rfl (h _ (Heap.SameBut.update ..) ?_) (by show 11 ≤ sizeLine + 3; decide)
  exact Heap.get?_update_self _ he rfl
theorem ude_set {t tb ctx cs sup nt : Value} {m m' : Builtin.UnicodeEncodeError.Members} {Q : Unit → Shared → Prop} (he : s.heap.get? e = some (udeObj (udeVs t tb ctx cs sup nt m')))
    (h : ∀ h', Heap.SameBut e s.heap h' → h'.get? e = some (udeObj (udeVs t tb ctx cs sup nt m)) → Q () { s with heap := h' }) : wpAny M A (Builtin.UnicodeEncodeError.setMembers (.ref e) m) Q E s := by
  unfold Builtin.UnicodeEncodeError.setMembers
  refine wpAny_updateFields he rfl (h _ (Heap.SameBut.update ..) ?_) (by show 11 ≤ sizeLine + 3; decide)
  exact Heap.get?_update_self _ he rfl
theorem ude_get0 {t tb ctx cs sup nt : Value} {Q : Builtin.UnicodeEncodeError.Members → Shared → Prop} (he : s.heap.get? e = some (udeObj #[t, tb, ctx, cs, sup, nt])) (h : Q {} s) : wpAny M A (Builtin.UnicodeEncodeError.members (.ref e)) Q E s := by
  unfold Builtin.UnicodeEncodeError.members
  refine wpAny_bind (wpAny_fieldsOf he rfl ?_)
  exact wpAny_pure h
theorem ude_get {t tb ctx cs sup nt : Value} {m : Builtin.UnicodeEncodeError.Members} {Q : Builtin.UnicodeEncodeError.Members → Shared → Prop} (he : s.heap.get? e = some (udeObj (udeVs t tb ctx cs sup nt m))) (h : Q m s) : wpAny M A (Builtin.UnicodeEncodeError.members (.ref e)) Q E s := by
  unfold Builtin.UnicodeEncodeError.members
  refine wpAny_bind (wpAny_fieldsOf he rfl ?_)
  exact wpAny_pure h
end

namespace F
theorem ude_new : ExcNewFacts "UnicodeDecodeError" "UnicodeDecodeError.__new__" where
  ends := by decide +kernel
  owner := by decide +kernel
  entry := entryFor_alias (id' := "BaseException.__new__") (by rw [fastTable_eq_tree]; kernel_rfl) (by first | rfl | decide +kernel) (by decide +kernel) (by rw [fastTable_eq_tree]; kernel_rfl)
  sub := by rw [isSubtype_type]; kernel_rfl
  notAttr := by rw [isSubtype_type]; kernel_rfl
  notName := by rw [isSubtype_type]; kernel_rfl
  made := by kernel_rfl
theorem ude_mro : mroOf (.type "UnicodeDecodeError") = pure [.type "UnicodeDecodeError", .type "UnicodeError", .type "ValueError", .type "Exception", .type "BaseException", .type "object"] := by rw [mroOf_type]; kernel_rfl
theorem ude_lookup_new : typeLookup (.type "UnicodeDecodeError") "__new__" = pure (some (.builtin "UnicodeDecodeError.__new__")) := by rw [typeLookup_type, builtinLookup_eq_fast]; kernel_rfl
theorem ude_slot_init : Slot "UnicodeDecodeError" "__init__" "UnicodeDecodeError.__init__" :=
  .of (owner := "UnicodeDecodeError") (n := "__init__") (by rw [typeLookup_type, builtinLookup_eq_fast]; kernel_rfl) (by decide +kernel) (by decide +kernel) (by decide +kernel)
    (by first | exact .inl (by decide +kernel) | exact .inr (by decide +kernel)) (by rw [isSubtype_type]; kernel_rfl)
theorem ude_called : TypeCalled "UnicodeDecodeError" "UnicodeDecodeError.__new__" "UnicodeDecodeError.__init__" :=
  ⟨by decide +kernel, by decide +kernel, ⟨_, _, ude_mro⟩, madeBy_type ude_mro ude_lookup_new (by decide +kernel), by decide +kernel, by rw [isSubtype_type]; kernel_rfl, ude_slot_init⟩
theorem ude_typeCall (args : Args) : checkTypeCall "UnicodeDecodeError" args = pure () := by kernel_rfl
theorem ude_newCall (rest : List Value) : checkBuiltinCall "UnicodeDecodeError.__new__" ⟨.type "UnicodeDecodeError" :: rest, []⟩ = pure () := by kernel_rfl
theorem ude_plain_new : plainId "UnicodeDecodeError.__new__" = true := by decide +kernel
theorem ude_entry_init : entryFor table "UnicodeDecodeError.__init__" = some Builtin.«UnicodeDecodeError.__init__» := by first | exact entryFor_of_fast (by kernel_rfl) | exact entryFor_of_tree (by kernel_rfl)
theorem ude_args_init (a b c d f g : Value) : argsOk "UnicodeDecodeError.__init__" ⟨[a, b, c, d, f, g], []⟩ := by unfold argsOk; kernel_rfl
theorem ude_isExc : isSubtype (.type "UnicodeDecodeError") (.type "BaseException") = pure true := by rw [isSubtype_type]; kernel_rfl
theorem ude_self : isSubtype (.type "UnicodeDecodeError") (.type "UnicodeDecodeError") = pure true := by rw [isSubtype_type]; kernel_rfl
theorem ude_raise : ExcRaiseFacts "UnicodeDecodeError" where
  isExc := ude_isExc
  plainMeta := by kernel_rfl
end F
theorem sameBut_keep {e : Addr} {h h' : Heap} (hs : Heap.SameBut e h h') {k : Heap} (hk : ∀ b o, k.get? b = some o → h.get? b = some o) (hn : k.get? e = none) : ∀ b o, k.get? b = some o → h'.get? b = some o :=
  fun b o hb => (hs.2 b (fun q => by rw [q, hn] at hb; cases hb)).trans (hk b o hb)

section
variable {prog : Program} {w : World} {A : Around} {E : Value → Shared → Prop} {s : Shared}
open Builtin.UnicodeEncodeError in
theorem ude_init {e t0 : Addr} {enc reason : Str} {obj : Array UInt8} {i j : Int} {t1 t2 t3 t4 t5 : Tok} {k : Heap} {Q : Fin → Shared → Prop} (he : s.heap.get? e = some (udeObj #[.ref t0, .none, .none, .none, .bool false, .none])) (hk : ∀ b o, k.get? b = some o → s.heap.get? b = some o) (hn : k.get? e = none)
    (hi : -(2 ^ 62 : Int) ≤ i ∧ i < 2 ^ 62) (hj : -(2 ^ 62 : Int) ≤ j ∧ j < 2 ^ 62)
    (hQ : ∀ h' t, (∀ b o, k.get? b = some o → h'.get? b = some o) → h'.get? e = some (udeObj (udeVs (.ref t) .none .none .none (.bool false) .none { encoding := .str enc t1, object := .bytes obj t2, start := i, stop := j, reason := .str reason t5 })) → Q (.done (.ret .none)) { s with heap := h' }) :
    wpAny (model prog w) A (Builtin.«UnicodeDecodeError.__init__» ⟨[.ref e, .str enc t1, .bytes obj t2, .int i t3, .int j t4, .str reason t5], []⟩) Q E s := by
  unfold Builtin.«UnicodeDecodeError.__init__»
  dsimp only
  refine wpAny_bind ?_
  unfold beginInit
  dsimp only
  rw [if_neg (by decide)]
  refine wpAny_bind (wpAny_field he rfl rfl ?_)
  refine wpAny_bind (wpAny_newTuple ?_ (by show 5 ≤ sizeLine; decide))
  have he1 := Heap.get?_push_of_some (h := s.heap) { cls := .type "tuple", data := .seq [Value.str enc t1, .bytes obj t2, .int i t3, .int j t4, .str reason t5].toArray } he
  refine wpAny_bind (wpAny_setField he1 rfl (by show 0 < 6; decide) ?_)
  have hs2 := Heap.SameBut.update (s.heap.push { cls := .type "tuple", data := .seq [Value.str enc t1, .bytes obj t2, .int i t3, .int j t4, .str reason t5].toArray }) e (Obj.mapFields (·.setIfInBounds 0 (Value.ref s.heap.objs.size)))
  have he2 : _ = some (udeObj #[.ref s.heap.objs.size, .none, .none, .none, .bool false, .none]) := Heap.get?_update_self (Obj.mapFields (·.setIfInBounds 0 (Value.ref s.heap.objs.size))) he1 rfl
  have hk2 := sameBut_keep hs2 (k := k) (fun b o hb => Heap.get?_push_of_some _ (hk b o hb)) hn
  generalize (s.heap.push { cls := .type "tuple", data := .seq [Value.str enc t1, .bytes obj t2, .int i t3, .int j t4, .str reason t5].toArray }).update e (Obj.mapFields (·.setIfInBounds 0 (Value.ref s.heap.objs.size))) = h2 at he2 hk2
  generalize s.heap.objs.size = t at he2
  refine wpAny_bind (wpAny_letGo ?_)
  rw [if_pos (by decide)]
  refine wpAny_bind (ude_get0 he2 ?_)
  refine wpAny_bind (ude_set0 he2 fun h3 hs3 he3 => ?_)
  have hk3 := sameBut_keep hs3 hk2 hn
  refine wpAny_bind (wpAny_letGo ?_)
  refine wpAny_bind (ude_get he3 ?_)
  refine wpAny_bind (ude_set he3 fun h4 hs4 he4 => ?_)
  have hk4 := sameBut_keep hs4 hk3 hn
  refine wpAny_bind (wpAny_letGo ?_)
  refine wpAny_bind (ude_get he4 ?_)
  refine wpAny_bind (ude_set he4 fun h5 hs5 he5 => ?_)
  have hk5 := sameBut_keep hs5 hk4 hn
  refine wpAny_bind (wpAny_letGo ?_)
  rw [if_neg (by show ¬ ((5 != 5) = true); decide)]
  refine wpAny_pure ?_
  dsimp only
  refine wpAny_bind (wpAny_of_eq (a := ()) rfl ?_)
  refine wpAny_bind ?_
  unfold initRange
  have hsz : ∀ (x : Int) (tx : Tok), -(2 ^ 62 : Int) ≤ x ∧ x < 2 ^ 62 → sizeArgument "UnicodeDecodeError.__init__" (.int x tx) = pure x := by
    intro x tx hx
    show (if (decide (x < -(2 ^ 63 : Int)) || decide (x ≥ 2 ^ 63)) = true then _ else _) = _
    have : (decide (x < -(2 ^ 63 : Int)) || decide (x ≥ 2 ^ 63)) = false := by simp; omega
    rw [this]; rfl
  refine wpAny_bind (wpAny_of_eq (hsz i t3 hi) ?_)
  refine wpAny_bind (ude_get he5 ?_)
  refine wpAny_bind (ude_set he5 fun h6 hs6 he6 => ?_)
  have hk6 := sameBut_keep hs6 hk5 hn
  refine wpAny_bind (wpAny_of_eq (hsz j t4 hj) ?_)
  refine wpAny_bind (ude_get he6 ?_)
  refine ude_set he6 fun h7 hs7 he7 => ?_
  have hk7 := sameBut_keep hs7 hk6 hn
  refine wpAny_bind (wpAny_of_eq (a := ()) rfl ?_)
  refine wpAny_bind (wpAny_of_eq (a := some obj) rfl ?_)
  rw [if_pos (by rfl)]
  refine wpAny_bind (wpAny_pure ?_)
  rw [if_pos (by rfl)]
  refine wpAny_bind (wpAny_pure ?_)
  rw [if_neg (by show ¬ (false = true); decide)]
  refine wpAny_bind (ude_get he7 ?_)
  refine wpAny_bind (ude_set he7 fun h8 hs8 he8 => ?_)
  have hk8 := sameBut_keep hs8 hk7 hn
  exact wpAny_pure (hQ h8 t hk8 he8)

theorem call_ude {enc reason : Str} {obj : Array UInt8} {i j : Int} {t1 t2 t3 t4 t5 : Tok} {Q : Value → Shared → Prop} (hi : -(2 ^ 62 : Int) ≤ i ∧ i < 2 ^ 62) (hj : -(2 ^ 62 : Int) ≤ j ∧ j < 2 ^ 62)
    (hQ : ∀ h' e t, (∀ b o, s.heap.get? b = some o → h'.get? b = some o) → s.heap.get? e = none →
      h'.get? e = some (udeObj (udeVs (.ref t) .none .none .none (.bool false) .none { encoding := .str enc t1, object := .bytes obj t2, start := i, stop := j, reason := .str reason t5 })) → Q (.ref e) { s with heap := h' }) :
    wpAny (model prog w) A (call (.type "UnicodeDecodeError") [.str enc t1, .bytes obj t2, .int i t3, .int j t4, .str reason t5]) Q E s := by
  obtain ⟨hp, g, d, tk, os⟩ := s
  refine callType_codes (Q₁ := fun obj' s₁ => obj' = .ref (hp.objs.size + 1) ∧ s₁ = ⟨(hp.push { cls := .type "tuple", data := .seq [Value.str enc t1, .bytes obj t2, .int i t3, .int j t4, .str reason t5].toArray }).push (udeObj #[.ref hp.objs.size, .none, .none, .none, .bool false, .none]), g, d, tk, os⟩)
    F.ude_called (F.ude_typeCall _) F.ude_entry_init ?_ fun obj' s₁ h₁ => ?_
  · refine codeAny_of_tree ?_
    show wpAny _ _ (do checkBuiltinCall "UnicodeDecodeError.__new__" _; again (.builtin "UnicodeDecodeError.__new__" _)) _ _ _
    refine wpAny_bind (wpAny_of_eq (F.ude_newCall _) (wpAny_pure ⟨plainId_quiet F.ude_plain_new _, ?_⟩))
    exact codeAny_exc_new F.ude_new (h := ⟨rfl, rfl⟩) (by show 5 ≤ sizeLine; decide)
  · obtain ⟨rfl, rfl⟩ := h₁
    have hget : ((hp.push { cls := .type "tuple", data := .seq [Value.str enc t1, .bytes obj t2, .int i t3, .int j t4, .str reason t5].toArray }).push (udeObj #[.ref hp.objs.size, .none, .none, .none, .bool false, .none])).get? (hp.objs.size + 1) = some (udeObj #[.ref hp.objs.size, .none, .none, .none, .bool false, .none]) := by
      have := Heap.get?_push_size (hp.push { cls := .type "tuple", data := .seq [Value.str enc t1, .bytes obj t2, .int i t3, .int j t4, .str reason t5].toArray }) (o := udeObj #[.ref hp.objs.size, .none, .none, .none, .bool false, .none]) rfl
      rwa [Heap.size_push] at this
    refine ⟨⟨_, hget, rfl⟩, F.ude_args_init _ _ _ _ _ _, ?_⟩
    refine ude_init (k := hp) hget (fun b o hb => Heap.get?_push_of_some _ (Heap.get?_push_of_some _ hb)) (Heap.get?_none_of_le (Nat.le_succ _)) hi hj fun h' t hk he => ?_
    exact ⟨rfl, hQ h' _ t hk (Heap.get?_none_of_le (Nat.le_succ _)) he⟩
end
end Mine

set_option maxRecDepth 100000
namespace Mine

/-! ## an exception in flight -/
noncomputable abbrev Mem := Builtin.UnicodeEncodeError.Members
noncomputable def noHeap : Heap := default
theorem noHeap_get (b : Addr) : noHeap.get? b = none := by
  cases q : noHeap.get? b with
  | none => rfl
  | some o => exact absurd (Heap.lt_size q) (Nat.not_lt_zero b)
noncomputable abbrev fr (l : List Env) : List Addr := l.filterMap (·.frame)
noncomputable def TbIs (h₀ h : Heap) (e : Addr) : Option (Option Addr) → Value → Prop
  | none, v => v = .none
  | some fl, v => ∃ T ts, v = .ref T ∧ h₀.get? T = none ∧ T ≠ e ∧ h.get? T = some { cls := .type "traceback", data := .fields ts } ∧ ts[3]? = some (fl.elim .none fun L => rawInt L)
structure Ex (h₀ : Heap) (l : List Env) (e : Addr) (m : Mem) (tb : Option (Option Addr)) (h : Heap) : Prop where
  keep : ∀ b o, h₀.get? b = some o → b ∉ fr l → h.get? b = some o
  slots : ∀ b o, h₀.get? b = some o → ∃ sl, h.get? b = some { o with slots := sl }
  funf : h.FunFrames noHeap l
  new : h₀.get? e = none
  obj : ∃ t tbv ctx cs sup nt, h.get? e = some (udeObj (udeVs t tbv ctx cs sup nt m)) ∧ TbIs h₀ h e tb tbv
theorem Ex.mono {h₀ h₁ h : Heap} {l : List Env} {e : Addr} {m : Mem} {tb : Option (Option Addr)} (x : Ex h₁ l e m tb h) (hk : Kp h₀ h₁) : Ex h₀ l e m tb h where
  keep := fun b o hb hn => x.keep b o (hk b o hb) hn
  slots := fun b o hb => x.slots b o (hk b o hb)
  funf := x.funf
  new := by
    cases q : h₀.get? e with
    | none => rfl
    | some o => have := hk e o q; rw [x.new] at this; cases this
  obj := by
    obtain ⟨t, tbv, ctx, cs, sup, nt, h1, h2⟩ := x.obj
    refine ⟨t, tbv, ctx, cs, sup, nt, h1, ?_⟩
    cases tb with
    | none => exact h2
    | some fl =>
      obtain ⟨T, ts, a1, a2, a3, a4, a5⟩ := h2
      refine ⟨T, ts, a1, ?_, a3, a4, a5⟩
      cases q : h₀.get? T with
      | none => rfl
      | some o => have := hk T o q; rw [a2] at this; cases this

section
variable {M : Model} {A : Around} {E : Value → Shared → Prop} {s : Shared} {h₀ : Heap} {env : Env} {outer l : List Env} {e L : Addr} {m : Mem}

theorem ude_notFrame {h : Heap} {vs : Array Value} (hf : h.FunFrames noHeap l) (he : h.get? e = some (udeObj vs)) : e ∉ fr l := fun hm => by
  obtain ⟨_, o, ho, hnf⟩ := hf.mem hm
  rw [he] at ho; cases ho; exact hnf vs rfl
theorem tb_notFrame {h : Heap} {T : Addr} {ts : Array Value} (hf : h.FunFrames noHeap l) (hT : h.get? T = some { cls := .type "traceback", data := .fields ts }) : T ∉ fr l := fun hm => by
  obtain ⟨_, o, ho, hnf⟩ := hf.mem hm
  rw [hT] at ho; cases ho; exact hnf ts rfl
theorem funf_same {h h' : Heap} {b : Addr} {o : Obj} {vs : Array Value} (hf : h.FunFrames noHeap l) (hs : Heap.SameBut b h h') (hb : h.get? b = some o) (hd : o.data = .fields vs) : h'.FunFrames noHeap l :=
  hf.of_keeps fun c oc hc hnf => ⟨oc, (hs.2 c (fun q => by subst q; rw [hb] at hc; cases hc; exact hnf vs hd)).trans hc, rfl⟩

/-- the exception's flight is set -/
theorem setFlight_ex {fl fl' : Option Addr} {Q : Unit → Shared → Prop} (x : Ex h₀ l e m (some fl) s.heap) (h : ∀ h', Ex h₀ l e m (some fl') h' → Q () { s with heap := h' }) : wpAny M A (setFlight (.ref e) fl') Q E s := by
  obtain ⟨t, tbv, ctx, cs, sup, nt, he, T, ts, rfl, hT0, hTe, hT, h3⟩ := x.obj
  unfold setFlight
  refine wpAny_bind (wpAny_field he rfl rfl ?_)
  rw [if_pos (by show (Value.ref T != Value.none) = true; simp)]
  have hsz : 3 < ts.size := (Array.getElem?_eq_some_iff.mp h3).1
  refine wpAny_setField hT rfl hsz (h _ ?_)
  have hs := Heap.SameBut.update s.heap T (Obj.mapFields (·.setIfInBounds 3 (fl'.elim .none fun f => rawInt f)))
  have hTn := tb_notFrame x.funf hT
  refine ⟨fun b o hb hn => (hs.2 b (fun q => by rw [q, hT0] at hb; cases hb)).trans (x.keep b o hb hn), fun b o hb => ?_, funf_same x.funf hs hT rfl, x.new, t, _, ctx, cs, sup, nt, (hs.2 e (Ne.symm hTe)).trans he, T, _, rfl, hT0, hTe, Heap.get?_update_self _ hT rfl, ?_⟩
  · obtain ⟨sl, hsl⟩ := x.slots b o hb
    exact ⟨sl, (hs.2 b (fun q => by rw [q, hT0] at hb; cases hb)).trans hsl⟩
  · simp [hsz]

/-- a frame is noted anew -/
theorem note_entry {head : Value} {hadNext : Bool} {tb : Option (Option Addr)} {Q : Unit → Shared → Prop} (hfr : A.frames = some (env :: outer)) (hL : env.frame = some L) (x : Ex h₀ (env :: outer) e m tb s.heap)
    (h : ∀ h', Ex h₀ (env :: outer) e m (some (some L)) h' → Q () { s with heap := h' }) :
    wpAny M A (do let a ← frameOf env; let pl ← entryPlaceOf L hadNext; let b ← EntryCells.newEntry head a .none (rawInt L) .none pl; setField (.ref e) 1 b) Q E s := by
  obtain ⟨t, tbv, ctx, cs, sup, nt, he, _⟩ := x.obj
  have hen := ude_notFrame x.funf he
  refine wpAny_bind (wpAny_frameOf_fun hfr x.funf hL fun h₁ hs₁ => ?_)
  refine wpAny_bind (wpAny_entryPlaceOf fun pl hpl => ?_)
  unfold EntryCells.newEntry newFields
  refine wpAny_bind (wpAny_newObj_type ?_ (hpl.sizeOk5 _ _ _ _ _))
  have he₁ : h₁.get? e = some (udeObj (udeVs t tbv ctx cs sup nt m)) := (hs₁.2.1 e hen).trans he
  have he₂ := Heap.get?_push_of_some (h := h₁) { cls := .type "traceback", dict := none, data := .fields ([head, .ref L, .none, rawInt L, .none] ++ (if pl.isEmpty then List.replicate 6 Value.none else pl)).toArray } he₁
  refine wpAny_setField he₂ rfl (by show 1 < 11; decide) (h _ ?_)
  have hs₃ := Heap.SameBut.update (h₁.push { cls := .type "traceback", dict := none, data := .fields ([head, .ref L, .none, rawInt L, .none] ++ (if pl.isEmpty then List.replicate 6 Value.none else pl)).toArray }) e (Obj.mapFields (·.setIfInBounds 1 (Value.ref h₁.objs.size)))
  have hTe : h₁.objs.size ≠ e := Nat.ne_of_gt (Heap.lt_size he₁)
  have hgo : ∀ b o, b ≠ e → h₁.get? b = some o → ((h₁.push { cls := .type "traceback", dict := none, data := .fields ([head, .ref L, .none, rawInt L, .none] ++ (if pl.isEmpty then List.replicate 6 Value.none else pl)).toArray }).update e (Obj.mapFields (·.setIfInBounds 1 (Value.ref h₁.objs.size)))).get? b = some o :=
    fun b o hb ho => (hs₃.2 b hb).trans (Heap.get?_push_of_some _ ho)
  refine ⟨fun b o hb hn => hgo b o (fun q => by rw [q, x.new] at hb; cases hb) ((hs₁.2.1 b hn).trans (x.keep b o hb hn)), fun b o hb => ?_, ?_, x.new, t, .ref h₁.objs.size, ctx, cs, sup, nt, Heap.get?_update_self _ he₂ rfl, h₁.objs.size, _, rfl, ?_, hTe, (hs₃.2 _ hTe).trans (Heap.get?_push_size _ rfl), ?_⟩
  · obtain ⟨sl, hsl⟩ := x.slots b o hb
    obtain ⟨sl', hsl'⟩ := hs₁.2.2 b _ hsl
    exact ⟨sl', hgo b _ (fun q => by rw [q, x.new] at hb; cases hb) hsl'⟩
  · have f1 : h₁.FunFrames noHeap (env :: outer) := x.funf.of_slotsOnly hs₁
    refine f1.of_keeps fun c oc hc hnf => ⟨oc, hgo c oc (fun q => ?_) hc, rfl⟩
    subst q; rw [he₁] at hc; cases hc; exact hnf _ rfl
  · cases q : h₀.get? h₁.objs.size with
    | none => rfl
    | some o =>
      obtain ⟨sl, hsl⟩ := x.slots _ o q
      have := Heap.lt_size hsl
      rw [← hs₁.1] at this
      exact absurd this (Nat.lt_irrefl _)
  · rcases hpl with rfl | ⟨_, _, _, _, _, _, _, rfl⟩ <;> simp
theorem note_ex {tb : Option (Option Addr)} {Q : Unit → Shared → Prop} (hfr : A.frames = some (env :: outer)) (hL : env.frame = some L) (x : Ex h₀ (env :: outer) e m tb s.heap) (htb : tb = none ∨ tb = some none ∨ tb = some (some L))
    (h : ∀ h', Ex h₀ (env :: outer) e m (some (some L)) h' → Q () { s with heap := h' }) : wpAny M A (noteFrame (.ref e) env) Q E s := by
  obtain ⟨t, tbv, ctx, cs, sup, nt, he, htv⟩ := id x.obj
  unfold noteFrame
  simp only [hL]
  refine wpAny_bind (wpAny_field he rfl rfl ?_)
  rcases htb with rfl | rfl | rfl
  · have : tbv = .none := htv
    subst this
    rw [if_neg (by show ¬ ((Value.none != Value.none) = true); decide)]
    exact note_entry hfr hL x h
  · obtain ⟨T, ts, rfl, hT0, hTe, hT, h3⟩ := htv
    rw [if_pos (by show (Value.ref T != Value.none) = true; simp)]
    have hsz : 3 < ts.size := (Array.getElem?_eq_some_iff.mp h3).1
    refine wpAny_bind (wpAny_field hT rfl h3 ?_)
    rw [if_neg (by show ¬ ((Value.none == rawInt L) = true); simp [rawInt])]
    refine wpAny_bind (wpAny_setField hT rfl hsz ?_)
    have hs := Heap.SameBut.update s.heap T (Obj.mapFields (·.setIfInBounds 3 Value.none))
    have x' : Ex h₀ (env :: outer) e m (some none) (s.heap.update T (Obj.mapFields (·.setIfInBounds 3 Value.none))) := by
      refine ⟨fun b o hb hn => (hs.2 b (fun q => by rw [q, hT0] at hb; cases hb)).trans (x.keep b o hb hn), fun b o hb => ?_, funf_same x.funf hs hT rfl, x.new, t, _, ctx, cs, sup, nt, (hs.2 e (Ne.symm hTe)).trans he, T, _, rfl, hT0, hTe, Heap.get?_update_self _ hT rfl, ?_⟩
      · obtain ⟨sl, hsl⟩ := x.slots b o hb
        exact ⟨sl, (hs.2 b (fun q => by rw [q, hT0] at hb; cases hb)).trans hsl⟩
      · simp [hsz]
    exact note_entry (s := { s with heap := s.heap.update T (Obj.mapFields (·.setIfInBounds 3 Value.none)) }) hfr hL x' h
  · obtain ⟨T, ts, rfl, hT0, hTe, hT, h3⟩ := htv
    rw [if_pos (by show (Value.ref T != Value.none) = true; simp)]
    refine wpAny_bind (wpAny_field hT rfl h3 ?_)
    rw [if_pos (by show (rawInt L == rawInt L) = true; exact beq_self_eq_true _)]
    exact wpAny_pure (h s.heap x)
theorem leaving_ex {tb : Option (Option Addr)} {Q : Unit → Shared → Prop} (hfr : A.frames = some (env :: outer)) (hL : env.frame = some L) (x : Ex h₀ (env :: outer) e m tb s.heap) (htb : tb = none ∨ tb = some none ∨ tb = some (some L))
    (h : ∀ h', Ex h₀ (env :: outer) e m (some none) h' → Q () { s with heap := h' }) : wpAny M A (leaving env (.ref e)) Q E s := by
  unfold leaving
  exact wpAny_bind (note_ex hfr hL x htb fun h₁ x₁ => setFlight_ex (s := { s with heap := h₁ }) x₁ h)
/-- through a loop of the frame's own -/
theorem noted_ex {tb : Option (Option Addr)} {E' : Value → Shared → Prop} (hfr : A.frames = some (env :: outer)) (hL : env.frame = some L) (x : Ex h₀ (env :: outer) e m tb s.heap) (htb : tb = none ∨ tb = some none ∨ tb = some (some L))
    (h : ∀ h', Ex h₀ (env :: outer) e m (some (some L)) h' → E' (.ref e) { s with heap := h' }) : noted M A env E' (.ref e) s :=
  toR (note_ex hfr hL x htb h)
theorem backBy_ex {E' : Value → Shared → Prop} (hL : env.frame = some L) (x : Ex h₀ (env :: outer) e m (some (some L)) s.heap)
    (h : ∀ h', Ex h₀ (env :: outer) e m (some (some L)) h' → E' (.ref e) { s with heap := h' }) : backBy M A env E' (.ref e) s := by
  obtain ⟨t, tbv, ctx, cs, sup, nt, he, htv⟩ := id x.obj
  obtain ⟨T, ts, rfl, hT0, hTe, hT, h3⟩ := htv
  unfold backBy
  refine toR (wpAny_bind (wpAny_field he rfl rfl ?_))
  rw [if_neg (by show ¬ ((Value.ref T == Value.none) = true); simp)]
  rw [hL]
  exact setFlight_ex x h
end
end Mine

set_option maxRecDepth 100000
namespace Mine
/-! ## an int by sixteens in a text -/
end Mine

set_option maxRecDepth 100000
namespace Mine

/-! ## statements that may raise a UnicodeDecodeError -/
noncomputable def MemIs (enc : List Nat) (obj : List UInt8) (i j : Int) (reason : List Nat) (m : Mem) : Prop :=
  ∃ t1 t2 t5, m = { encoding := .str ⟨enc.toArray⟩ t1, object := .bytes obj.toArray t2, start := i, stop := j, reason := .str ⟨reason.toArray⟩ t5 }

noncomputable def TbOk (L : Addr) (tb : Option (Option Addr)) : Prop := tb = none ∨ tb = some none ∨ tb = some (some L)

noncomputable def XsE (Γ : Cx) (k : Nat) (sc : Scope) (σ : Loc) (μ : Own) (sts : List Stmt) (P : Fl → Loc → Own → Prop) (PE : Mem → Prop) : Prop :=
  ∀ (A : Around) (n : Nat) (F : Fm) (h₀ : Heap) (s : Shared) (Q : Flow → Shared → Prop) (E : Value → Shared → Prop) (outer : List Env), n + k ≤ 8 → Lv n A → A.frames = some (F.env sc :: outer) → F.fr = some F.L → h₀.FunFrames noHeap outer → Sx Γ h₀ sc F σ μ s →
    (∀ fl σ' μ' f s', P fl σ' μ' → Sx Γ h₀ sc F σ' μ' s' → Sp F μ μ' s s' → FlV (Dm F μ') s'.heap fl f → Q f s') →
    (∀ m e tb s', PE m → Ex h₀ (F.env sc :: outer) e m tb s'.heap → TbOk F.L tb → s'.gens = s.gens → s'.os = s.os → E (.ref e) s') → wpR Γ.M A (execs sts (F.env sc)) Q E s
noncomputable def X1E (Γ : Cx) (k : Nat) (sc : Scope) (σ : Loc) (μ : Own) (st : Stmt) (P : Fl → Loc → Own → Prop) (PE : Mem → Prop) : Prop :=
  ∀ (A : Around) (n : Nat) (F : Fm) (h₀ : Heap) (s : Shared) (Q : Flow → Shared → Prop) (E : Value → Shared → Prop) (outer : List Env), n + k ≤ 8 → Lv n A → A.frames = some (F.env sc :: outer) → F.fr = some F.L → h₀.FunFrames noHeap outer → Sx Γ h₀ sc F σ μ s →
    (∀ fl σ' μ' f s', P fl σ' μ' → Sx Γ h₀ sc F σ' μ' s' → Sp F μ μ' s s' → FlV (Dm F μ') s'.heap fl f → Q f s') →
    (∀ m e tb s', PE m → Ex h₀ (F.env sc :: outer) e m tb s'.heap → TbOk F.L tb → s'.gens = s.gens → s'.os = s.os → E (.ref e) s') → wpR Γ.M A (exec st (F.env sc)) Q E s
noncomputable def WhE (Γ : Cx) (k : Nat) (sc : Scope) (σ : Loc) (μ : Own) (test : Expr) (body orelse : List Stmt) (P : Fl → Loc → Own → Prop) (PE : Mem → Prop) : Prop :=
  ∀ (A : Around) (n : Nat) (F : Fm) (h₀ : Heap) (s : Shared) (R : Result → Shared → Prop) (outer : List Env), n + k ≤ 8 → Lv n A → A.frames = some (F.env sc :: outer) → F.fr = some F.L → h₀.FunFrames noHeap outer → Sx Γ h₀ sc F σ μ s →
    (∀ fl σ' μ' f s', P fl σ' μ' → Sx Γ h₀ sc F σ' μ' s' → Sp F μ μ' s s' → FlV (Dm F μ') s'.heap fl f → R (.ok f) s') →
    (∀ m e s', PE m → Ex h₀ (F.env sc :: outer) e m (some (some F.L)) s'.heap → s'.gens = s.gens → s'.os = s.os → R (.error (.ref e)) s') → codeR Γ.M A (.whileLoop test body orelse (F.env sc)) R s

section
variable {Γ : Cx} {k : Nat} {sc : Scope} {σ σ' : Loc} {μ : Own} {pos : Pos} {P : Fl → Loc → Own → Prop} {PE : Mem → Prop}

theorem XsE.of {sts : List Stmt} (h : Xs Γ k sc σ μ sts P) : XsE Γ k sc σ μ sts P PE := fun A n F h₀ s Q E outer hn hA _ _ _ X hQ _ => h A n F h₀ s Q E hn hA X hQ
theorem X1E.of {st : Stmt} (h : X1 Γ k sc σ μ st P) : X1E Γ k sc σ μ st P PE := fun A n F h₀ s Q E outer hn hA _ _ _ X hQ _ => h A n F h₀ s Q E hn hA X hQ
theorem XsE.cons {st : Stmt} {rest : List Stmt} (h : X1E Γ k sc σ μ st (fun fl σ' μ' => match fl with | .next => XsE Γ k sc σ' μ' rest P PE | fl => P fl σ' μ') PE) : XsE Γ k sc σ μ (st :: rest) P PE := by
  intro A n F h₀ s Q E outer hn hA hfr hL hff X hQ hE
  refine wpR_execs_cons (h A n F h₀ s _ _ outer hn hA hfr hL hff X (fun fl σ' μ' f s' hP X' sp hf => ?_) hE)
  cases fl with
  | next =>
    have : f = .next := hf
    subst this
    exact hP A n F h₀ s' _ _ outer hn hA hfr hL hff X' (fun fl2 σ2 μ2 f2 s2 hP2 X2 sp2 hf2 => hQ fl2 σ2 μ2 f2 s2 hP2 X2 (sp.trans sp2) hf2)
      fun m e tb s2 hm hx ht g1 g2 => hE m e tb s2 hm hx ht (g1.trans sp.gens) (g2.trans sp.os)
  | brk => have : f = .brk := hf; subst this; exact hQ _ _ _ _ _ hP X' sp rfl
  | cont => have : f = .cont := hf; subst this; exact hQ _ _ _ _ _ hP X' sp rfl
  | ret v =>
    obtain ⟨val, rfl, hv⟩ := hf
    exact hQ _ _ _ _ _ hP X' sp ⟨val, rfl, hv⟩
theorem WhE.sub {t : Expr} {body orelse : List Stmt} (h : Sub σ σ') (hx : WhE Γ k sc σ' μ t body orelse P PE) : WhE Γ k sc σ μ t body orelse P PE :=
  fun A n F h₀ s R outer hn hA hfr hL hff X hR hE => hx A n F h₀ s R outer hn hA hfr hL hff (X.less h.to) hR hE
theorem X1E.while {t : Expr} {body orelse : List Stmt} (h : WhE Γ k sc σ μ t body orelse P PE) : X1E Γ k sc σ μ (.While t body orelse pos) P PE := by
  intro A n F h₀ s Q E outer hn hA hfr hL hff X hQ hE
  refine wpR_While (h A n F h₀ s _ outer hn hA hfr hL hff X (fun fl σ' μ' f s' hP X' sp hf => hQ fl σ' μ' f s' hP X' sp hf) fun m e s' hm hx g1 g2 => ?_)
  exact backBy_ex (env := F.env sc) (outer := outer) hL hx fun h' x' => hE m e _ _ hm x' (.inr (.inr rfl)) g1 g2
theorem WhE.step {t : Expr} {body orelse : List Stmt} {c : Bool} (ht : Tr Γ k sc σ μ t c)
    (h1 : c = true → XsE Γ k sc σ μ body (fun fl σ' μ' => match fl with | .next | .cont => WhE Γ k sc σ' μ' t body orelse P PE | .brk => P .next σ' μ' | .ret v => P (.ret v) σ' μ') PE)
    (h2 : c = false → XsE Γ k sc σ μ orelse P PE) : WhE Γ k sc σ μ t body orelse P PE := by
  intro A n F h₀ s R outer hn hA hfr hL hff X hR hE
  refine codeR_while1 (ht A n F s _ _ hn hA X.toSt fun s₁ g => ?_)
  have hE' : ∀ m e tb s', PE m → Ex h₀ (F.env sc :: outer) e m tb s'.heap → TbOk F.L tb → s'.gens = s₁.gens → s'.os = s₁.os → noted Γ.M A (F.env sc) (fun e s' => R (.error e) s') (.ref e) s' :=
    fun m e tb s' a b c g1 g2 => noted_ex (outer := outer) hfr hL b c fun h' x' => hE m e _ a x' (g1.trans g.gens) (g2.trans g.os)
  cases c with
  | true =>
    refine h1 rfl A n F h₀ s₁ _ _ outer hn hA hfr hL hff (X.grow g) (fun fl σ' μ' f s' hP X' sp hf => ?_) hE'
    have sp' := (Sp.gr g).trans sp
    have next : WhE Γ k sc σ' μ' t body orelse P PE → codeR Γ.M A (.whileLoop t body orelse (F.env sc)) R s' := fun hw =>
      hw A n F h₀ s' R outer hn hA hfr hL hff X' (fun fl2 σ2 μ2 f2 s2 hP2 X2 sp2 hf2 => hR fl2 σ2 μ2 f2 s2 hP2 X2 (sp'.trans sp2) hf2) fun m e s2 hm hx g1 g2 => hE m e s2 hm hx (g1.trans sp'.gens) (g2.trans sp'.os)
    cases fl with
    | next => have : f = .next := hf; subst this; exact next hP
    | cont => have : f = .cont := hf; subst this; exact next hP
    | brk => have : f = .brk := hf; subst this; exact hR .next σ' μ' _ s' hP X' sp' rfl
    | ret v => obtain ⟨val, rfl, hv⟩ := hf; exact hR (.ret v) σ' μ' _ s' hP X' sp' ⟨val, rfl, hv⟩
  | false => exact h2 rfl A n F h₀ s₁ _ _ outer hn hA hfr hL hff (X.grow g) (fun fl σ' μ' f s' hP X' sp hf => hR fl σ' μ' f s' hP X' ((Sp.gr g).trans sp) hf) hE'

/-! ### raise -/
theorem Sx.funf {F : Fm} {h₀ : Heap} {s : Shared} {outer : List Env} {h' : Heap} (X : Sx Γ h₀ sc F σ μ s) (hk : sc.kind = .function) (hL : F.fr = some F.L) (hff : h₀.FunFrames noHeap outer) (hg : Kp s.heap h') : h'.FunFrames noHeap (F.env sc :: outer) := by
  obtain ⟨m, hn, _⟩ := X.ns
  refine Heap.FunFrames.cons (m := m) (by show sc.kind ≠ .module; rw [hk]; decide) hL (hn.keeps hg) (noHeap_get _) (hff.of_keeps fun b o hb _ => ⟨o, hg b o (X.keep b o hb), rfl⟩)

/-! ### f'..{i:x}' -/
end
end Mine

set_option maxRecDepth 100000
namespace Mine
/-! ## the members of a UnicodeDecodeError, read -/
namespace F
theorem md_get : Slot "member_descriptor" "__get__" "member_descriptor.__get__" :=
  .of (owner := "member_descriptor") (n := "__get__") (by rw [typeLookup_type, builtinLookup_eq_fast]; kernel_rfl) (by decide +kernel) (by decide +kernel) (by decide +kernel)
    (by first | exact .inl (by decide +kernel) | exact .inr (by decide +kernel)) (by rw [isSubtype_type]; kernel_rfl)
theorem md_set : Slot "member_descriptor" "__set__" "member_descriptor.__set__" :=
  .of (owner := "member_descriptor") (n := "__set__") (by rw [typeLookup_type, builtinLookup_eq_fast]; kernel_rfl) (by decide +kernel) (by decide +kernel) (by decide +kernel)
    (by first | exact .inl (by decide +kernel) | exact .inr (by decide +kernel)) (by rw [isSubtype_type]; kernel_rfl)
theorem md_entry : entryFor table "member_descriptor.__get__" = some Builtin.«member_descriptor.__get__» := by first | exact entryFor_of_fast (by kernel_rfl) | exact entryFor_of_tree (by kernel_rfl)
theorem md_args (a b c : Value) : argsOk "member_descriptor.__get__" ⟨[a, b, c], []⟩ := by unfold argsOk; kernel_rfl
theorem ude_ga : Slot "UnicodeDecodeError" "__getattribute__" "BaseException.__getattribute__" :=
  .of (owner := "BaseException") (n := "__getattribute__") (by rw [typeLookup_type, builtinLookup_eq_fast]; kernel_rfl) (by decide +kernel) (by decide +kernel) (by decide +kernel)
    (by first | exact .inl (by decide +kernel) | exact .inr (by decide +kernel)) (by rw [isSubtype_type]; kernel_rfl)
end F
structure UMem (n : Str) (id : String) (B : Builtin) : Prop where
  lk : typeLookup (.type "UnicodeDecodeError") n = pure (some (.builtin id))
  ty : typeOf (.builtin id) = pure (.type "member_descriptor")
  entry : entryFor table id = some B
  owner : (".".intercalate (id.cutAt '.').dropLast) = "UnicodeDecodeError"
  quiet : plainId id = true
namespace F
theorem u_object : UMem "object" "UnicodeDecodeError.object" Builtin.«UnicodeDecodeError.object» where
  lk := by rw [typeLookup_type, builtinLookup_eq_fast]; kernel_rfl
  ty := by show builtinType _ = _; rw [builtinType_eq_fast]; kernel_rfl
  entry := by first | exact entryFor_of_fast (by kernel_rfl) | exact entryFor_of_tree (by kernel_rfl)
  owner := by
    have e0 : "UnicodeDecodeError.object".cutAt '.' = ["UnicodeDecodeError", "object"] := by first | rfl | decide +kernel
    rw [e0]; decide +kernel
  quiet := by decide +kernel
theorem u_start : UMem "start" "UnicodeDecodeError.start" Builtin.«UnicodeDecodeError.start» where
  lk := by rw [typeLookup_type, builtinLookup_eq_fast]; kernel_rfl
  ty := by show builtinType _ = _; rw [builtinType_eq_fast]; kernel_rfl
  entry := by first | exact entryFor_of_fast (by kernel_rfl) | exact entryFor_of_tree (by kernel_rfl)
  owner := by
    have e0 : "UnicodeDecodeError.start".cutAt '.' = ["UnicodeDecodeError", "start"] := by first | rfl | decide +kernel
    rw [e0]; decide +kernel
  quiet := by decide +kernel
theorem u_end : UMem "end" "UnicodeDecodeError.end" Builtin.«UnicodeDecodeError.end» where
  lk := by rw [typeLookup_type, builtinLookup_eq_fast]; kernel_rfl
  ty := by show builtinType _ = _; rw [builtinType_eq_fast]; kernel_rfl
  entry := by first | exact entryFor_of_fast (by kernel_rfl) | exact entryFor_of_tree (by kernel_rfl)
  owner := by
    have e0 : "UnicodeDecodeError.end".cutAt '.' = ["UnicodeDecodeError", "end"] := by first | rfl | decide +kernel
    rw [e0]; decide +kernel
  quiet := by decide +kernel
end F
section
variable {prog : Program} {w : World} {A : Around} {E : Value → Shared → Prop} {h : Heap} {g : Array GenState} {d : Drawn} {t : Nat} {os : OsState} {a : Addr} {vs : Array Value} {r : Value} {n : Str} {id : String} {B : Builtin} {t' : Nat}

theorem u_get {R : Result → Shared → Prop} (FX : UMem n id B) (hx : h.get? a = some (udeObj vs))
    (hq : wpAny (model prog w) A.in1 (B ⟨[.ref a], []⟩) (fun fin s' => match fin with | .done f => R (.ok f) s' | .again c' => c'.quiet = true ∧ codeAny (model prog w) A c' R s') (fun e s' => R (.error e) s') ⟨h, g, d, t, os⟩) :
    codeAny (model prog w) A (.call (.builtin "member_descriptor.__get__") ⟨[.builtin id, .ref a, .type "UnicodeDecodeError"], []⟩) R ⟨h, g, d, t, os⟩ := by
  have hT : (⟨h, g, d, t, os⟩ : Shared).TypeIs (.ref a) "UnicodeDecodeError" := ⟨_, hx, rfl⟩
  have hT5 : (⟨h, g, d, t, os⟩ : Shared).TypeIs (.builtin id) "member_descriptor" := FX.ty
  have f8 : isSubtype (.type "UnicodeDecodeError") (.type (".".intercalate (id.cutAt '.').dropLast)) = pure true := by rw [FX.owner]; exact F.ude_self
  refine codeAny_call_builtin F.md_get.plain F.md_entry (F.md_get.check _ _ _ _ _ _ _ _ hT5 (F.md_args _ _ _) ?_)
  repeat (any_goals (first | assumption | wp_step))
  refine ⟨plainId_quiet FX.quiet _, codeAny_builtin FX.entry ?_⟩
  rw [Around.under_plainId FX.quiet _]
  exact hq

theorem u_entry {tk : Tok} {Q : Fin → Shared → Prop} (FX : UMem n id B) (hx : h.get? a = some (udeObj vs)) (hB : ∀ (A : Around) (Q : Fin → Shared → Prop) (E : Value → Shared → Prop), Q (.done (.ret r)) ⟨h, g, d, t', os⟩ → wpAny (model prog w) A (B ⟨[.ref a], []⟩) Q E ⟨h, g, d, t, os⟩) (hnd : (r == doubtfulMember) = false)
    (hq : Q (.done (.ret r)) ⟨h, g, d, t', os⟩) :
    wpAny (model prog w) A (Builtin.«object.__getattribute__» ⟨[.ref a, .str n tk], []⟩) Q E ⟨h, g, d, t, os⟩ := by
  have hT : (⟨h, g, d, t, os⟩ : Shared).TypeIs (.ref a) "UnicodeDecodeError" := ⟨_, hx, rfl⟩
  have hT5 : (⟨h, g, d, t, os⟩ : Shared).TypeIs (.builtin id) "member_descriptor" := FX.ty
  have f4 := FX.lk
  have f5 := FX.ty
  have f6 := F.md_get.lookup
  have f7 := F.md_set.lookup
  repeat (any_goals (first | assumption | wp_step))
  refine u_get FX hx (hB _ _ _ ?_)
  repeat (any_goals (first | assumption | wp_step))

theorem u_call {tk : Tok} {R : Result → Shared → Prop} (FX : UMem n id B) (hx : h.get? a = some (udeObj vs)) (hB : ∀ (A : Around) (Q : Fin → Shared → Prop) (E : Value → Shared → Prop), Q (.done (.ret r)) ⟨h, g, d, t', os⟩ → wpAny (model prog w) A (B ⟨[.ref a], []⟩) Q E ⟨h, g, d, t, os⟩) (hnd : (r == doubtfulMember) = false)
    (hq : R (.ok (.ret r)) ⟨h, g, d, t', os⟩) :
    codeAny (model prog w) A (.call (.builtin "BaseException.__getattribute__") ⟨[.ref a, .str n tk], []⟩) R ⟨h, g, d, t, os⟩ :=
  codeAny_call_builtin F.ude_ga.plain PySem.F.entry_bexc_ga (F.ude_ga.check _ _ _ _ _ _ _ _ (show (⟨h, g, d, t, os⟩ : Shared).TypeIs (.ref a) "UnicodeDecodeError" from ⟨_, hx, rfl⟩) (PySem.F.args_bexc_ga _ _) (u_entry FX hx hB hnd hq))

theorem u_by {tk : Tok} {fill expr : Bool} {Q : Value → Shared → Prop} (FX : UMem n id B) (hx : h.get? a = some (udeObj vs)) (hB : ∀ (A : Around) (Q : Fin → Shared → Prop) (E : Value → Shared → Prop), Q (.done (.ret r)) ⟨h, g, d, t', os⟩ → wpAny (model prog w) A (B ⟨[.ref a], []⟩) Q E ⟨h, g, d, t, os⟩) (hnd : (r == doubtfulMember) = false)
    (hr : ∀ b, r ≠ .builtin b) (hq : Q r ⟨h, g, d, t', os⟩) : wpAny (model prog w) A (getAttrBy (.ref a) (.str n tk) fill expr) Q E ⟨h, g, d, t, os⟩ := by
  have hT : (⟨h, g, d, t, os⟩ : Shared).TypeIs (.ref a) "UnicodeDecodeError" := ⟨_, hx, rfl⟩
  have f2 := F.ude_ga.lookup
  have f3 := F.ude_ga.bind (.ref a)
  have hx0 : (expr && onTheHeap (Value.builtin "BaseException.__getattribute__")) = false := by cases expr <;> rfl
  repeat (any_goals (first | assumption | wp_step))
  refine u_call FX hx hB hnd ?_
  repeat (any_goals (first | assumption | wp_step))
  cases r with
  | builtin b => exact absurd rfl (hr b)
  | _ => exact wpAny_pure hq

theorem u_attr {expr : Bool} {Q : Value → Shared → Prop} (FX : UMem n id B) (hx : h.get? a = some (udeObj vs)) (hB : ∀ (A : Around) (Q : Fin → Shared → Prop) (E : Value → Shared → Prop), Q (.done (.ret r)) ⟨h, g, d, t', os⟩ → wpAny (model prog w) A (B ⟨[.ref a], []⟩) Q E ⟨h, g, d, t + 1, os⟩) (hnd : (r == doubtfulMember) = false)
    (hr : ∀ b, r ≠ .builtin b) (hq : Q r ⟨h, g, d, t', os⟩) : wpAny (model prog w) A (getAttr (.ref a) n expr) Q E ⟨h, g, d, t, os⟩ := by
  unfold getAttr
  repeat (any_goals (first | assumption | with_reducible apply u_by FX hx hB hnd hr | wp_step))
end
section
variable {prog : Program} {w : World} {A : Around} {E : Value → Shared → Prop} {s : Shared} {a : Addr} {t tb ctx cs sup nt : Value} {m : Mem} {expr : Bool}
open Builtin.UnicodeEncodeError in
theorem objectGet_ude {id : String} {get : Mem → Value} {Q : Fin → Shared → Prop} (he : s.heap.get? a = some (udeObj (udeVs t tb ctx cs sup nt m))) (hu : isUnset (get m) = false) (h : Q (.done (.ret (get m))) s) : wpAny (model prog w) A (objectGet id get ⟨[.ref a], []⟩) Q E s := by
  unfold objectGet
  refine wpAny_bind (ude_get he ?_)
  dsimp only
  rw [hu]
  exact wpAny_pure h
open Builtin.UnicodeEncodeError in
theorem sizeGet_ude {id : String} {get : Mem → Int} {Q : Fin → Shared → Prop} (he : s.heap.get? a = some (udeObj (udeVs t tb ctx cs sup nt m))) (h : Q (.done (.ret (.int (get m) s.toks))) { s with toks := s.toks + 1 }) : wpAny (model prog w) A (sizeGet id get ⟨[.ref a], []⟩) Q E s := by
  unfold sizeGet
  refine wpAny_bind (ude_get he ?_)
  unfold retInt
  exact wpAny_bind (wpAny_mkInt (wpAny_pure h))
end

section
variable {prog : Program} {w : World} {A : Around} {E : Value → Shared → Prop} {s : Shared} {a : Addr} {t tb ctx cs sup nt : Value} {m : Mem} {expr : Bool}
theorem attr_bytes {n : Str} {id : String} {get : Mem → Value} {x : Array UInt8} {tx : Tok} {Q : Value → Shared → Prop} (FX : UMem n id (Builtin.UnicodeEncodeError.objectGet id get)) (he : s.heap.get? a = some (udeObj (udeVs t tb ctx cs sup nt m))) (hg : get m = .bytes x tx)
    (h : ∀ k, Q (.bytes x tx) { s with toks := k }) : wpAny (model prog w) A (getAttr (.ref a) n expr) Q E s := by
  obtain ⟨hp, g, d, tk, os⟩ := s
  refine u_attr (r := .bytes x tx) (t' := tk + 1) FX he (fun A Q E hq => objectGet_ude (s := ⟨hp, g, d, tk + 1, os⟩) he (by rw [hg]; rfl) (by rw [hg]; exact hq)) rfl (fun b q => nomatch q) (h _)
theorem attr_int {n : Str} {id : String} {get : Mem → Int} {Q : Value → Shared → Prop} (FX : UMem n id (Builtin.UnicodeEncodeError.sizeGet id get)) (he : s.heap.get? a = some (udeObj (udeVs t tb ctx cs sup nt m)))
    (h : ∀ tx k, Q (.int (get m) tx) { s with toks := k }) : wpAny (model prog w) A (getAttr (.ref a) n expr) Q E s := by
  obtain ⟨hp, g, d, tk, os⟩ := s
  refine u_attr (r := .int (get m) (tk + 1)) (t' := tk + 1 + 1) FX he (fun A Q E hq => sizeGet_ude (s := ⟨hp, g, d, tk + 1, os⟩) he hq) ?_ (fun b q => nomatch q) (h _ _)
  simp [doubtfulMember, rawInt]
end
end Mine

set_option maxRecDepth 100000
namespace Mine
section
variable {Γ : Cx} {k : Nat}

/-- into a plain def of the text -/
theorem call_enter {a : Addr} {name : Str} {params : Arguments} {body : List Stmt} {scope : Scope} {args : List PV} (h : DefAt Γ a name (params, body, scope))
    (hbind : ∀ (pm cd doc : Value) (vals : List Value), vals.length = args.length → bindArgs (docDef name params body scope pm cd doc) ⟨vals, []⟩ = pure ((params.args.map (·.arg)).zip vals))
    {A : Around} {n : Nat} {D : Addr → Prop} {s : Shared} {vals : List Value} {Q E : Value → Shared → Prop} (hn : n ≤ 8) (hA : Lv n A) (ok : Γ.Ok) (hB : Kp Γ.B s.heap) (hvs : Vs D s.heap args vals) (hD : ∀ b, D b → (s.heap.get? b).isSome)
    (hrun : ∀ (F : Fm) (s₁ : Shared), F.D = D → F.fr = some F.L → s.heap.get? F.L = none → Sx Γ s.heap scope F ((params.args.map (·.arg)).zip args) [] s₁ → s₁.gens = s.gens → s₁.os = s.os →
      wpR Γ.M (A.deeper (F.env scope)) (execs body (F.env scope)) (fun f s' => Q (match f with | .ret v => v | _ => .none) s')
        (fun e s' => wpR Γ.M (A.deeper (F.env scope)) (leaving (F.env scope) e) (fun _ s'' => E e s'') (fun e' s'' => E e' s'') s') s₁)
    (hnd : (params.args.map (·.arg)).Nodup := by decide +kernel)
    (hloc : (params.args.map (·.arg)).all (fun x => decide (scope.names.lookup x = some .local)) = true := by decide +kernel)
    (hco : scope.isCoroutine = false := by kernel_rfl) (hgen : scope.isGenerator = false := by kernel_rfl) (hk : scope.kind = .function := by kernel_rfl)
    (hcell : (scope.names.all fun x => decide (x.2 ≠ .cell)) = true := by decide +kernel) : wpR Γ.M A (call (.ref a) vals) Q E s := by
  obtain ⟨o, pm, cd, doc, ho, hd, hcd⟩ := h.out
  have hcell' : ∀ x ∈ scope.names, x.2 ≠ .cell := fun x hx => of_decide_eq_true (List.all_eq_true.mp hcell x hx)
  have hlen := hvs.length
  refine wpR_call (codeR_call_plain (binds := (params.args.map (·.arg)).zip vals) (by have := hA.depth; show _ < 1000; omega) (hB a o ho) hd (ok.nolimit.keeps hB) (hcd.keeps hB) (hbind pm cd doc vals hlen) ?_ (fun h₁ F₁ => ?_) hco hgen hk hcell')
  · intro x hx
    have := List.of_mem_zip hx
    exact of_decide_eq_true (List.all_eq_true.mp hloc x.1 this.1)
  · let F : Fm := ⟨s.heap.objs.size, [], name ++ ".<locals>.", some a, cd, some s.heap.objs.size, D⟩
    have hkeep : Kp s.heap h₁ := F₁.keep
    have hL : s.heap.get? s.heap.objs.size = none := fresh_addr _
    have X : Sx Γ s.heap scope F ((params.args.map (·.arg)).zip args) [] { s with heap := h₁, toks := s.toks + ((params.args.map (·.arg)).zip vals).length } := by
      have hvs' : Vs (Dm F []) h₁ args vals := (hvs.grow hkeep).less fun b o _ hb => by
        rcases hb with hb | hb
        · exact hb
        · simp at hb
      refine ⟨⟨ok, hB.trans hkeep, ⟨_, F₁.ns, fun x v h1 h2 => lookup_zip_V _ _ _ x v hnd hvs' h1⟩, fun x v h1 h2 => ?_, fun _ _ hm => (nomatch hm), fun b hb => hkeep.alive b (hD b hb)⟩,
        hkeep, hB, hL, fun x hx => ?_, fun x c h1 => (nomatch h1), fun x y c _ h1 => (nomatch h1), fun b hb => (nomatch hb), hD, List.nodup_nil⟩
      · exfalso
        have hx : x ∈ (params.args.map (·.arg)) := by
          obtain ⟨⟨a', b'⟩, hm, he⟩ : ∃ p ∈ (params.args.map (·.arg)).zip args, p.1 = x := by
            have := List.lookup_isSome_iff.mp (show (((params.args.map (·.arg)).zip args).lookup x).isSome from by rw [h1]; rfl)
            obtain ⟨p, hp, hpx⟩ := this
            exact ⟨p, hp, (beq_iff_eq.mp hpx).symm⟩
          have := List.of_mem_zip hm
          simp only at he; subst he; exact this.1
        have := of_decide_eq_true (List.all_eq_true.mp hloc x hx)
        rw [this] at h2
        rcases h2 with h2 | h2 <;> cases h2
      · exfalso
        have hm : (x, NameKind.cell) ∈ scope.names := by
          obtain ⟨l₁, l₂, he, _⟩ := List.lookup_eq_some_iff.mp hx
          rw [he]; simp
        exact hcell' _ hm rfl
    have := hrun F _ rfl rfl hL X rfl rfl
    refine wpR_mono this (fun f s' hq => ?_) fun _ _ e => e
    exact hq

/-- a call that raises -/
noncomputable def CallE (Γ : Cx) (k : Nat) (f : Value) (args : List PV) (PE : Mem → Prop) : Prop :=
  ∀ (A : Around) (n : Nat) (D : Addr → Prop) (s : Shared) (vals : List Value) (Q : Value → Shared → Prop) (E : Value → Shared → Prop) (l : List Env), n + k ≤ 8 → Lv n A → A.frames = some l → s.heap.FunFrames noHeap l → Γ.Ok → Kp Γ.B s.heap →
    Vs D s.heap args vals → (∀ b, D b → (s.heap.get? b).isSome) → (∀ m e s', PE m → Ex s.heap l e m (some none) s'.heap → s'.gens = s.gens → s'.os = s.os → E (.ref e) s') → wpR Γ.M A (call f vals) Q E s

theorem Ex.out {h₀ h : Heap} {env : Env} {l : List Env} {e L : Addr} {m : Mem} {tb : Option (Option Addr)} (x : Ex h₀ (env :: l) e m tb h) (hL : env.frame = some L) (hn : h₀.get? L = none) : Ex h₀ l e m tb h where
  keep := fun b o hb hnf => x.keep b o hb (fun hm => by
    unfold fr at hm
    rw [List.filterMap_cons, hL] at hm
    rcases List.mem_cons.mp hm with q | q
    · rw [q, hn] at hb; cases hb
    · exact hnf q)
  slots := x.slots
  funf := x.funf.2.2
  new := x.new
  obj := x.obj

theorem DefAt.callE {a : Addr} {name : Str} {params : Arguments} {body : List Stmt} {scope : Scope} {args : List PV} {PE : Mem → Prop} (h : DefAt Γ a name (params, body, scope))
    (hbody : XsE Γ k scope ((params.args.map (·.arg)).zip args) [] body (fun _ _ _ => False) PE)
    (hbind : ∀ (pm cd doc : Value) (vals : List Value), vals.length = args.length → bindArgs (docDef name params body scope pm cd doc) ⟨vals, []⟩ = pure ((params.args.map (·.arg)).zip vals))
    (hnd : (params.args.map (·.arg)).Nodup := by decide +kernel)
    (hloc : (params.args.map (·.arg)).all (fun x => decide (scope.names.lookup x = some .local)) = true := by decide +kernel)
    (hco : scope.isCoroutine = false := by kernel_rfl) (hgen : scope.isGenerator = false := by kernel_rfl) (hk : scope.kind = .function := by kernel_rfl)
    (hcell : (scope.names.all fun x => decide (x.2 ≠ .cell)) = true := by decide +kernel) : CallE Γ (k + 1) (.ref a) args PE := by
  intro A n D s vals Q E l hn hA hfr hff ok hB hvs hD hE
  refine call_enter h hbind (by omega) hA ok hB hvs hD (fun F s₁ hFD hFr hnew X hg ho => ?_) hnd hloc hco hgen hk hcell
  have hfr' : (A.deeper (F.env scope)).frames = some (F.env scope :: l) := Around.frames_deeper hfr
  refine hbody (A.deeper (F.env scope)) (n + 1) F s.heap s₁ _ _ l (by omega) hA.deeper hfr' hFr hff X (fun fl σ' μ' f s' hP _ _ _ => hP.elim) fun m e tb s' hm hx ht g1 g2 => ?_
  refine toR (leaving_ex hfr' hFr hx ht fun h' x' => ?_)
  exact hE m e _ hm (x'.out hFr hnew) (g1.trans hg) (g2.trans ho)

/-- a call of a def that raises, as an expression -/
theorem raise_call {sc : Scope} {σ : Loc} {μ : Own} {x : Str} {p pos : Pos} {args : List Expr} {f : Value} {vs : List PV} {PE : Mem → Prop} (hf : Ev Γ k sc σ μ (.Name x p) (.obj f)) (hkp : KeepOk Γ f) (ha : Es Γ k sc σ μ pos args vs) (hc : CallE Γ k f vs PE)
    (hp : args.any isStarred = false) (hk : sc.kind = .function) {A : Around} {n : Nat} {F : Fm} {h₀ : Heap} {s : Shared} {Q : Value → Shared → Prop} {E : Value → Shared → Prop} {outer : List Env} (hn : n + k ≤ 8) (hA : Lv n A) (hfr : A.frames = some (F.env sc :: outer)) (hL : F.fr = some F.L) (hff : h₀.FunFrames noHeap outer) (X : Sx Γ h₀ sc F σ μ s)
    (hE : ∀ m e s₂ s', PE m → Sx Γ h₀ sc F σ μ s₂ → Gr s s₂ → Ex s₂.heap (F.env sc :: outer) e m (some none) s'.heap → s'.gens = s.gens → s'.os = s.os → E (.ref e) s') : wpR Γ.M A (eval (.Call (.Name x p) args [] pos) (F.env sc)) Q E s := by
  refine wpR_CallName (hf A n F s _ _ hn hA X.toSt fun fv s₁ g₁ hfv => ?_)
  rw [V_obj] at hfv; subst hfv
  refine wpR_callWith (P := fun h => Kp Γ.B h) (starEach_plain_any args hp) hkp ?_
  refine wpR_evalArgs hp (ha A n F s₁ _ _ hn hA (X.grow g₁).toSt fun vals s₂ g₂ hvs => ?_)
  have X₂ := (X.grow g₁).grow g₂
  refine ⟨X₂.base, ?_⟩
  show wpR _ _ (PySem.call fv ([] ++ vals) []) Q E s₂
  exact hc A n (Dm F μ) s₂ vals Q E _ hn hA hfr (X₂.funf hk hL hff (fun _ _ e => e)) X.ok X₂.base hvs X₂.toSt.dom fun m e s' hm hx g1 g2 => hE m e s₂ s' hm X₂ (g₁.trans g₂) hx (g1.trans (g₁.trans g₂).gens) (g2.trans (g₁.trans g₂).os)

/-! ## caught -/
/-- all as it was, but for what frames bear in their slots -/
structure KpF (l : List Env) (h h' : Heap) : Prop where
  keep : ∀ b o, h.get? b = some o → b ∉ fr l → h'.get? b = some o
  slots : ∀ b o, h.get? b = some o → ∃ sl, h'.get? b = some { o with slots := sl }
noncomputable def CallX (Γ : Cx) (k : Nat) (f : Value) (args : List PV) (r : PV) : Prop :=
  ∀ (A : Around) (n : Nat) (D : Addr → Prop) (s : Shared) (vals : List Value) (Q : Value → Shared → Prop) (E : Value → Shared → Prop) (l : List Env), n + k ≤ 8 → Lv n A → A.frames = some l → s.heap.FunFrames noHeap l → (∀ b ∈ fr l, Γ.B.get? b = none) → Γ.Ok → Kp Γ.B s.heap →
    Vs D s.heap args vals → (∀ b, D b → (s.heap.get? b).isSome) → (∀ val s', KpF l s.heap s'.heap → V D s'.heap r val → s'.gens = s.gens → s'.os = s.os → Q val s') → wpR Γ.M A (call f vals) Q E s

theorem ns_slots {h h' : Heap} {L : Addr} {m : Str → Option Value} (hn : h.Ns L m) (hs : ∀ o, h.get? L = some o → ∃ sl, h'.get? L = some { o with slots := sl }) : h'.Ns L m := by
  obtain ⟨o, es, ep, ho, hd, r⟩ := hn
  obtain ⟨sl, hsl⟩ := hs o ho
  exact ⟨_, es, ep, hsl, hd, r⟩

end
end Mine

set_option maxRecDepth 100000
namespace Mine
section
variable {Γ : Cx} {k : Nat} {sc : Scope} {σ : Loc} {μ : Own} {pos : Pos}

/-! ## the law's own frame, with none below -/
noncomputable def XsT (Γ : Cx) (k : Nat) (sc : Scope) (σ : Loc) (μ : Own) (sts : List Stmt) : Prop :=
  ∀ (A : Around) (n : Nat) (F : Fm) (h₀ : Heap) (s : Shared) (Q : Flow → Shared → Prop) (E : Value → Shared → Prop), n + k ≤ 8 → Lv n A → A.frames = some [F.env sc] → F.fr = some F.L → Sx Γ h₀ sc F σ μ s →
    (∀ s', Kp h₀ s'.heap → s'.gens = s.gens → s'.os = s.os → Q (.ret (.bool true)) s') → wpR Γ.M A (execs sts (F.env sc)) Q E s
theorem XsT.cons {st : Stmt} {rest : List Stmt} (h : X1 Γ k sc σ μ st (fun fl σ' μ' => match fl with | .next => XsT Γ k sc σ' μ' rest | .ret v => v = .bool true | _ => False)) : XsT Γ k sc σ μ (st :: rest) := by
  intro A n F h₀ s Q E hn hA hfr hL X hQ
  refine wpR_execs_cons (h A n F h₀ s _ _ hn hA X fun fl σ' μ' f s' hP X' sp hf => ?_)
  cases fl with
  | next =>
    have : f = .next := hf
    subst this
    exact hP A n F h₀ s' _ _ hn hA hfr hL X' fun s2 k2 g2 o2 => hQ s2 k2 (g2.trans sp.gens) (o2.trans sp.os)
  | brk => exact hP.elim
  | cont => exact hP.elim
  | ret v =>
    obtain ⟨val, rfl, hv⟩ := hf
    have : v = .bool true := hP
    subst this
    rw [V_bool] at hv; subst hv
    exact hQ s' X'.keep sp.gens sp.os
theorem XsT.less {σ' : Loc} {sts : List Stmt} (h : Sub σ σ') (hx : XsT Γ k sc σ' μ sts) : XsT Γ k sc σ μ sts :=
  fun A n F h₀ s Q E hn hA hfr hL X hQ => hx A n F h₀ s Q E hn hA hfr hL (X.less h.to) hQ
/-- the law's call, from below nothing -/
noncomputable def CallT (Γ : Cx) (k : Nat) (f : Value) (args : List PV) : Prop :=
  ∀ (A : Around) (n : Nat) (D : Addr → Prop) (s : Shared) (vals : List Value) (Q : Value → Shared → Prop) (E : Value → Shared → Prop), n + k ≤ 8 → Lv n A → A.frames = some [] → Γ.Ok → Kp Γ.B s.heap →
    Vs D s.heap args vals → (∀ b, D b → (s.heap.get? b).isSome) → (∀ s', Gr s s' → Q (.bool true) s') → wpR Γ.M A (call f vals) Q E s
theorem DefAt.callT {a : Addr} {name : Str} {params : Arguments} {body : List Stmt} {scope : Scope} {args : List PV} (h : DefAt Γ a name (params, body, scope))
    (hbody : XsT Γ k scope ((params.args.map (·.arg)).zip args) [] body)
    (hbind : ∀ (pm cd doc : Value) (vals : List Value), vals.length = args.length → bindArgs (docDef name params body scope pm cd doc) ⟨vals, []⟩ = pure ((params.args.map (·.arg)).zip vals))
    (hnd : (params.args.map (·.arg)).Nodup := by decide +kernel)
    (hloc : (params.args.map (·.arg)).all (fun x => decide (scope.names.lookup x = some .local)) = true := by decide +kernel)
    (hco : scope.isCoroutine = false := by kernel_rfl) (hgen : scope.isGenerator = false := by kernel_rfl) (hk : scope.kind = .function := by kernel_rfl)
    (hcell : (scope.names.all fun x => decide (x.2 ≠ .cell)) = true := by decide +kernel) : CallT Γ (k + 1) (.ref a) args := by
  intro A n D s vals Q E hn hA hfr ok hB hvs hD hQ
  refine call_enter h hbind (by omega) hA ok hB hvs hD (fun F s₁ hFD hFr hnew X hg ho => ?_) hnd hloc hco hgen hk hcell
  exact hbody (A.deeper (F.env scope)) (n + 1) F s.heap s₁ _ _ (by omega) hA.deeper (Around.frames_deeper hfr) hFr X fun s' k' g' o' => hQ s' ⟨k', g'.trans hg, o'.trans ho⟩
theorem law_calledT {ns : List Int} {l fa : Addr} {vs : List Value} {s₁ : Shared} {Q : Value → Shared → Prop} {E : Value → Shared → Prop}
    (ok : Γ.Ok) (hB : Γ.B = s₁.heap) (hk : k ≤ 8) (hl : s₁.heap.IsList l vs.toArray) (hi : IntsAre vs ns)
    (hc : CallT Γ k (.ref fa) [.lst (ns.map .int)])
    (hQ : ∀ s', Kp s₁.heap s'.heap → s'.gens = s₁.gens → s'.os = s₁.os → Q (.bool true) s') : wpR Γ.M callerA (PySem.call (.ref fa) [.ref l]) Q E s₁ := by
  refine hc callerA 0 (fun _ => False) s₁ [.ref l] Q E (by omega) Lv.top rfl ok (by rw [hB]; exact fun _ _ e => e) ?_ (fun _ h => h.elim) fun s' g => hQ s' g.keep g.gens g.os
  exact Vs_cons.mpr ⟨_, [], rfl, V_lst.mpr ⟨l, vs.toArray, rfl, id, hl, by simpa using Vs.of_ints hi⟩, Vs_nil.mpr rfl⟩
end
end Mine

set_option maxRecDepth 100000
namespace Mine
section
variable {Γ : Cx} {k : Nat}
theorem eqBool_str {prog : Program} {w : World} {A : Around} {E : Value → Shared → Prop} {s : Shared} {b c : List Nat} {t u : Tok} {Q : Bool → Shared → Prop} (h : Q (b == c) s) : wpAny (model prog w) A (eqBool (.str ⟨b.toArray⟩ t) (.str ⟨c.toArray⟩ u)) Q E s := by
  unfold eqBool
  show wpAny _ _ (if (Value.str ⟨b.toArray⟩ t == Value.str ⟨c.toArray⟩ u) = true then _ else _) Q E s
  by_cases hab : (Value.str ⟨b.toArray⟩ t == Value.str ⟨c.toArray⟩ u) = true
  · rw [if_pos hab]
    have e : b = c := by
      have := eq_of_beq hab
      injection this with h1 h2
      injection h1 with h3
      simpa using h3
    subst e
    exact wpAny_bind (wpAny_rule (wpAny_pure (by simpa using h)))
  · rw [if_neg hab]
    exact wpAny_bind (richCompare_gives (op := .Eq) (typeIs_str s _ t) (typeIs_str s _ u) PySem.F.slot_str_eq PySem.F.entry_str_eq (PySem.F.args_str_eq_2 _ _) (gives_str_eq _ _ t u) (fun x => nomatch x) (wpAny_truthy_bool (by simpa using h)))
theorem eqBool_int {prog : Program} {w : World} {A : Around} {E : Value → Shared → Prop} {s : Shared} {b c : Int} {t u : Tok} {Q : Bool → Shared → Prop} (h : Q (b == c) s) : wpAny (model prog w) A (eqBool (.int b t) (.int c u)) Q E s := by
  unfold eqBool
  show wpAny _ _ (if (Value.int b t == Value.int c u) = true then _ else _) Q E s
  by_cases hab : (Value.int b t == Value.int c u) = true
  · rw [if_pos hab]
    have e : b = c := by have := eq_of_beq hab; injection this
    subst e
    exact wpAny_bind (wpAny_rule (wpAny_pure (by simpa using h)))
  · rw [if_neg hab]
    exact wpAny_bind (richCompare_gives (op := .Eq) (typeIs_int s b t) (typeIs_int s c u) PySem.F.slot_int_eq PySem.F.entry_int_eq (PySem.F.args_int_eq_2 _ _) (gives_int_eq b c t u) (fun x => nomatch x) (wpAny_truthy_bool h))
/-- plain atoms that are the same -/
noncomputable def atomE : PV → Bool
  | .int _ | .str _ | .bytes _ => true
  | _ => false
theorem eqAt_same {D : Addr → Prop} {A : Around} {s : Shared} {p : PV} {x y : Value} (hp : atomE p = true) (hx : V D s.heap p x) (hy : V D s.heap p y) : PySem.SeqAt.EqAt A s x y true := by
  intro prog w E Q hq
  cases p with
  | int i =>
    obtain ⟨t, rfl⟩ := V_int.mp hx; obtain ⟨u, rfl⟩ := V_int.mp hy
    exact eqBool_int (by simpa using hq)
  | str l =>
    obtain ⟨t, rfl⟩ := V_str.mp hx; obtain ⟨u, rfl⟩ := V_str.mp hy
    exact eqBool_str (by simpa using hq)
  | bytes l =>
    obtain ⟨t, rfl⟩ := V_bytes.mp hx; obtain ⟨u, rfl⟩ := V_bytes.mp hy
    exact eqBool_bytes (by simpa using hq)
  | _ => cases hp
end
end Mine

set_option maxRecDepth 100000
namespace Mine

/-! ## sorted -/

end Mine

set_option maxRecDepth 100000
namespace Mine

/-! ## plain data: ==, != -/
/-! ## tuples of ints in order -/
end Mine

set_option maxRecDepth 100000
namespace Mine

/-! ## lists that were made as plain lists -/
section
variable {Γ : Cx} {k : Nat} {sc : Scope} {σ : Loc} {μ : Own} {pos : Pos}
/-! ## slices with a step -/
noncomputable def stepL {α : Type} (xs : List α) (lo hi : Option Int) (c : Int) : List α :=
  (sliceRange (sliceBounds lo hi (some c) xs.length).1 (sliceBounds lo hi (some c) xs.length).2.1 (sliceBounds lo hi (some c) xs.length).2.2).filterMap fun (i : Nat) => xs[i]?
theorem Vs.at? {D : Addr → Prop} {h : Heap} : ∀ {xs : List PV} {vs : List Value} (i : Nat), Vs D h xs vs → (xs[i]? = none ∧ vs[i]? = none) ∨ ∃ x v, xs[i]? = some x ∧ vs[i]? = some v ∧ V D h x v
  | xs, vs, i, e => by
    cases hx : xs[i]? with
    | none =>
      left
      refine ⟨rfl, ?_⟩
      have := e.length
      rw [List.getElem?_eq_none_iff] at hx ⊢
      omega
    | some x =>
      obtain ⟨v, h1, h2⟩ := e.get i hx
      exact .inr ⟨x, v, rfl, h1, h2⟩
theorem Vs.picks {D : Addr → Prop} {h : Heap} {xs : List PV} {vs : List Value} (e : Vs D h xs vs) : ∀ is : List Nat, Vs D h (is.filterMap fun i => xs[i]?) (is.filterMap fun i => vs[i]?)
  | [] => Vs_nil.mpr rfl
  | i :: is => by
    rcases e.at? i with ⟨h1, h2⟩ | ⟨x, v, h1, h2, h3⟩
    · simpa [h1, h2] using Vs.picks e is
    · rw [List.filterMap_cons_some h1, List.filterMap_cons_some h2, Vs_cons]
      exact ⟨v, _, rfl, h3, Vs.picks e is⟩
theorem SliceOk.step {xs : List PV} {lo hi : Option Int} {c : Int} (hc : c ≠ 0) (hz : xs.length < 2 ^ 20) : SliceOk Γ (.lst xs) lo hi (some c) (.lst (stepL xs lo hi c)) := by
  intro A n D s x sl vl vu vs Q E _ _ hv hD hs pl pu ps hQ
  obtain ⟨a, items, rfl, _, hl, he⟩ := V_lst.mp hv
  have hlen : items.size = xs.length := by simpa using he.length
  refine wpAny_getItem_list_slice (hsz := by rw [sizeLine_eq]; omega) hl hs pl pu ps (fun q => hc (by injection q)) ?_
  have hv := V.newList hD (he.picks (sliceRange (sliceBounds lo hi (some c) xs.length).1 (sliceBounds lo hi (some c) xs.length).2.1 (sliceBounds lo hi (some c) xs.length).2.2))
  have e : slicePick items lo hi (some c) = ((sliceRange (sliceBounds lo hi (some c) xs.length).1 (sliceBounds lo hi (some c) xs.length).2.1 (sliceBounds lo hi (some c) xs.length).2.2).filterMap fun (i : Nat) => items.toList[i]?).toArray := by
    unfold slicePick
    rw [hlen]
    simp
  rw [e]
  exact hQ _ _ (Gr.heap _ (Kp.push _ _)) hv
theorem stepL_ints (ns : List Int) (lo hi : Option Int) (c : Int) : stepL (ns.map PV.int) lo hi c = (stepL ns lo hi c).map PV.int := by
  unfold stepL
  rw [List.length_map, List.map_filterMap]
  congr 1
  funext i
  simp
end
end Mine

set_option maxRecDepth 100000
namespace Mine
/-! ## an index that is out of range, caught -/
open Builtin in
theorem raises_bytes_getitem (b : Array UInt8) (i : Int) (t u : Tok) (hr : Builtin.Bytes.fitsIndex i = true) (h : (seqIndex? i b.size).bind (b[·]?) = none) :
    Meets (Builtin.«bytes.__getitem__» ⟨[.bytes b t, .int i u], []⟩) (raisesNew "IndexError") := by
  intro prog w A R s hS
  show wpAny _ _ (Builtin.Bytes.subscript? (.int i u) >>= fun r => _) _ _ s
  refine wpAny_bind ?_
  unfold Builtin.Bytes.subscript?
  refine wpAny_bind (wpAny_specialOf (typeIs_int s i u) PySem.F.slot_int_index.lookup ?_)
  show wpAny _ _ (if (!Builtin.Bytes.fitsIndex i) = true then _ else pure (some i)) _ _ s
  rw [hr]
  refine wpAny_pure ?_
  show wpAny _ _ (match (seqIndex? i b.size).bind (b[·]?) with | some x => retInt x.toNat | none => _) _ _ s
  rw [h]
  first
    | exact wpAny_bind (wpAny_rule (by exact_raiseError plainExc_IndexError hS.1 hS.2))
    | exact wpAny_bind (wpAny_rule (wpAny_bind (by exact_raiseError plainExc_IndexError hS.1 hS.2)))
theorem getItem_bytes_out {prog : Program} {w : World} {A : Around} {E : Value → Shared → Prop} {s : Shared} {l : List UInt8} {t u : Tok} {Q : Value → Shared → Prop} (hA : A.handled = none) (hz : l.length < 2 ^ 20)
    (hE : ∀ h' tk e, Heap.NewExc s.heap h' e "IndexError" → E (.ref e) { s with heap := h', toks := tk }) : wpAny (model prog w) A (getItem (.bytes l.toArray t) (.int (l.length : Int) u)) Q E s := by
  refine getItem_meets (typeIs_bytes s _ t) (by decide) FB.slot_bytes_getitem FB.entry_bytes_getitem (FB.args_bytes_getitem_2 _ _) (raises_bytes_getitem _ _ t u ?_ ?_) ⟨hA, hE⟩
  · simp only [Builtin.Bytes.fitsIndex, Bool.and_eq_true, decide_eq_true_eq]; omega
  · have : seqIndex? (l.length : Int) l.toArray.size = none := by
      have hn : ¬ (l.length : Int) < 0 := by omega
      simp [seqIndex?, hn]
    rw [this]; rfl

structure Eg (h₀ : Heap) (l : List Env) (e : Addr) (X : String) (tb : Option (Option Addr)) (h : Heap) : Prop where
  keep : ∀ b o, h₀.get? b = some o → b ∉ fr l → h.get? b = some o
  slots : ∀ b o, h₀.get? b = some o → ∃ sl, h.get? b = some { o with slots := sl }
  funf : h.FunFrames noHeap l
  new : h₀.get? e = none
  obj : ∃ o vs tbv, h.get? e = some o ∧ o.cls = .type X ∧ o.data = .fields vs ∧ vs[1]? = some tbv ∧ vs[2]? = some .none ∧ TbIs h₀ h e tb tbv
theorem cls_mapFields (o : Obj) (f : Array Value → Array Value) : (o.mapFields f).cls = o.cls := by
  obtain ⟨c, d, dt, sl⟩ := o
  cases dt <;> rfl
section
variable {M : Model} {A : Around} {E : Value → Shared → Prop} {s : Shared} {h₀ : Heap} {env : Env} {outer l : List Env} {e L : Addr} {X : String}
theorem flds_notFrame {h : Heap} {o : Obj} {vs : Array Value} (hf : h.FunFrames noHeap l) (he : h.get? e = some o) (hd : o.data = .fields vs) : e ∉ fr l := fun hm => by
  obtain ⟨_, o', ho, hnf⟩ := hf.mem hm
  rw [he] at ho; cases ho; exact hnf vs hd
theorem Eg.typeIs (x : Eg h₀ l e X tb s.heap) : s.TypeIs (.ref e) X := by
  obtain ⟨o, vs, tbv, he, hc, _⟩ := x.obj
  exact ⟨o, he, hc⟩
theorem setFlight_eg {fl fl' : Option Addr} {Q : Unit → Shared → Prop} (x : Eg h₀ l e X (some fl) s.heap) (h : ∀ h', Eg h₀ l e X (some fl') h' → Q () { s with heap := h' }) : wpAny M A (setFlight (.ref e) fl') Q E s := by
  obtain ⟨o, vs, tbv, he, hc, hd, h1, h2, T, ts, rfl, hT0, hTe, hT, h3⟩ := x.obj
  unfold setFlight
  refine wpAny_bind (wpAny_field he hd h1 ?_)
  rw [if_pos (by show (Value.ref T != Value.none) = true; simp)]
  have hsz : 3 < ts.size := (Array.getElem?_eq_some_iff.mp h3).1
  refine wpAny_setField hT rfl hsz (h _ ?_)
  have hs := Heap.SameBut.update s.heap T (Obj.mapFields (·.setIfInBounds 3 (fl'.elim .none fun f => rawInt f)))
  refine ⟨fun b o hb hn => (hs.2 b (fun q => by rw [q, hT0] at hb; cases hb)).trans (x.keep b o hb hn), fun b o hb => ?_, funf_same x.funf hs hT rfl, x.new, o, vs, _, (hs.2 e (Ne.symm hTe)).trans he, hc, hd, h1, h2, T, _, rfl, hT0, hTe, Heap.get?_update_self _ hT rfl, ?_⟩
  · obtain ⟨sl, hsl⟩ := x.slots b o hb
    exact ⟨sl, (hs.2 b (fun q => by rw [q, hT0] at hb; cases hb)).trans hsl⟩
  · simp [hsz]
theorem note_eg {Q : Unit → Shared → Prop} (hfr : A.frames = some (env :: outer)) (hL : env.frame = some L) (x : Eg h₀ (env :: outer) e X none s.heap)
    (h : ∀ h', Eg h₀ (env :: outer) e X (some (some L)) h' → Q () { s with heap := h' }) : wpAny M A (noteFrame (.ref e) env) Q E s := by
  obtain ⟨o, vs, tbv, he, hc, hd, h1, h2, htv⟩ := id x.obj
  have : tbv = .none := htv
  subst this
  unfold noteFrame
  simp only [hL]
  refine wpAny_bind (wpAny_field he hd h1 ?_)
  rw [if_neg (by show ¬ ((Value.none != Value.none) = true); decide)]
  have hen := flds_notFrame x.funf he hd
  have hsz : 1 < vs.size := (Array.getElem?_eq_some_iff.mp h1).1
  refine wpAny_bind (wpAny_frameOf_fun hfr x.funf hL fun h₁ hs₁ => ?_)
  refine wpAny_bind (wpAny_entryPlaceOf fun pl hpl => ?_)
  unfold EntryCells.newEntry newFields
  refine wpAny_bind (wpAny_newObj_type ?_ (hpl.sizeOk5 _ _ _ _ _))
  have he₁ : h₁.get? e = some o := (hs₁.2.1 e hen).trans he
  generalize hob : ({ cls := .type "traceback", dict := none, data := .fields ([Value.none, .ref L, .none, rawInt L, .none] ++ (if pl.isEmpty then List.replicate 6 Value.none else pl)).toArray } : Obj) = ob
  have hobd : ob.data = .fields ([Value.none, .ref L, .none, rawInt L, .none] ++ (if pl.isEmpty then List.replicate 6 Value.none else pl)).toArray := by rw [← hob]
  have he₂ := Heap.get?_push_of_some (h := h₁) ob he₁
  refine wpAny_setField he₂ hd hsz (h _ ?_)
  have hs₃ := Heap.SameBut.update (h₁.push ob) e (Obj.mapFields (·.setIfInBounds 1 (Value.ref h₁.objs.size)))
  have hTe : h₁.objs.size ≠ e := Nat.ne_of_gt (Heap.lt_size he₁)
  have hgo : ∀ b o, b ≠ e → h₁.get? b = some o → ((h₁.push ob).update e (Obj.mapFields (·.setIfInBounds 1 (Value.ref h₁.objs.size)))).get? b = some o :=
    fun b o hb ho => (hs₃.2 b hb).trans (Heap.get?_push_of_some _ ho)
  refine ⟨fun b o hb hn => hgo b o (fun q => by rw [q, x.new] at hb; cases hb) ((hs₁.2.1 b hn).trans (x.keep b o hb hn)), fun b o hb => ?_, ?_, x.new, _, _, .ref h₁.objs.size, Heap.get?_update_self _ he₂ (Obj.isFreed_of_fields (Obj.data_mapFields hd _)), (cls_mapFields o _).trans hc, Obj.data_mapFields hd _, ?_, ?_, h₁.objs.size, ([Value.none, .ref L, .none, rawInt L, .none] ++ (if pl.isEmpty then List.replicate 6 Value.none else pl)).toArray, rfl, ?_, hTe, ?_, ?_⟩
  · obtain ⟨sl, hsl⟩ := x.slots b o hb
    obtain ⟨sl', hsl'⟩ := hs₁.2.2 b _ hsl
    exact ⟨sl', hgo b _ (fun q => by rw [q, x.new] at hb; cases hb) hsl'⟩
  · have f1 : h₁.FunFrames noHeap (env :: outer) := x.funf.of_slotsOnly hs₁
    refine f1.of_keeps fun c oc hc hnf => ⟨oc, hgo c oc (fun q => ?_) hc, rfl⟩
    subst q; rw [he₁] at hc; cases hc; exact hnf _ hd
  · simp [hsz]
  · simpa [Array.getElem?_setIfInBounds] using h2
  · cases q : h₀.get? h₁.objs.size with
    | none => rfl
    | some o =>
      obtain ⟨sl, hsl⟩ := x.slots _ o q
      have := Heap.lt_size hsl
      rw [← hs₁.1] at this
      exact absurd this (Nat.lt_irrefl _)
  · exact (hs₃.2 _ hTe).trans ((Heap.get?_push_size _ (by rw [← hob]; rfl)).trans (by rw [← hob]))
  · rcases hpl with rfl | ⟨_, _, _, _, _, _, _, rfl⟩ <;> simp
end
end Mine

set_option maxRecDepth 100000
namespace Mine
section
variable {Γ : Cx} {k : Nat} {sc : Scope} {σ : Loc} {pos : Pos}

/-- try: c = x[i] / except IndexError: .., with i behind the last one -/
theorem try_index {ch ext ep ie : Str} {pc pe pp sp ap ip hpos tpos : Pos} {b₀ : Stmt} {suite : List Stmt} {l : List UInt8} {A : Around} {n : Nat} {F : Fm} {h₀ : Heap} {s : Shared} {Q : Flow → Shared → Prop} {E : Value → Shared → Prop} {outer : List Env}
    (he : Ev Γ k sc σ [] (.Name ext pe) (.bytes l)) (hi : Ev Γ k sc σ [] (.Name ep pp) (.int (l.length : Int))) (hz : l.length < 2 ^ 20)
    (hu : Γ.gl.lookup ie = some (.obj (.type "IndexError"))) (hul : sc.names.lookup ie = some .globalImplicit) (hud : (ie == ("__debug__" : Str)) = false) (hk : sc.kind = .function)
    (hsub : ∀ o i, subscripted (.Name ep pp) false o i = operate [o, i] (getItem o i)) (hsw : swapsWith (.Subscript (.Name ext pe) (.Name ep pp) sp) (some (.Name ch pc)) ap.line (F.env sc) = pure false)
    (hn : n + k ≤ 8) (hA : Lv n A) (hfr : A.frames = some (F.env sc :: outer)) (hL : F.fr = some F.L) (hff : h₀.FunFrames noHeap outer) (X : Sx Γ h₀ sc F σ [] s)
    (hQ : ∀ e s₂ s', Sx Γ h₀ sc F σ [] s₂ → Eg s₂.heap (F.env sc :: outer) e "IndexError" (some none) s'.heap → s'.gens = s.gens → s'.os = s.os →
      wpAny Γ.M (A.mark (some (.ref e))) (execs (b₀ :: suite) (F.env sc)) Q (notedBy Γ.M (A.mark (some (.ref e))) (F.env sc) (cameBackBy Γ.M A (F.env sc) E)) s') :
    wpR Γ.M A (exec (.Try [.Assign [.Name ch pc] (.Subscript (.Name ext pe) (.Name ep pp) sp) ap] [.ExceptHandler (some (.Name ie ip)) none (b₀ :: suite) hpos] [] [] tpos) (F.env sc)) Q E s := by
  rw [arm_exec_Try]
  refine wpR_bind (wpR_standAt (wpR_tryStmt ?_))
  refine wpR_execs_cons (wpR_Assign_Name ?_ hsw)
  refine wpR_Subscript (he A n F s _ _ hn hA X.toSt fun o s₁ g₁ ho₁ => hi A n F s₁ _ _ hn hA (X.grow g₁).toSt fun iv s₂ g₂ hi₂ => ?_)
  have X₂ := (X.grow g₁).grow g₂
  obtain ⟨t, rfl⟩ := V_bytes.mp ho₁
  obtain ⟨u, rfl⟩ := V_int.mp hi₂
  obtain ⟨T, id, hT, hl⟩ := HasItem.bytes (Γ := Γ) (Dm F []) s₂ _ (ho₁.grow g₂.keep)
  refine toR <| tail_any hT hl (getItem_bytes_out hA.handled hz fun h' tk e hx => ?_) (hsub _ _)
  obtain ⟨ob, tv, hob, hobc, hobd⟩ := hx.there
  have x0 : Eg s₂.heap (F.env sc :: outer) e "IndexError" none h' :=
    ⟨fun b o hb _ => hx.keeps b o hb, fun b o hb => ⟨o.slots, hx.keeps b o hb⟩, X₂.funf hk hL hff hx.keeps, hx.new, ob, _, _, hob, hobc, hobd, rfl, rfl, rfl⟩
  refine toR (note_eg (s := { s₂ with heap := h', toks := tk }) hfr hL x0 fun h1 x1 => toR (setFlight_eg (s := { s₂ with heap := h1, toks := tk }) (fl' := none) x1 fun h2 x2 => ?_))
  refine toR (PySem.wpAny_handleBy_builtin (X := "IndexError") (T := "IndexError") (b := true) PySem.F.isExc_IndexError PySem.F.notTuple_IndexError (by rw [isSubtype_type]; kernel_rfl) ?_)
  obtain ⟨uv, ⟨mg, hmg, hxg⟩, huv⟩ := X.ok.glob ie _ hu
  have huv' : uv = .type "IndexError" := V_obj.mp (huv (Dm F []) h2)
  subst huv'
  have hns : ∀ {c : Addr} {m : Str → Option Value}, Γ.B.Ns c m → h2.Ns c m := fun hm => ns_slots (hm.keeps X₂.base) fun o ho => x2.slots _ o ho
  have hld : ∀ (Qx Ex' : Value → Shared → Prop) (Ax : Around), Qx (.type "IndexError") { s₂ with heap := h2, toks := tk } → wpAny Γ.M Ax (eval (.Name ie ip) (F.env sc)) Qx Ex' { s₂ with heap := h2, toks := tk } := by
    intro Qx Ex' Ax hq
    refine Name_function_global (env := F.env sc) hk hul ?_ hud
    rcases hxg with hxg | ⟨hxg, mb, hmb, hyg⟩
    · exact loadGlobal_global (env := F.env sc) (hns hmg) hxg hq
    · exact loadGlobal_builtin (env := F.env sc) (hns hmg) hxg (hns hmb) hyg hq
  refine hld _ _ _ ⟨rfl, x2.typeIs (s := { s₂ with heap := h2, toks := tk }), ?_⟩
  simp only [if_true]
  exact setFlight_eg (s := { s₂ with heap := h2, toks := tk }) (fl' := none) x2 fun h3 x3 => hQ e s₂ _ X₂ x3 ((g₁.trans g₂).gens) ((g₁.trans g₂).os)

/-! ### code that ends in a return, having caught something -/
noncomputable def XsX (Γ : Cx) (k : Nat) (sc : Scope) (σ : Loc) (μ : Own) (sts : List Stmt) (r : PV) : Prop :=
  ∀ (A : Around) (n : Nat) (F : Fm) (h₀ : Heap) (s : Shared) (Q : Flow → Shared → Prop) (E : Value → Shared → Prop) (outer : List Env), n + k ≤ 8 → Lv n A → A.frames = some (F.env sc :: outer) → F.fr = some F.L → h₀.FunFrames noHeap outer → (∀ b ∈ fr outer, Γ.B.get? b = none) → Sx Γ h₀ sc F σ μ s →
    (∀ val s', KpF (F.env sc :: outer) h₀ s'.heap → V F.D s'.heap r val → s'.gens = s.gens → s'.os = s.os → Q (.ret val) s') → wpR Γ.M A (execs sts (F.env sc)) Q E s
noncomputable def WhX (Γ : Cx) (k : Nat) (sc : Scope) (σ : Loc) (μ : Own) (test : Expr) (body orelse : List Stmt) (r : PV) : Prop :=
  ∀ (A : Around) (n : Nat) (F : Fm) (h₀ : Heap) (s : Shared) (R : Result → Shared → Prop) (outer : List Env), n + k ≤ 8 → Lv n A → A.frames = some (F.env sc :: outer) → F.fr = some F.L → h₀.FunFrames noHeap outer → (∀ b ∈ fr outer, Γ.B.get? b = none) → Sx Γ h₀ sc F σ μ s →
    (∀ val s', KpF (F.env sc :: outer) h₀ s'.heap → V F.D s'.heap r val → s'.gens = s.gens → s'.os = s.os → R (.ok (.ret val)) s') → codeR Γ.M A (.whileLoop test body orelse (F.env sc)) R s
variable {μ : Own} {r : PV} {σ' : Loc}
theorem XsX.cons {st : Stmt} {rest : List Stmt} (h : X1 Γ k sc σ μ st (fun fl σ' μ' => match fl with | .next => XsX Γ k sc σ' μ' rest r | _ => False)) : XsX Γ k sc σ μ (st :: rest) r := by
  intro A n F h₀ s Q E outer hn hA hfr hL hff hB X hQ
  refine wpR_execs_cons (h A n F h₀ s _ _ hn hA X fun fl σ' μ' f s' hP X' sp hf => ?_)
  cases fl with
  | next =>
    have : f = .next := hf
    subst this
    exact hP A n F h₀ s' _ _ outer hn hA hfr hL hff hB X' fun val s2 k2 v2 g2 o2 => hQ val s2 k2 v2 (g2.trans sp.gens) (o2.trans sp.os)
  | brk => exact hP.elim
  | cont => exact hP.elim
  | ret v => exact hP.elim
theorem WhX.sub {t : Expr} {body orelse : List Stmt} (h : Sub σ σ') (hx : WhX Γ k sc σ' μ t body orelse r) : WhX Γ k sc σ μ t body orelse r :=
  fun A n F h₀ s R outer hn hA hfr hL hff hB X hR => hx A n F h₀ s R outer hn hA hfr hL hff hB (X.less h.to) hR
theorem XsX.while {t : Expr} {body orelse rest : List Stmt} (h : WhX Γ k sc σ μ t body orelse r) : XsX Γ k sc σ μ (.While t body orelse pos :: rest) r := by
  intro A n F h₀ s Q E outer hn hA hfr hL hff hB X hQ
  exact wpR_execs_cons (wpR_While (h A n F h₀ s _ outer hn hA hfr hL hff hB X fun val s' k' v' g' o' => hQ val s' k' v' g' o'))
theorem WhX.turn {t : Expr} {body orelse : List Stmt} {c : Bool} (ht : Tr Γ k sc σ μ t c) (hc : c = true) (h : Xs Γ k sc σ μ body (fun fl σ' μ' => match fl with | .next | .cont => WhX Γ k sc σ' μ' t body orelse r | _ => False)) : WhX Γ k sc σ μ t body orelse r := by
  subst hc
  intro A n F h₀ s R outer hn hA hfr hL hff hB X hR
  refine codeR_while1 (ht A n F s _ _ hn hA X.toSt fun s₁ g => ?_)
  refine h A n F h₀ s₁ _ _ hn hA (X.grow g) fun fl σ' μ' f s' hP X' sp hf => ?_
  have sp' := (Sp.gr g).trans sp
  cases fl with
  | next => have : f = .next := hf; subst this; exact hP A n F h₀ s' R outer hn hA hfr hL hff hB X' fun val s2 k2 v2 g2 o2 => hR val s2 k2 v2 (g2.trans sp'.gens) (o2.trans sp'.os)
  | cont => have : f = .cont := hf; subst this; exact hP A n F h₀ s' R outer hn hA hfr hL hff hB X' fun val s2 k2 v2 g2 o2 => hR val s2 k2 v2 (g2.trans sp'.gens) (o2.trans sp'.os)
  | brk => exact hP.elim
  | ret v => exact hP.elim
theorem WhX.last {t : Expr} {body orelse : List Stmt} {c : Bool} (ht : Tr Γ k sc σ μ t c) (hc : c = true) (h : XsX Γ k sc σ μ body r) : WhX Γ k sc σ μ t body orelse r := by
  subst hc
  intro A n F h₀ s R outer hn hA hfr hL hff hB X hR
  refine codeR_while1 (ht A n F s _ _ hn hA X.toSt fun s₁ g => ?_)
  exact h A n F h₀ s₁ _ _ outer hn hA hfr hL hff hB (X.grow g) fun val s2 k2 v2 g2 o2 => hR val s2 k2 v2 (g2.trans g.gens) (o2.trans g.os)
theorem DefAt.callX {a : Addr} {name : Str} {params : Arguments} {body : List Stmt} {scope : Scope} {args : List PV} (h : DefAt Γ a name (params, body, scope))
    (hbody : XsX Γ k scope ((params.args.map (·.arg)).zip args) [] body r)
    (hbind : ∀ (pm cd doc : Value) (vals : List Value), vals.length = args.length → bindArgs (docDef name params body scope pm cd doc) ⟨vals, []⟩ = pure ((params.args.map (·.arg)).zip vals))
    (hnd : (params.args.map (·.arg)).Nodup := by decide +kernel)
    (hloc : (params.args.map (·.arg)).all (fun x => decide (scope.names.lookup x = some .local)) = true := by decide +kernel)
    (hco : scope.isCoroutine = false := by kernel_rfl) (hgen : scope.isGenerator = false := by kernel_rfl) (hk : scope.kind = .function := by kernel_rfl)
    (hcell : (scope.names.all fun x => decide (x.2 ≠ .cell)) = true := by decide +kernel) : CallX Γ (k + 1) (.ref a) args r := by
  intro A n D s vals Q E l hn hA hfr hff hBl ok hB hvs hD hQ
  refine call_enter h hbind (by omega) hA ok hB hvs hD (fun F s₁ hFD hFr hnew X hg ho => ?_) hnd hloc hco hgen hk hcell
  subst hFD
  refine hbody (A.deeper (F.env scope)) (n + 1) F s.heap s₁ _ _ l (by omega) hA.deeper (Around.frames_deeper hfr) hFr hff hBl X fun val s' k' v' g' o' => ?_
  refine hQ val s' ⟨fun b o hb hnf => k'.keep b o hb (fun hm => ?_), k'.slots⟩ v' (g'.trans hg) (o'.trans ho)
  unfold fr at hm
  rw [List.filterMap_cons, show (F.env scope).frame = some F.L from hFr] at hm
  rcases List.mem_cons.mp hm with q | q
  · rw [q, hnew] at hb; cases hb
  · exact hnf q
end
end Mine

set_option maxRecDepth 100000
namespace Mine
theorem unchain_entry : entryFor table "proto.unchain" = some Builtin.«proto.unchain» := by first | exact entryFor_of_fast (by kernel_rfl) | exact entryFor_of_tree (by kernel_rfl)
section
variable {M : Model} {prog : Program} {w : World} {A : Around} {E : Value → Shared → Prop} {s : Shared} {e hx : Addr}
/-- a new exception while another one is being handled -/
theorem raiseNew_in {α : Type} {Q : α → Shared → Prop} {o oe : Obj} {ws vs : Array Value} (hh : A.handled = some (.ref hx)) (hne : hx ≠ e) (ho : s.heap.get? hx = some o) (hd : o.data = .fields ws) (h2 : ws[2]? = some .none)
    (he : s.heap.get? e = some oe) (hed : oe.data = .fields vs) (hsz : 2 < vs.size) (h : E (.ref e) { s with heap := s.heap.update e (Obj.mapFields (·.setIfInBounds 2 (.ref hx))) }) : wpAny (model prog w) A (raiseNew (.ref e) : Sem α) Q E s := by
  unfold raiseNew
  refine wpAny_bind (wpAny_handled ?_)
  rw [hh]
  have hb : (Value.ref hx != Value.ref e) = true := by simp [hne]
  dsimp only
  rw [if_pos hb]
  refine wpAny_bind (wpAny_holding (wpAny_runValue (codeAny_builtin unchain_entry ?_)))
  unfold Builtin.«proto.unchain»
  dsimp only
  refine wpAny_bind (wpAny_field ho hd h2 ?_)
  rw [if_pos (by decide)]
  refine wpAny_bind (wpAny_pure ?_)
  refine wpAny_pure ?_
  dsimp only
  refine wpAny_bind ?_
  show wpAny _ _ (setField (.ref e) 2 (Value.ref hx)) _ E s
  refine wpAny_setField he hed hsz ?_
  exact wpAny_throw h
end
section
variable {M : Model} {prog : Program} {w : World} {A : Around} {E : Value → Shared → Prop} {s : Shared} {hx : Addr}
theorem raise_madeH {env : Env} {x : Sem Value} {Q : Flow → Shared → Prop} (hh : A.handled = some (.ref hx))
    (h : wpAny (model prog w) A x (fun v s₁ => ∃ e vs o ws, v = .ref e ∧ s₁.heap.get? e = some (udeObj vs) ∧ vs[1]? = some .none ∧ 2 < vs.size ∧ hx ≠ e ∧ s₁.heap.get? hx = some o ∧ o.data = .fields ws ∧ ws[2]? = some .none ∧
      E (.ref e) { s₁ with heap := s₁.heap.update e (Obj.mapFields (·.setIfInBounds 2 (.ref hx))) }) E s) : wpAny (model prog w) A (raiseStmt env (some x) none) Q E s := by
  unfold raiseStmt
  refine wpAny_bind (wpAny_mono h (fun v s₁ h₁ => ?_) fun _ _ x => x)
  obtain ⟨e, vs, o, ws, rfl, he, h1, hsz, hne, ho, hd, h2, hE⟩ := h₁
  obtain ⟨hp, g, d, tk, os⟩ := s₁
  have hsub := F.ude_isExc
  have hmeta := F.ude_raise.plainMeta
  have hT : Shared.TypeIs ⟨hp, g, d, tk, os⟩ (.ref e) "UnicodeDecodeError" := ⟨_, he, rfl⟩
  repeat (first | refine wpAny_loadPart he ?_ | wp_step)
  rw [h1]
  refine wpAny_pure ?_
  rw [if_neg (by decide)]
  refine wpAny_pure ?_
  exact raiseNew_in (s := ⟨hp, g, d, tk, os⟩) hh hne ho hd h2 he rfl hsz hE
end

section
variable {Γ : Cx} {k : Nat} {sc : Scope} {σ : Loc} {pos : Pos}
theorem Sx.look {F : Fm} {h₀ : Heap} {s₂ : Shared} {outer : List Env} {e : Addr} {X : String} {tb : Option (Option Addr)} {h : Heap} (X₂ : Sx Γ h₀ sc F σ [] s₂) (x : Eg s₂.heap outer e X tb h) :
    ∃ m, h.Ns F.L m ∧ ∀ y v, σ.lookup y = some v → sc.names.lookup y = some .local → ∃ val, m y = some val ∧ V (Dm F []) s₂.heap v val := by
  obtain ⟨m, hn, hm⟩ := X₂.ns
  exact ⟨m, ns_slots hn fun o ho => x.slots _ o ho, hm⟩
theorem XsX.tryRet {ch ext ep ie er strict : Str} {pc pe pp sp ap ip hpos tpos p1 p2 p3 p4 p5 p6 p7 p8 p9 p10 : Pos} {kd kd2 kd3 kd4 : Nat} {body1 rest : List Stmt} {l : List UInt8} {el : List Nat}
    (hext : Ev Γ k sc σ [] (.Name ext pe) (.bytes l)) (hei : Ev Γ k sc σ [] (.Name ep pp) (.int (l.length : Int))) (hep : σ.lookup ep = some (.int (l.length : Int))) (her : σ.lookup er = some (.str el)) (hz : l.length < 2 ^ 20) (hne : (el == strict.cps.toList) = false)
    (hu : Γ.gl.lookup ie = some (.obj (.type "IndexError"))) (hul : sc.names.lookup ie = some .globalImplicit := by kernel_rfl) (lep : sc.names.lookup ep = some .local := by kernel_rfl) (ler : sc.names.lookup er = some .local := by kernel_rfl)
    (hud : (ie == ("__debug__" : Str)) = false := by decide +kernel) (epd : (ep == ("__debug__" : Str)) = false := by decide +kernel) (erd : (er == ("__debug__" : Str)) = false := by decide +kernel) (hk : sc.kind = .function := by kernel_rfl)
    (hsub : ∀ o i, subscripted (.Name ep pp) false o i = operate [o, i] (getItem o i) := by intro _ _; kernel_rfl) (hsw : ∀ F : Fm, swapsWith (.Subscript (.Name ext pe) (.Name ep pp) sp) (some (.Name ch pc)) ap.line (F.env sc) = pure false := by intro _; kernel_rfl) :
    XsX Γ k sc σ [] (.Try [.Assign [.Name ch pc] (.Subscript (.Name ext pe) (.Name ep pp) sp) ap] [.ExceptHandler (some (.Name ie ip)) none [.If (.Compare (.Name er p1) [.Eq] [.Constant (.str strict) kd p2] p3) body1 [] p4, .Return (some (.Tuple [.BinOp (.Name ep p5) .Add (.Constant (.int 1) kd2 p6) p7, .Constant .none kd3 p8] kd4 p9)) p10] hpos] [] [] tpos :: rest)
      (.tup [.int ((l.length : Int) + 1), .none]) := by
  intro A n F h₀ s Q E outer hn hA hfr hL hff hB X hQ
  refine wpR_execs_cons (try_index hext hei hz hu hul hud hk hsub (hsw F) hn hA hfr hL hff X fun e s₂ s' X₂ x g1 g2 => ?_)
  obtain ⟨m, hn', hm⟩ := X₂.look x
  obtain ⟨v1, hv1, hV1⟩ := hm er _ her ler
  obtain ⟨t1, rfl⟩ := V_str.mp hV1
  obtain ⟨v2, hv2, hV2⟩ := hm ep _ hep lep
  obtain ⟨t2, rfl⟩ := V_int.mp hV2
  refine wpAny_execs_cons (wpAny_If (wpAny_isTrue_Compare1 (wpAny_Name (wpAny_loadName_local (env := F.env sc) hk ler hn' hv1 ?_) erd)))
  refine wpAny_Constant_str (PySem.P.eq_str (wpAny_truthy_bool ?_))
  have hne' : (el.toArray.toList == strict.cps.toList) = false := hne
  rw [hne']
  refine wpAny_execs_nil ?_
  refine wpAny_execs_cons (wpAny_Return_some (wpAny_Tuple ?_))
  refine wpAny_items_cons (wpAny_BinOp (wpAny_Name (wpAny_loadName_local (env := F.env sc) hk lep hn' hv2 ?_) epd)) rfl
  refine wpAny_Constant_int (PyProof.Rows.add_int ?_)
  refine wpAny_items_cons (wpAny_Constant_none ?_) rfl
  refine wpAny_items_nil ⟨by show 2 ≤ sizeLine; decide, ?_⟩
  refine hQ _ _ ⟨fun b o hb hnf => Heap.get?_push_of_some _ (x.keep b o (X₂.keep b o hb) hnf), fun b o hb => ?_⟩ ?_ g1 g2
  · obtain ⟨sl, hsl⟩ := x.slots b o (X₂.keep b o hb)
    exact ⟨sl, Heap.get?_push_of_some _ hsl⟩
  · refine V_tup.mpr ⟨s'.heap.objs.size, _, rfl, ⟨_, Heap.get?_push_size _ rfl, rfl, _, rfl⟩, ?_⟩
    exact Vs_cons.mpr ⟨_, _, rfl, V.int _ _, Vs_cons.mpr ⟨_, _, rfl, V.none, Vs_nil.mpr rfl⟩⟩

theorem X1E.tryRaise {ch ext ep ie er strict ue enc reason : Str} {pc pe pp sp ap ip hpos tpos p1 p2 p3 p4 q1 q2 q3 q4 q5 q6 q7 q8 q9 q10 : Pos} {kd kd2 kd3 kd4 : Nat} {rest1 : List Stmt} {l : List UInt8} {el encl reasl : List Nat} {P : Fl → Loc → Own → Prop} {PE : Mem → Prop}
    (hext : Ev Γ k sc σ [] (.Name ext pe) (.bytes l)) (hei : Ev Γ k sc σ [] (.Name ep pp) (.int (l.length : Int))) (hxt : σ.lookup ext = some (.bytes l)) (hep : σ.lookup ep = some (.int (l.length : Int))) (her : σ.lookup er = some (.str el)) (hz : l.length < 2 ^ 20) (heq : (el == strict.cps.toList) = true)
    (hen : enc.cps.toList = encl) (hre : reason.cps.toList = reasl) (hPE : ∀ m, MemIs encl l (l.length : Int) ((l.length : Int) + 1) reasl m → PE m)
    (hu : Γ.gl.lookup ie = some (.obj (.type "IndexError"))) (huu : Γ.gl.lookup ue = some (.obj (.type "UnicodeDecodeError"))) (hul : sc.names.lookup ie = some .globalImplicit := by kernel_rfl) (huul : sc.names.lookup ue = some .globalImplicit := by kernel_rfl) (lxt : sc.names.lookup ext = some .local := by kernel_rfl) (lep : sc.names.lookup ep = some .local := by kernel_rfl) (ler : sc.names.lookup er = some .local := by kernel_rfl)
    (hud : (ie == ("__debug__" : Str)) = false := by decide +kernel) (huud : (ue == ("__debug__" : Str)) = false := by decide +kernel) (xtd : (ext == ("__debug__" : Str)) = false := by decide +kernel) (epd : (ep == ("__debug__" : Str)) = false := by decide +kernel) (erd : (er == ("__debug__" : Str)) = false := by decide +kernel) (hk : sc.kind = .function := by kernel_rfl)
    (hsub : ∀ o i, subscripted (.Name ep pp) false o i = operate [o, i] (getItem o i) := by intro _ _; kernel_rfl) (hsw : ∀ F : Fm, swapsWith (.Subscript (.Name ext pe) (.Name ep pp) sp) (some (.Name ch pc)) ap.line (F.env sc) = pure false := by intro _; kernel_rfl) :
    X1E Γ k sc σ [] (.Try [.Assign [.Name ch pc] (.Subscript (.Name ext pe) (.Name ep pp) sp) ap] [.ExceptHandler (some (.Name ie ip)) none (.If (.Compare (.Name er p1) [.Eq] [.Constant (.str strict) kd p2] p3) [.Raise (some (.Call (.Name ue q1) [.Constant (.str enc) kd2 q2, .Name ext q3, .Name ep q4, .BinOp (.Name ep q5) .Add (.Constant (.int 1) kd3 q6) q7, .Constant (.str reason) kd4 q8] [] q9)) none q10] [] p4 :: rest1) hpos] [] [] tpos) P PE := by
  intro A n F h₀ s Q E outer hn hA hfr hL hff X hQ hE
  refine try_index hext hei hz hu hul hud hk hsub (hsw F) hn hA hfr hL hff X fun e s₂ s' X₂ x g1 g2 => ?_
  obtain ⟨m, hn', hm⟩ := X₂.look x
  obtain ⟨v1, hv1, hV1⟩ := hm er _ her ler
  obtain ⟨t1, rfl⟩ := V_str.mp hV1
  obtain ⟨v2, hv2, hV2⟩ := hm ep _ hep lep
  obtain ⟨t2, rfl⟩ := V_int.mp hV2
  obtain ⟨v3, hv3, hV3⟩ := hm ext _ hxt lxt
  obtain ⟨t3, rfl⟩ := V_bytes.mp hV3
  refine wpAny_execs_cons (wpAny_If (wpAny_isTrue_Compare1 (wpAny_Name (wpAny_loadName_local (env := F.env sc) hk ler hn' hv1 ?_) erd)))
  refine wpAny_Constant_str (PySem.P.eq_str (wpAny_truthy_bool ?_))
  have heq' : (el.toArray.toList == strict.cps.toList) = true := heq
  rw [heq']
  refine wpAny_execs_cons ?_
  rw [arm_exec_Raise]
  refine wpAny_bind (wpAny_standAt ?_)
  show wpAny _ _ (raiseStmt (F.env sc) (some (do let v ← eval (.Call (.Name ue q1) [.Constant (.str enc) kd2 q2, .Name ext q3, .Name ep q4, .BinOp (.Name ep q5) .Add (.Constant (.int 1) kd3 q6) q7, .Constant (.str reason) kd4 q8] [] q9) (F.env sc); standAt q10; pure v)) none) _ _ _
  refine raise_madeH (hx := e) (by show (some (Value.ref e)).or A.handled = _; rfl) (wpAny_bind (wpAny_Call_ofName ?_))
  have hns : ∀ {c : Addr} {m : Str → Option Value}, Γ.B.Ns c m → s'.heap.Ns c m := fun hm => ns_slots (hm.keeps X₂.base) fun o ho => x.slots _ o ho
  obtain ⟨uv, ⟨mg, hmg, hxg⟩, huv⟩ := X.ok.glob ue _ huu
  have huv' : uv = .type "UnicodeDecodeError" := V_obj.mp (huv (Dm F []) s'.heap)
  subst huv'
  have hld : ∀ (Qx Ex' : Value → Shared → Prop) (Ax : Around) (sx : Shared), sx.heap = s'.heap → Qx (.type "UnicodeDecodeError") sx → wpAny Γ.M Ax (eval (.Name ue q1) (F.env sc)) Qx Ex' sx := by
    intro Qx Ex' Ax sx hsx hq
    refine Name_function_global (env := F.env sc) hk huul ?_ huud
    rcases hxg with hxg | ⟨hxg, mb, hmb, hyg⟩
    · exact loadGlobal_global (env := F.env sc) (by rw [hsx]; exact hns hmg) hxg hq
    · exact loadGlobal_builtin (env := F.env sc) (by rw [hsx]; exact hns hmg) hxg (by rw [hsx]; exact hns hmb) hyg hq
  refine hld _ _ _ _ rfl ?_
  refine PyProof.Rows.callWith_type1 ?_
  refine wpAny_items_cons (wpAny_Constant_str ?_) rfl
  refine wpAny_items_cons (wpAny_Name (wpAny_loadName_local (env := F.env sc) hk lxt hn' hv3 ?_) xtd) rfl
  refine wpAny_items_cons (wpAny_Name (wpAny_loadName_local (env := F.env sc) hk lep hn' hv2 ?_) epd) rfl
  refine wpAny_items_cons (wpAny_BinOp (wpAny_Name (wpAny_loadName_local (env := F.env sc) hk lep hn' hv2 ?_) epd)) rfl
  refine wpAny_Constant_int (PyProof.Rows.add_int ?_)
  refine wpAny_items_cons (wpAny_Constant_str ?_) rfl
  refine wpAny_items_nil ?_
  have eenc : enc = ⟨encl.toArray⟩ := by rw [← hen]
  have ereas : reason = ⟨reasl.toArray⟩ := by rw [← hre]
  rw [eenc, ereas]
  refine call_ude (by omega) (by omega) fun h' e' t hkp hen' he' => ?_
  obtain ⟨oe, ws, tbv, hoe, hoc, hod, ho1, ho2, htb⟩ := x.obj
  have hne : e ≠ e' := fun q => by rw [← q] at hen'; rw [show _ = some oe from hoe] at hen'; cases hen'
  refine wpAny_bind (wpAny_standAt (wpAny_pure ⟨e', _, oe, ws, rfl, he', rfl, by show 2 < 11; decide, hne, hkp _ _ hoe, hod, ho2, ?_⟩))
  have hs3 := Heap.SameBut.update h' e' (Obj.mapFields (·.setIfInBounds 2 (Value.ref e)))
  have new2 : s₂.heap.get? e' = none := by
    cases q : s₂.heap.get? e' with
    | none => rfl
    | some o => obtain ⟨sl, hsl⟩ := x.slots _ o q; rw [show _ = some _ from hsl] at hen'; cases hen'
  have go : ∀ b o, s'.heap.get? b = some o → (h'.update e' (Obj.mapFields (·.setIfInBounds 2 (Value.ref e)))).get? b = some o := fun b o hb => (hs3.2 b (fun q => by rw [q] at hb; rw [show _ = some o from hb] at hen'; cases hen')).trans (hkp b o hb)
  have xE : ∀ (mm : Mem) (tt : Value), h'.get? e' = some (udeObj (udeVs tt .none .none .none (.bool false) .none mm)) → Ex s₂.heap (F.env sc :: outer) e' mm none (h'.update e' (Obj.mapFields (·.setIfInBounds 2 (Value.ref e)))) := fun mm tt hg => by
    refine ⟨fun b o hb hnf => go b o (x.keep b o hb hnf), fun b o hb => ?_, x.funf.of_keeps fun b o hb _ => ⟨o, go b o hb, rfl⟩, new2, tt, .none, .ref e, .none, .bool false, .none, ?_, rfl⟩
    · obtain ⟨sl, hsl⟩ := x.slots b o hb
      exact ⟨sl, go b _ hsl⟩
    · exact Heap.get?_update_self (Obj.mapFields (·.setIfInBounds 2 (Value.ref e))) hg rfl
  have x0 := xE _ _ he'
  show wpAny _ _ (noteFrame _ _) _ _ _
  refine note_ex (outer := outer) (L := F.L) (by exact hfr) hL x0 (.inl rfl) fun h4 x4 => ?_
  obtain ⟨t4, tbv4, ctx, cs, sup, nt, he4, htv4⟩ := id x4.obj
  obtain ⟨T, ts, rfl, hT0, hTe, hT, h3⟩ := htv4
  show wpAny _ _ (do
    if (← field (.ref e') 1) == .none then unsupported "frame.own-activation:exception-without-traceback"
    setFlight (.ref e') (F.env sc).frame) _ _ _
  refine wpAny_bind (wpAny_field he4 rfl rfl ?_)
  rw [if_neg (by show ¬ ((Value.ref T == Value.none) = true); simp)]
  rw [show (F.env sc).frame = some F.L from hL]
  refine setFlight_ex x4 fun h5 x5 => ?_
  exact hE _ e' _ _ (hPE _ ⟨_, _, _, rfl⟩) (x5.mono X₂.keep) (.inr (.inr rfl)) g1 g2
end
end Mine

set_option maxRecDepth 100000
namespace Mine
/-! ## going on after a call that caught something -/
/-- the old heap with the objects of now -/
noncomputable def cutH (h₀ h : Heap) : Heap := { h₀ with objs := h₀.objs.mapIdx fun b o => match h₀.get? b, h.get? b with | some _, some o' => o' | _, _ => o }
theorem get?_raw {h : Heap} {b : Addr} {o : Obj} (e : h.get? b = some o) : h.objs[b]? = some o ∧ o.data ≠ .freed := by
  unfold Heap.get? at e
  cases q : h.objs[b]? with
  | none => rw [q] at e; cases e
  | some p =>
    rw [q] at e
    obtain ⟨c, d, dt, sl⟩ := p
    cases dt <;> first | (cases e; done) | (cases e; exact ⟨rfl, by simp⟩)
theorem get?_of_raw {h : Heap} {b : Addr} {o : Obj} (e : h.objs[b]? = some o) (hf : o.data ≠ .freed) : h.get? b = some o := by
  unfold Heap.get?
  rw [e]
  obtain ⟨c, d, dt, sl⟩ := o
  cases dt <;> first | rfl | exact absurd rfl hf
theorem cutH_raw {h₀ h : Heap} {b : Addr} : (cutH h₀ h).objs[b]? = (h₀.objs[b]?).map fun o => match h₀.get? b, h.get? b with | some _, some o' => o' | _, _ => o := by
  unfold cutH
  simp only [Array.getElem?_mapIdx]
theorem cutH_none {h₀ h : Heap} {b : Addr} (e : h₀.get? b = none) : (cutH h₀ h).get? b = none := by
  cases q : (cutH h₀ h).get? b with
  | none => rfl
  | some o =>
    obtain ⟨r1, r2⟩ := get?_raw q
    rw [cutH_raw, e] at r1
    simp only [Option.map_id'] at r1
    rw [get?_of_raw r1 r2] at e
    cases e
theorem cutH_some {h₀ h : Heap} {b : Addr} {o o' : Obj} (e : h₀.get? b = some o) (e' : h.get? b = some o') : (cutH h₀ h).get? b = some o' := by
  refine get?_of_raw ?_ (get?_raw e').2
  rw [cutH_raw, e, e', (get?_raw e).1]
  rfl
noncomputable def atomV : PV → Bool
  | .none | .bool _ | .int _ | .str _ | .bytes _ | .obj _ => true
  | _ => false
theorem V.atomV {D D' : Addr → Prop} {h h' : Heap} {p : PV} {v : Value} (ha : atomV p = true) (e : V D h p v) : V D' h' p v := by
  cases p with
  | none => rw [V_none] at *; exact e
  | bool b => rw [V_bool] at *; exact e
  | int i => rw [V_int] at *; exact e
  | str l => rw [V_str] at *; exact e
  | bytes l => rw [V_bytes] at *; exact e
  | obj v => rw [V_obj] at *; exact e
  | _ => cases ha
section
variable {Γ : Cx} {k : Nat} {sc : Scope} {σ σ' : Loc} {pos : Pos} {r : PV}
theorem Sx.slotsA {F : Fm} {h₀ : Heap} {s s' : Shared} {outer : List Env} (X : Sx Γ h₀ sc F σ [] s) (kf : KpF (F.env sc :: outer) s.heap s'.heap) (hL : F.fr = some F.L) (hB : ∀ b ∈ fr outer, Γ.B.get? b = none) (hat : σ.all (fun x => atomV x.2) = true) :
    Sx Γ (cutH h₀ s'.heap) sc F σ [] s' := by
  have hbase : Kp Γ.B s'.heap := fun b o hb => kf.keep b o (X.base b o hb) fun hm => by
    unfold fr at hm
    rw [List.filterMap_cons, show (F.env sc).frame = some F.L from hL] at hm
    rcases List.mem_cons.mp hm with q | q
    · have := X.baseh b o hb; rw [q, X.newL] at this; cases this
    · have := hB b q; rw [hb] at this; cases this
  have hcell : ∀ {c : Addr} {v : Option Value}, s.heap.IsCell c v → s'.heap.IsCell c v := fun ⟨o, ho, hd⟩ => by
    obtain ⟨sl, hsl⟩ := kf.slots _ o ho
    exact ⟨_, hsl, hd⟩
  have hsome : ∀ b, (h₀.get? b).isSome → ((cutH h₀ s'.heap).get? b).isSome := fun b hb => by
    obtain ⟨o, ho⟩ := Option.isSome_iff_exists.mp hb
    obtain ⟨sl, hsl⟩ := kf.slots b o (X.keep b o ho)
    rw [cutH_some ho hsl]; rfl
  have hal : ∀ x v, σ.lookup x = some v → atomV v = true := fun x v hx => by
    obtain ⟨l₁, l₂, he, _⟩ := List.lookup_eq_some_iff.mp hx
    exact List.all_eq_true.mp hat (x, v) (by rw [he]; simp)
  refine ⟨⟨X.ok, hbase, ?_, fun x v h1 h2 => ?_, fun _ _ hm => (nomatch hm), fun b hb => ?_⟩, fun b o hb => ?_, fun b o hb => cutH_some (X.baseh b o hb) (hbase b o hb), cutH_none X.newL, fun x hx => ?_, fun x c hx => ?_, X.cellsApart, fun b hb => (nomatch hb), fun b hb => hsome b (X.dold b hb), List.nodup_nil⟩
  · obtain ⟨m, hn, hm⟩ := X.ns
    refine ⟨m, ns_slots hn fun o ho => kf.slots _ o ho, fun x v h1 h2 => ?_⟩
    obtain ⟨val, e1, e2⟩ := hm x v h1 h2
    exact ⟨val, e1, e2.atomV (hal x v h1)⟩
  · obtain ⟨c, val, e1, e2, e3⟩ := X.cel x v h1 h2
    exact ⟨c, val, e1, hcell e2, e3.atomV (hal x v h1)⟩
  · obtain ⟨o, ho⟩ := Option.isSome_iff_exists.mp (X.dal b hb)
    obtain ⟨sl, hsl⟩ := kf.slots b o ho
    rw [hsl]; rfl
  · cases q : h₀.get? b with
    | none => rw [cutH_none q] at hb; cases hb
    | some o0 =>
      obtain ⟨sl, hsl⟩ := kf.slots b o0 (X.keep b o0 q)
      rw [cutH_some q hsl] at hb; cases hb
      exact hsl
  · obtain ⟨c, v, e1, e2, e3⟩ := X.cells x hx
    exact ⟨c, v, e1, cutH_none e2, hcell e3⟩
  · obtain ⟨v, e⟩ := X.cellsAll x c hx
    exact ⟨v, hcell e⟩
theorem funf_cut {h₀ : Heap} {s s' : Shared} {l l' : List Env} (hff : h₀.FunFrames noHeap l) (hk : Kp h₀ s.heap) (kf : KpF l' s.heap s'.heap) : (cutH h₀ s'.heap).FunFrames noHeap l :=
  hff.of_keeps fun b o hb _ => by
    obtain ⟨sl, hsl⟩ := kf.slots b o (hk b o hb)
    exact ⟨_, cutH_some hb hsl, rfl⟩
theorem KpF.cut {h₀ : Heap} {s s' : Shared} {h : Heap} {l : List Env} (hk : Kp h₀ s.heap) (kf : KpF l s.heap s'.heap) (x : KpF l (cutH h₀ s'.heap) h) : KpF l h₀ h where
  keep := fun b o hb hn => x.keep b o (cutH_some hb (kf.keep b o (hk b o hb) hn)) hn
  slots := fun b o hb => by
    obtain ⟨sl, hsl⟩ := kf.slots b o (hk b o hb)
    obtain ⟨sl', hsl'⟩ := x.slots b _ (cutH_some hb hsl)
    exact ⟨sl', hsl'⟩
theorem XsX.of {sts : List Stmt} (h : Xs Γ k sc σ [] sts (fun fl _ μ' => fl = .ret r ∧ μ' = [])) : XsX Γ k sc σ [] sts r := by
  intro A n F h₀ s Q E outer hn hA hfr hL hff hB X hQ
  refine h A n F h₀ s Q E hn hA X fun fl σ' μ' f s' hP X' sp hf => ?_
  obtain ⟨rfl, rfl⟩ := hP
  obtain ⟨val, rfl, hv⟩ := hf
  exact hQ val s' ⟨fun b o hb _ => X'.keep b o hb, fun b o hb => ⟨o.slots, X'.keep b o hb⟩⟩ (hv.less fun b o _ hb => .inl hb) sp.gens sp.os
/-- x, y = f(..), where f caught something -/
theorem XsX.assignT {elts : List Expr} {kd : Nat} {f : Str} {tp fp cp ap : Pos} {args : List Expr} {fv : Value} {vs : List PV} {v : PV} {σ₁ : Loc} {rest : List Stmt} (hf : Ev Γ k sc σ [] (.Name f fp) (.obj fv)) (hkp : KeepOk Γ fv) (ha : Es Γ k sc σ [] cp args vs) (hc : CallX Γ k fv vs v)
    (has : As Γ k sc σ [] (.Tuple elts kd tp) v σ₁) (hr : XsX Γ k sc σ₁ [] rest r) (hat : σ.all (fun x => atomV x.2) = true) (hp : args.any isStarred = false := by kernel_rfl) (hk : sc.kind = .function := by kernel_rfl)
    (hs : ∀ F : Fm, swapsWithSole [.Tuple elts kd tp] (.Call (.Name f fp) args [] cp) ap.line (F.env sc) = pure false := by intro _; kernel_rfl)
    (hw : ∀ F : Fm, swappedStores [.Tuple elts kd tp] (.Call (.Name f fp) args [] cp) (F.env sc) = pure none := by intro _; kernel_rfl) : XsX Γ k sc σ [] (.Assign [.Tuple elts kd tp] (.Call (.Name f fp) args [] cp) ap :: rest) r := by
  intro A n F h₀ s Q E outer hn hA hfr hL hff hB X hQ
  refine wpR_execs_cons (wpR_Assign_Tuple ?_ (hs F) (hw F))
  refine wpR_CallName (hf A n F s _ _ hn hA X.toSt fun fv' s₁ g₁ hfv => ?_)
  rw [V_obj] at hfv; subst hfv
  refine wpR_callWith (P := fun h => Kp Γ.B h) (starEach_plain_any args hp) hkp ?_
  refine wpR_evalArgs hp (ha A n F s₁ _ _ hn hA (X.grow g₁).toSt fun vals s₂ g₂ hvs => ?_)
  have X₂ := (X.grow g₁).grow g₂
  refine ⟨X₂.base, ?_⟩
  show wpR _ _ (PySem.call fv' ([] ++ vals) []) _ E s₂
  refine hc A n (Dm F []) s₂ vals _ E _ hn hA hfr (X₂.funf hk hL hff (fun _ _ e => e)) (fun b hb => ?_) X.ok X₂.base hvs X₂.toSt.dom fun val s₃ kf hv g3 o3 => ?_
  · unfold fr at hb
    rw [List.filterMap_cons, show (F.env sc).frame = some F.L from hL] at hb
    rcases List.mem_cons.mp hb with q | q
    · cases q' : Γ.B.get? b with
      | none => rfl
      | some o => have := X.baseh _ o q'; rw [q, X.newL] at this; cases this
    · exact hB b q
  have X₃ := X₂.slotsA kf hL hB hat
  refine toR (has A n F _ s₃ val _ _ hn hA X₃ hv fun s₄ X₄ sp₄ => ?_)
  refine hr A n F _ s₄ Q E outer hn hA hfr hL (funf_cut hff X₂.keep kf) hB X₄ fun val' s₅ k₅ v₅ g₅ o₅ => ?_
  exact hQ val' s₅ (KpF.cut X₂.keep kf k₅) v₅ (g₅.trans (sp₄.gens.trans (g3.trans (g₁.trans g₂).gens))) (o₅.trans (sp₄.os.trans (o3.trans (g₁.trans g₂).os)))
/-- x, y = f(..), where f raises -/
theorem X1E.assignT {elts : List Expr} {kd : Nat} {f : Str} {tp fp cp ap : Pos} {args : List Expr} {fv : Value} {vs : List PV} {μ : Own} {P : Fl → Loc → Own → Prop} {PE : Mem → Prop} (hf : Ev Γ k sc σ μ (.Name f fp) (.obj fv)) (hkp : KeepOk Γ fv) (ha : Es Γ k sc σ μ cp args vs) (hc : CallE Γ k fv vs PE)
    (hp : args.any isStarred = false := by kernel_rfl) (hk : sc.kind = .function := by kernel_rfl)
    (hs : ∀ F : Fm, swapsWithSole [.Tuple elts kd tp] (.Call (.Name f fp) args [] cp) ap.line (F.env sc) = pure false := by intro _; kernel_rfl)
    (hw : ∀ F : Fm, swappedStores [.Tuple elts kd tp] (.Call (.Name f fp) args [] cp) (F.env sc) = pure none := by intro _; kernel_rfl) : X1E Γ k sc σ μ (.Assign [.Tuple elts kd tp] (.Call (.Name f fp) args [] cp) ap) P PE := by
  intro A n F h₀ s Q E outer hn hA hfr hL hff X hQ hE
  exact wpR_Assign_Tuple (raise_call hf hkp ha hc hp hk hn hA hfr hL hff X fun m e s₂ s' hm X₂ g hx g1 g2 => hE m e _ s' hm (hx.mono X₂.keep) (.inr (.inl rfl)) g1 g2) (hs F) (hw F)
end
end Mine

set_option maxRecDepth 100000
namespace Mine
section
variable {Γ : Cx} {k : Nat} {sc : Scope} {σ σ' : Loc} {pos : Pos}
theorem fr_one {F : Fm} (hL : F.fr = some F.L) : fr [F.env sc] = [F.L] := by
  unfold fr
  rw [List.filterMap_cons, show (F.env sc).frame = some F.L from hL]
  rfl
/-- if f(..) != y: .., where f caught something and gives y -/
theorem XsT.ifX {f y : Str} {fp yp cp cpos ip : Pos} {args : List Expr} {fv : Value} {vs : List PV} {r v : PV} {body rest : List Stmt} (hf : Ev Γ k sc σ [] (.Name f fp) (.obj fv)) (hkp : KeepOk Γ fv) (ha : Es Γ k sc σ [] cp args vs) (hc : CallX Γ k fv vs r) (hy : Ev Γ k sc σ [] (.Name y yp) v)
    (ho : Op2 Γ (compareOp .NotEq) r v (.bool false)) (hr : XsT Γ k sc σ [] rest) (hra : atomV r = true) (hat : σ.all (fun x => atomV x.2) = true)
    (hp : args.any isStarred = false := by kernel_rfl) (hk : sc.kind = .function := by kernel_rfl) (hm : behindInMarks .NotEq (.Name y yp) = false := by kernel_rfl) :
    XsT Γ k sc σ [] (.If (.Compare (.Call (.Name f fp) args [] cp) [.NotEq] [.Name y yp] cpos) body [] ip :: rest) := by
  intro A n F h₀ s Q E hn hA hfr hL X hQ
  refine wpR_execs_cons (wpR_If (wpR_isTrue_Compare1 ?_ hm))
  refine wpR_CallName (hf A n F s _ _ hn hA X.toSt fun fv' s₁ g₁ hfv => ?_)
  rw [V_obj] at hfv; subst hfv
  refine wpR_callWith (P := fun h => Kp Γ.B h) (starEach_plain_any args hp) hkp ?_
  refine wpR_evalArgs hp (ha A n F s₁ _ _ hn hA (X.grow g₁).toSt fun vals s₂ g₂ hvs => ?_)
  have X₂ := (X.grow g₁).grow g₂
  refine ⟨X₂.base, ?_⟩
  show wpR _ _ (PySem.call fv' ([] ++ vals) []) _ E s₂
  have hff : h₀.FunFrames noHeap [] := trivial
  have hB0 : ∀ b ∈ fr ([] : List Env), Γ.B.get? b = none := fun b hb => (nomatch hb)
  refine hc A n (Dm F []) s₂ vals _ E [F.env sc] hn hA hfr (X₂.funf hk hL hff (fun _ _ e => e)) (fun b hb => ?_) X.ok X₂.base hvs X₂.toSt.dom fun val s₃ kf hv g3 o3 => ?_
  · rw [fr_one hL, List.mem_singleton] at hb; subst hb
    cases q : Γ.B.get? F.L with
    | none => rfl
    | some o => have := X.baseh _ o q; rw [X.newL] at this; cases this
  have X₃ := X₂.slotsA kf hL hB0 hat
  refine hy A n F s₃ _ _ hn hA X₃.toSt fun vy s₄ g₄ hvy => ?_
  have X₄ := X₃.grow g₄
  refine toR (ho A n (Dm F []) s₄ val vy _ _ (by omega) hA X.ok X₄.base (hv.atomV hra) hvy X₄.toSt.dom fun rv s₅ g₅ hrv => ?_)
  rw [V_bool] at hrv; subst hrv
  refine toR (wpAny_truthy_bool ?_)
  show wpR _ _ (execs [] _) _ _ _
  refine toR (wpAny_execs_nil ?_)
  refine hr A n F _ s₅ Q E hn hA hfr hL (X₄.grow g₅) fun s₆ k₆ g₆ o₆ => ?_
  refine hQ s₆ (fun b o hb => k₆ b o (cutH_some hb (kf.keep b o (X₂.keep b o hb) fun hm => ?_))) (g₆.trans (g₅.gens.trans (g₄.gens.trans (g3.trans (g₁.trans g₂).gens)))) (o₆.trans (g₅.os.trans (g₄.os.trans (o3.trans (g₁.trans g₂).os))))
  rw [fr_one hL, List.mem_singleton] at hm
  rw [hm, X.newL] at hb; cases hb

/-- try: x = f(..) / except UnicodeDecodeError as fault: return a > 0 and (fault.start, fault.end, fault.object) == (due, due + 1, common) -/
theorem XsT.tryFault {told f ue fault al due common : Str} {t1 fp cp ap up p1 p2 p3 p4 p5 p6 p7 p8 p9 p10 p11 p12 p13 p14 p15 q1 q2 q3 rp hpos tpos : Pos} {kd kd2 kd3 kd4 : Nat} {args : List Expr} {vs : List PV} {fv : Value} {enc reason : List Nat} {obj : List UInt8} {a i : Int} {rest : List Stmt}
    (hf : Ev Γ k sc σ [] (.Name f fp) (.obj fv)) (hkp : KeepOk Γ fv) (ha : Es Γ k sc σ [] cp args vs) (hc : CallE Γ k fv vs (MemIs enc obj i (i + 1) reason))
    (hal : σ.lookup al = some (.int a)) (ha0 : 0 < a) (hdue : σ.lookup due = some (.int i)) (hcom : σ.lookup common = some (.bytes obj))
    (hu : Γ.gl.lookup ue = some (.obj (.type "UnicodeDecodeError")))
    (hul : sc.names.lookup ue = some .globalImplicit := by kernel_rfl) (hfl : sc.names.lookup fault = some .local := by kernel_rfl) (lal : sc.names.lookup al = some .local := by kernel_rfl) (ldue : sc.names.lookup due = some .local := by kernel_rfl) (lcom : sc.names.lookup common = some .local := by kernel_rfl)
    (hne : fault ≠ al ∧ fault ≠ due ∧ fault ≠ common := by decide +kernel)
    (hud : (ue == ("__debug__" : Str)) = false := by decide +kernel) (hfd : (fault == ("__debug__" : Str)) = false := by decide +kernel) (ald : (al == ("__debug__" : Str)) = false := by decide +kernel) (dued : (due == ("__debug__" : Str)) = false := by decide +kernel) (comd : (common == ("__debug__" : Str)) = false := by decide +kernel)
    (hp : args.any isStarred = false := by kernel_rfl) (hk : sc.kind = .function := by kernel_rfl)
    (hsw : ∀ F : Fm, swapsWith (.Call (.Name f fp) args [] cp) (some (.Name told t1)) ap.line (F.env sc) = pure false := by intro _; kernel_rfl) :
    XsT Γ k sc σ [] (.Try [.Assign [.Name told t1] (.Call (.Name f fp) args [] cp) ap] [.ExceptHandler (some (.Name ue up)) (some fault) [.Return (some (.BoolOp .And [.Compare (.Name al p1) [.Gt] [.Constant (.int 0) kd p2] p3, .Compare (.Tuple [.Attribute (.Name fault p4) "start" q1, .Attribute (.Name fault p5) "end" q2, .Attribute (.Name fault p6) "object" q3] kd2 p7) [.Eq] [.Tuple [.Name due p8, .BinOp (.Name due p9) .Add (.Constant (.int 1) kd3 p10) p11, .Name common p12] kd4 p13] p14] p15)) rp] hpos] [] [] tpos :: rest) := by
  intro A n F h₀ s Q E hn hA hfr hL X hQ
  have hkp' : ((F.env sc).scope.kind == .class || ((F.env sc).scope.kind == .module && (F.env sc).locals != (F.env sc).globals)) = false := by
    show (sc.kind == .class || (sc.kind == .module && _)) = false
    rw [hk]; rfl
  have hff : h₀.FunFrames noHeap [] := trivial
  refine wpR_execs_cons ?_
  rw [arm_exec_Try]
  refine wpR_bind (wpR_standAt (wpR_tryStmt ?_))
  refine wpR_execs_cons (wpR_Assign_Name (raise_call hf hkp ha hc hp hk hn hA hfr hL hff X fun m e s₂ s' hm X₂ g hx g1 g2 => ?_) (hsw F))
  refine toR (note_ex hfr hL hx (.inr (.inl rfl)) fun h1 x1 => toR (setFlight_ex (s := { s' with heap := h1 }) (fl' := none) x1 fun h2 x2 => ?_))
  have hns : ∀ {h : Heap} {tb : Option (Option Addr)} {c : Addr} {m' : Str → Option Value}, Ex s₂.heap [F.env sc] e m tb h → Γ.B.Ns c m' → h.Ns c m' := fun x hm => ns_slots (hm.keeps X₂.base) fun o ho => x.slots _ o ho
  refine toR (PySem.wpAny_handleBy_builtin_as (X := "UnicodeDecodeError") (T := "UnicodeDecodeError") (b := true) Mine.F.ude_isExc (by rw [isSubtype_type]; kernel_rfl) Mine.F.ude_self ?_)
  obtain ⟨uv, ⟨mg, hmg, hxg⟩, huv⟩ := X.ok.glob ue _ hu
  have huv' : uv = .type "UnicodeDecodeError" := V_obj.mp (huv (Dm F []) h2)
  subst huv'
  obtain ⟨t0, tb0, ctx0, cs0, sup0, nt0, he2, _⟩ := id x2.obj
  have hld : ∀ (Qx Ex' : Value → Shared → Prop) (Ax : Around), Qx (.type "UnicodeDecodeError") { s' with heap := h2 } → wpAny Γ.M Ax (eval (.Name ue up) (F.env sc)) Qx Ex' { s' with heap := h2 } := by
    intro Qx Ex' Ax hq
    refine Name_function_global (env := F.env sc) hk hul ?_ hud
    rcases hxg with hxg | ⟨hxg, mb, hmb, hyg⟩
    · exact loadGlobal_global (env := F.env sc) (hns x2 hmg) hxg hq
    · exact loadGlobal_builtin (env := F.env sc) (hns x2 hmg) hxg (hns x2 hmb) hyg hq
  refine hld _ _ _ ⟨rfl, ⟨_, he2, rfl⟩, ?_⟩
  simp only [if_true]
  refine setFlight_ex (s := { s' with heap := h2 }) (fl' := none) x2 fun h3 x3 => ?_
  obtain ⟨t3, tb3, ctx3, cs3, sup3, nt3, he3, _⟩ := id x3.obj
  obtain ⟨mL, hnL, hmv⟩ := X₂.ns
  have hn3 : h3.Ns F.L mL := ns_slots hnL fun o ho => x3.slots _ o ho
  have heL : e ≠ F.L := fun q => by
    obtain ⟨oL, es, ep, hoL, hdL, _⟩ := hn3
    rw [← q, he3] at hoL; cases hoL; cases hdL
  refine wpAny_storeName_local (env := F.env sc) hfl hn3 (fun h4 hn4 hs4 => ?_) hkp'
  have he4 : h4.get? e = some (udeObj (udeVs t3 tb3 ctx3 cs3 sup3 nt3 m)) := (hs4.2 e heL).trans he3
  obtain ⟨k1, k2, k5, rfl⟩ := hm
  have hnm : ∀ (sx : Shared) (Qx Ex' : Value → Shared → Prop) (px : Pos) (Ax : Around), sx.heap = h4 → Qx (.ref e) sx → wpAny Γ.M Ax (eval (.Name fault px) (F.env sc)) Qx Ex' sx := by
    intro sx Qx Ex' px Ax hsx hq
    refine wpAny_Name (wpAny_loadName_local (env := F.env sc) (m := fun x => if x = fault then some (Value.ref e) else mL x) hk hfl (by rw [hsx]; exact hn4) (if_pos rfl) hq) hfd
  obtain ⟨v1, hv1, hV1⟩ := hmv al _ hal lal
  obtain ⟨u1, rfl⟩ := V_int.mp hV1
  obtain ⟨v2, hv2, hV2⟩ := hmv due _ hdue ldue
  obtain ⟨u2, rfl⟩ := V_int.mp hV2
  obtain ⟨v3, hv3, hV3⟩ := hmv common _ hcom lcom
  obtain ⟨u3, rfl⟩ := V_bytes.mp hV3
  refine wpAny_execs_cons (wpAny_Return_some (wpAny_And2 ?_))
  refine wpAny_Compare1 (wpAny_Name (wpAny_loadName_local (env := F.env sc) (m := fun x => if x = fault then some (Value.ref e) else mL x) hk lal hn4 (by rw [if_neg (Ne.symm hne.1)]; exact hv1) ?_) ald)
  refine wpAny_Constant_int (PyProof.Rows.gt_int (wpAny_truthy_bool ?_))
  rw [decide_eq_true ha0, if_pos rfl]
  refine wpAny_Compare1 (wpAny_Tuple ?_)
  refine wpAny_items_cons (Attribute_name (hnm _ _ _ _ _ rfl (attr_int Mine.F.u_start he4 fun tx3 tk3 => ?_))) rfl
  refine wpAny_items_cons (Attribute_name (hnm _ _ _ _ _ rfl (attr_int Mine.F.u_end he4 fun tx4 tk4 => ?_))) rfl
  refine wpAny_items_cons (Attribute_name (hnm _ _ _ _ _ rfl (attr_bytes Mine.F.u_object he4 rfl fun tk2 => ?_))) rfl
  refine wpAny_items_nil ⟨by show 3 ≤ sizeLine; decide, ?_⟩
  have hLt : F.L < h4.objs.size := by obtain ⟨oL, es, ep, hoL, _⟩ := hn4; exact Heap.lt_size hoL
  dsimp only
  generalize ho5 : ({ cls := .type "tuple", data := .seq [Value.int i tx3, Value.int (i + 1) tx4, .bytes obj.toArray k2].toArray } : Obj) = o5
  have hn5 : (h4.push o5).Ns F.L (fun x => if x = fault then some (Value.ref e) else mL x) := hn4.keeps (Kp.push _ _)
  refine wpAny_Tuple ?_
  refine wpAny_items_cons (wpAny_Name (wpAny_loadName_local (env := F.env sc) (m := fun x => if x = fault then some (Value.ref e) else mL x) hk ldue hn5 (by rw [if_neg (Ne.symm hne.2.1)]; exact hv2) ?_) dued) rfl
  refine wpAny_items_cons (wpAny_BinOp (wpAny_Name (wpAny_loadName_local (env := F.env sc) (m := fun x => if x = fault then some (Value.ref e) else mL x) hk ldue hn5 (by rw [if_neg (Ne.symm hne.2.1)]; exact hv2) ?_) dued)) rfl
  refine wpAny_Constant_int (PyProof.Rows.add_int ?_)
  refine wpAny_items_cons (wpAny_Name (wpAny_loadName_local (env := F.env sc) (m := fun x => if x = fault then some (Value.ref e) else mL x) hk lcom hn5 (by rw [if_neg (Ne.symm hne.2.2)]; exact hv3) ?_) comd) rfl
  refine wpAny_items_nil ⟨by show 3 ≤ sizeLine; decide, ?_⟩
  dsimp only
  generalize ho6 : ({ cls := .type "tuple", data := .seq [Value.int i u2, Value.int (i + 1) _, .bytes obj.toArray u3].toArray } : Obj) = o6
  have hn6 : ((h4.push o5).push o6).Ns F.L (fun x => if x = fault then some (Value.ref e) else mL x) := hn5.keeps (Kp.push _ _)
  have hT5 : ((h4.push o5).push o6).IsTuple h4.objs.size #[Value.int i tx3, Value.int (i + 1) tx4, .bytes obj.toArray k2] := ⟨_, Heap.get?_push_of_some _ (Heap.get?_push_size _ (by rw [← ho5]; rfl)), by rw [← ho5], _, by rw [← ho5]⟩
  have hT6 : ((h4.push o5).push o6).IsTuple (h4.push o5).objs.size #[Value.int i u2, Value.int (i + 1) _, .bytes obj.toArray u3] := ⟨_, Heap.get?_push_size _ (by rw [← ho6]; rfl), by rw [← ho6], _, by rw [← ho6]⟩
  refine PySem.SeqAt.eq_tupleAt (e := fun _ => true) hT5 hT6 (by have := hA.room (by omega); show A.units < _; omega) (fun j h1 h2 => ?_) ?_
  · have hj : j < 3 := h1
    rcases j with _ | _ | _ | j
    · exact eqAt_same (D := fun _ => False) (p := .int i) rfl (V.int _ _) (V.int _ _)
    · exact eqAt_same (D := fun _ => False) (p := .int (i + 1)) rfl (V.int _ _) (V.int _ _)
    · exact eqAt_same (D := fun _ => False) (p := .bytes obj) rfl (V.bytes _ _) (V.bytes _ _)
    · omega
  refine wpAny_nameGoes (env := F.env sc) hfl hn6 hkp' fun h7 m7 hn7 hs7 => ?_
  refine hQ _ (fun b o hb => ?_) g1 g2
  have hbL : b ≠ F.L := fun q => by rw [q, X.newL] at hb; cases hb
  have h3' := x3.keep b o (X₂.keep b o hb) (fun hmem => by rw [fr_one hL, List.mem_singleton] at hmem; exact hbL hmem)
  exact (hs7.2 b hbL).trans (Heap.get?_push_of_some _ (Heap.get?_push_of_some _ ((hs4.2 b hbL).trans h3')))
end
end Mine

set_option maxRecDepth 100000
namespace Mine
section
variable {Γ : Cx} {k : Nat} {sc : Scope} {σ : Loc} {μ : Own} {pos : Pos}
/-- xs * i, a list of one's own -/
theorem EvN.mulL {l r : Expr} {xs : List PV} {i : Int} (hl : Ev Γ k sc σ μ l (.lst xs)) (hr : Ev Γ k sc σ μ r (.int i)) (hlo : -(2 ^ 62 : Int) ≤ i) (hhi : i < 2 ^ 62) (h : xs.length * i.toNat < 2 ^ 20) : EvN Γ k sc σ μ (.BinOp l .Mult r pos) (.list (List.replicate i.toNat xs).flatten) := by
  intro A n F s Q E hn hA st hQ
  refine wpR_BinOp (hl A n F s _ _ hn hA st fun x s₁ g₁ hx => hr A n F s₁ _ _ hn hA (st.grow g₁) fun y s₂ g₂ hy => toR ?_)
  obtain ⟨l, items, rfl, _, ⟨⟨cls, d, data, sl⟩, ho, hc, m, hd⟩, e1⟩ := V_lst.mp (hx.grow g₂.keep)
  obtain ⟨u, rfl⟩ := V_int.mp hy
  simp only at hc hd
  subst hc hd
  have h1 : items.size = xs.length := by simpa using e1.length
  have hsz' : items.size * i.toNat ≤ 2 ^ 20 := by rw [h1]; omega
  refine wpAny_binaryOp_repeat_ref (T := "list") (U := "int") (by decide) ⟨_, ho, rfl⟩ (fun s' => typeIs_int s' i u) noFill_list_mul PySem.F.fills_int_mul PySem.F.slot_int_rmul repeat_list PySem.F.slot_int_index.lookup
    (call_meets PySem.F.slot_int_rmul (typeIs_int s₂ i u) PySem.F.entry_int_rmul (PySem.F.args_int_rmul_2 _ _) (lm_int_rmul_list_any i u l items m d sl)
      ⟨ho, rfl, ⟨_, ho, rfl⟩, call_meets PySem.F.slot_list_mul ⟨_, ho, rfl⟩ PySem.F.entry_list_mul (PySem.F.args_list_mul_2 _ _)
        (lm_list_mul_any l items m d sl i u (by simp [Builtin.List.listFitsIndex]; omega) (by omega) (by simp [Builtin.List.listTooLong, sizeLine]; omega))
        ⟨ho, ?_⟩⟩)
  rw [listMul_foldl_if]
  refine hQ _ _ ((g₁.trans g₂).trans (Gr.heap _ (Kp.push _ _))) ?_ ⟨_, _, Heap.get?_push_size _ rfl, by simpa using (e1.rep i.toNat).ownPush (fresh_addr _) (Kp.push _ _)⟩
  cases q : s.heap.get? s₂.heap.objs.size with
  | none => rfl
  | some o => have := (g₁.trans g₂).keep _ _ q; rw [fresh_addr] at this; cases this
end
end Mine

set_option maxRecDepth 100000
namespace Mine
theorem fold_one (c : Nat) : ∀ (n : Nat) (acc : Array Nat), (List.replicate n #[c]).foldl (· ++ ·) acc = (acc.toList ++ List.replicate n c).toArray
  | 0, acc => by simp
  | n + 1, acc => by
    rw [List.replicate_succ, List.foldl_cons, fold_one c n]
    simp [List.replicate_succ]
section
variable {Γ : Cx}
/-- 'c' * n -/
theorem Op2.mulS {c n : Nat} (h2 : 2 ≤ n) (hn : n < 1000) : Op2 Γ (binaryOp .Mult) (.str [c]) (.int (n : Int)) (.str (List.replicate n c)) := by
  intro A k D s x y Q E _ _ _ _ hx hy _ hQ
  obtain ⟨t, rfl⟩ := V_str.mp hx
  obtain ⟨u, rfl⟩ := V_int.mp hy
  have hl : (Str.mk [c].toArray).length = 1 := rfl
  refine PySem.P.mul_str (by rw [decide_eq_false (by omega), decide_eq_false (by omega)]; rfl) (fun _ _ => ?_) (fun _ _ => ?_) ?_
  · rw [hl]
    have : (1 : Int) ≤ (2 ^ 63 - 1) / (n : Int) := (Int.le_ediv_iff_mul_le (by omega)).mpr (by omega)
    omega
  · rw [hl, Int.toNat_natCast]
    unfold Builtin.Str.tooLong
    rw [decide_eq_false_iff_not]
    rw [sizeLine_eq]; omega
  · have e1 : ((n : Int) == 1 || (Str.mk [c].toArray).length == 0) = false := by
      rw [hl]
      have : ((n : Int) == 1) = false := by rw [beq_eq_false_iff_ne]; omega
      rw [this]; rfl
    rw [if_neg (by omega), if_neg (by rw [e1]; decide), Int.toNat_natCast]
    have e2 : (List.replicate n (Str.mk [c].toArray).cps).foldl (· ++ ·) #[] = (List.replicate n c).toArray := by
      have := fold_one c n #[]
      simpa using this
    rw [e2]
    refine ⟨?_, hQ _ _ (Gr.toks _) (V.str _ _)⟩
    show (List.replicate n c).toArray.size ≤ sizeLine
    rw [sizeLine_eq]; simp; omega
end
end Mine

set_option maxRecDepth 100000
namespace Mine
section
variable {M : Model} {A : Around} {env : Env} {E : Value → Shared → Prop} {s : Shared}
theorem wpR_And2 {x y : Expr} {pos : Pos} {Q : Value → Shared → Prop}
    (h : wpR M A (eval x env) (fun v s₁ => wpR M A (truthy v) (fun t s₂ => if t then wpR M A (eval y env) Q E s₂ else Q v s₂) E s₁) E s) :
    wpR M A (eval (.BoolOp .And [x, y] pos) env) Q E s := by
  show wpR M A (do
    let v ← eval x env
    standAt pos
    let t ← holding [v] (truthy v)
    match BoolOp.And, t with
    | .And, false | .Or, true => pure v
    | _, _ => boolOp pos .And [eval y env]) Q E s
  refine wpR_bind (wpR_mono h (fun v s₁ h₁ => wpR_bind (wpR_standAt (wpR_bind (wpR_holding (wpR_mono h₁ (fun t s₂ h₂ => ?_) fun _ _ x => x))))) fun _ _ x => x)
  cases t with
  | false => exact wpR_pure h₂
  | true => exact h₂
end
section
variable {Γ : Cx} {k : Nat} {sc : Scope} {σ : Loc} {μ : Own} {pos : Pos}
/-- a and b, where a is True -/
theorem Ev.andT {e f : Expr} {v : PV} (he : Ev Γ k sc σ μ e (.bool true)) (hf : Ev Γ k sc σ μ f v) : Ev Γ k sc σ μ (.BoolOp .And [e, f] pos) v := by
  intro A n F s Q E hn hA st hQ
  refine wpR_And2 (he A n F s _ _ hn hA st fun val s₁ g₁ hv => ?_)
  rw [V_bool] at hv; subst hv
  refine toR (wpAny_truthy_bool ?_)
  rw [if_pos rfl]
  exact hf A n F s₁ _ _ hn hA (st.grow g₁) fun val s₂ g₂ hv => hQ val s₂ (g₁.trans g₂) hv
theorem Tr.or3F {e f g : Expr} (he : Tr Γ k sc σ μ e false) (hf : Tr Γ k sc σ μ f false) (hg : Tr Γ k sc σ μ g false) : Tr Γ k sc σ μ (.BoolOp .Or [e, f, g] pos) false := by
  intro A n F s Q E hn hA st hQ
  refine wpR_isTrue_BoolOp (wpR_allTrue_Or_cons (he A n F s _ _ hn hA st fun s₁ g₁ => ?_))
  rw [if_neg (by decide)]
  refine wpR_allTrue_Or_cons (hf A n F s₁ _ _ hn hA (st.grow g₁) fun s₂ g₂ => ?_)
  rw [if_neg (by decide)]
  refine wpR_allTrue_Or_cons (hg A n F s₂ _ _ hn hA ((st.grow g₁).grow g₂) fun s₃ g₃ => ?_)
  rw [if_neg (by decide)]
  exact wpR_allTrue_Or_nil (hQ s₃ ((g₁.trans g₂).trans g₃))
theorem Tr.or2F {e f : Expr} (he : Tr Γ k sc σ μ e false) (hf : Tr Γ k sc σ μ f false) : Tr Γ k sc σ μ (.BoolOp .Or [e, f] pos) false := Tr.or2 he fun _ => hf
end
end Mine

namespace Mine
/-! ## law 08 in numbers -/
noncomputable def alikeL (N gap : Int) : List Int → Int → Int → Nat → Nat
  | [], _, _, k => k
  | l :: ls, r, w, k => if N < r + l * w ∨ gap % (w * (36 - l)) ≠ 0 then k else alikeL N gap ls (r + l * w) (w * (36 - l)) (k + 1)
theorem alike_ok (b : Int) : ∀ (n : Nat) (j M g r w e N gap : Int) (k : Nat), N = r + e + w * M → 0 ≤ e → e < w → gap = g * w → 0 < g → 0 ≤ M → N < r + w * preD b j (limD b j n) 0 →
    ∃ k' : Nat, alikeL N gap (limD b j n) r w k = k + k' ∧ k' < (ggiD M b j).length ∧ k' < (ggiD (M + g) b j).length ∧ (ggiD M b j).take k' = (ggiD (M + g) b j).take k' ∧ (ggiD M b j).getD k' 0 ≠ (ggiD (M + g) b j).getD k' 0 ∧ okP b j ((ggiD M b j).take k')
  | 0, j, M, g, r, w, e, N, gap, k, hN, e0, ew, hg, g0, M0, hend => by
    exfalso
    simp only [limD, preD, Int.mul_zero] at hend
    have : 0 ≤ w * M := Int.mul_nonneg (by omega) M0
    omega
  | n + 1, j, M, g, r, w, e, N, gap, k, hN, e0, ew, hg, g0, M0, hend => by
    have t1 := tF_ge j b
    have t2 := tF_le j b
    generalize ht : tF j b = t at *
    rw [limD, ht, alikeL]
    have hw : 0 < w := by omega
    have hcmp : N < r + t * w ↔ M < t := by
      constructor
      · intro h
        by_cases hM : M < t
        · exact hM
        · exfalso
          have : w * t ≤ w * M := Int.mul_le_mul_of_nonneg_left (by omega) (by omega)
          rw [Int.mul_comm w t] at this
          omega
      · intro h
        have : w * (M + 1) ≤ w * t := Int.mul_le_mul_of_nonneg_left (by omega) (by omega)
        rw [Int.mul_add, Int.mul_one, Int.mul_comm w t] at this
        omega
    have hmod : gap % (w * (36 - t)) = w * (g % (36 - t)) := by
      rw [hg, Int.mul_comm g w]
      exact Int.mul_emod_mul_of_pos _ _ hw
    by_cases hM : M < t
    · rw [if_pos (.inl (hcmp.mpr hM))]
      have d1 : ggiD M b j = [M] := by rw [ggiD, ht, dif_pos hM]
      refine ⟨0, rfl, by rw [d1]; simp, ?_, by simp, ?_, trivial⟩
      · exact ggiD_pos _ _ _
      · rw [d1]
        by_cases hM' : M + g < t
        · have d2 : ggiD (M + g) b j = [M + g] := by rw [ggiD, ht, dif_pos hM']
          rw [d2]
          show M ≠ M + g
          omega
        · have d2 : ggiD (M + g) b j = (t + (M + g - t) % (36 - t)) :: ggiD ((M + g - t) / (36 - t)) b (j + 1) := by rw [ggiD, ht, dif_neg hM']
          rw [d2]
          show M ≠ t + (M + g - t) % (36 - t)
          have := Int.emod_nonneg (M + g - t) (show (36 - t) ≠ 0 by omega)
          omega
    · have d1 : ggiD M b j = (t + (M - t) % (36 - t)) :: ggiD ((M - t) / (36 - t)) b (j + 1) := by rw [ggiD, ht, dif_neg hM]
      have d2 : ggiD (M + g) b j = (t + (M + g - t) % (36 - t)) :: ggiD ((M + g - t) / (36 - t)) b (j + 1) := by rw [ggiD, ht, dif_neg (by omega)]
      have x0 := Int.emod_nonneg (M - t) (show (36 - t) ≠ 0 by omega)
      have x1 := Int.emod_lt_of_pos (M - t) (show 0 < 36 - t by omega)
      have xd := Int.mul_ediv_add_emod (M - t) (36 - t)
      by_cases hgm : g % (36 - t) = 0
      · have hneg : ¬ (N < r + t * w ∨ gap % (w * (36 - t)) ≠ 0) := by
          rw [hmod, hgm]
          intro h
          rcases h with h | h
          · exact hM (hcmp.mp h)
          · exact h (Int.mul_zero w)
        rw [if_neg hneg]
        obtain ⟨g', hg'⟩ := Int.dvd_of_emod_eq_zero hgm
        have e1 : M + g - t = (M - t) + (36 - t) * g' := by omega
        have s1 : (M + g - t) % (36 - t) = (M - t) % (36 - t) := by rw [e1, Int.add_mul_emod_self_left]
        have s2 : (M + g - t) / (36 - t) = (M - t) / (36 - t) + g' := by rw [e1, Int.add_mul_ediv_left _ _ (by omega)]
        rw [s1, s2] at d2
        have M2 : 0 ≤ (M - t) / (36 - t) := Int.ediv_nonneg (by omega) (by omega)
        generalize hx : (M - t) % (36 - t) = x at *
        generalize hm2 : (M - t) / (36 - t) = m2 at *
        have g'0 : 0 < g' := by
          rcases Int.lt_or_le 0 g' with h | h
          · exact h
          · exfalso
            have : (36 - t) * g' ≤ (36 - t) * 0 := Int.mul_le_mul_of_nonneg_left h (by omega)
            rw [Int.mul_zero] at this
            omega
        have hwx : 0 ≤ w * x := Int.mul_nonneg (by omega) x0
        have hwx1 : w * (x + 1) ≤ w * (36 - t) := Int.mul_le_mul_of_nonneg_left (by omega) (by omega)
        rw [Int.mul_add, Int.mul_one] at hwx1
        have hNe : N = (r + t * w) + (e + w * x) + w * (36 - t) * m2 := by
          rw [hN]
          have : M = t + x + (36 - t) * m2 := by omega
          rw [this, Int.mul_add, Int.mul_add, Int.mul_comm w t, Int.mul_assoc]
          omega
        have hge : gap = g' * (w * (36 - t)) := by
          rw [hg, hg', Int.mul_comm (36 - t) g', Int.mul_assoc, Int.mul_comm (36 - t) w]
        have hend' : N < (r + t * w) + w * (36 - t) * preD b (j + 1) (limD b (j + 1) n) 0 := by
          rw [limD, ht, preD, ht, Int.mul_add, Int.mul_comm w t, ← Int.mul_assoc] at hend
          omega
        obtain ⟨k', a1, a2, a3, a4, a5, a6⟩ := alike_ok b n (j + 1) m2 g' (r + t * w) (w * (36 - t)) (e + w * x) N gap (k + 1) hNe (by omega) (by omega) hge g'0 M2 hend'
        refine ⟨k' + 1, by rw [a1]; omega, ?_, ?_, ?_, ?_, ?_⟩
        · rw [d1]; simpa using a2
        · rw [d2]; simpa using a3
        · rw [d1, d2]; simpa using a4
        · rw [d1, d2]; simpa using a5
        · rw [d1, List.take_succ_cons]
          exact ⟨by rw [ht]; omega, by omega, a6⟩
      · have hpos : gap % (w * (36 - t)) ≠ 0 := by
          rw [hmod]
          intro h
          rcases Int.mul_eq_zero.mp h with h | h <;> omega
        rw [if_pos (.inr hpos)]
        refine ⟨0, rfl, by rw [d1]; simp, by rw [d2]; simp, by simp, ?_, trivial⟩
        rw [d1, d2]
        show t + (M - t) % (36 - t) ≠ t + (M + g - t) % (36 - t)
        intro h
        have h' : (M - t) % (36 - t) = (M + g - t) % (36 - t) := by omega
        have := Int.emod_emod_of_dvd g (Int.dvd_refl (36 - t))
        have hd : (36 - t) ∣ g := by
          have e1 : g = (M + g - t) - (M - t) := by omega
          rw [e1]
          exact Int.dvd_of_emod_eq_zero (by rw [Int.sub_emod, ← h', Int.sub_self, Int.zero_emod])
        exact hgm (Int.emod_eq_zero_of_dvd hd)
/-- three places hold a thousand -/
theorem reach3 (b : Int) : 1261 ≤ preD b 0 (limD b 0 3) 0 := by
  simp only [limD, preD]
  have hp : ∀ j : Int, (tF j b = 1 ∨ tF (j + 1) b = 26) := fun j => by
    unfold tF
    by_cases h : 36 * (j + 1) - b < 1
    · left; rw [if_pos h]
    · by_cases h2 : 36 * (j + 1) - b = 1
      · left; rw [if_neg h, if_neg (by omega)]; exact h2
      · right; rw [if_neg (by omega), if_pos (by omega)]
  have h0 := hp 0
  have h1 := hp (0 + 1)
  have a1 := tF_ge 0 b
  have a2 := tF_le 0 b
  have b1 := tF_ge (0 + 1) b
  have b2 := tF_le (0 + 1) b
  have c1 := tF_ge (0 + 1 + 1) b
  have c2 := tF_le (0 + 1 + 1) b
  generalize tF 0 b = t0 at *
  generalize tF (0 + 1) b = t1 at *
  generalize tF (0 + 1 + 1) b = t2 at *
  rcases h0 with rfl | rfl
  · rcases h1 with rfl | rfl
    · omega
    · have : (36 - t1) * (26 + (36 - 26) * 0) = 936 - 26 * t1 := by omega
      rw [this]; omega
  · rcases h1 with h | rfl
    · omega
    · have : (36 - t0) * (26 + (36 - 26) * (26 + (36 - 26) * 0)) = 36 * 286 - 286 * t0 := by omega
      rw [this]; omega
theorem limD_reach (b : Int) : ∀ (n : Nat) (j : Int) (m : Nat), m ≤ n → preD b j (limD b j m) 0 ≤ preD b j (limD b j n) 0
  | n, j, 0, _ => by
    simp only [limD, preD]
    have := preD_nonneg b (limD b j n) j 0 (limD_ok b n j) (Int.le_refl _)
    exact this
  | 0, j, m + 1, h => by omega
  | n + 1, j, m + 1, h => by
    simp only [limD, preD]
    have t2 := tF_le j b
    have := Int.mul_le_mul_of_nonneg_left (limD_reach b n (j + 1) m (by omega)) (show 0 ≤ 36 - tF j b by omega)
    omega
/-- what law 08 asks of two numerals -/
theorem alike_law (b : Int) {n : Nat} (hn : 3 ≤ n) {N gap : Int} (h0 : 0 ≤ N) (h1 : N < 1000) (hg : 0 < gap) :
    alikeL N gap (limD b 0 n) 0 1 0 < (ggiD N b 0).length ∧ alikeL N gap (limD b 0 n) 0 1 0 < (ggiD (N + gap) b 0).length ∧ (ggiD N b 0).take (alikeL N gap (limD b 0 n) 0 1 0) = (ggiD (N + gap) b 0).take (alikeL N gap (limD b 0 n) 0 1 0) ∧
    (ggiD N b 0).getD (alikeL N gap (limD b 0 n) 0 1 0) 0 ≠ (ggiD (N + gap) b 0).getD (alikeL N gap (limD b 0 n) 0 1 0) 0 ∧ okP b 0 ((ggiD N b 0).take (alikeL N gap (limD b 0 n) 0 1 0)) := by
  have r3 := reach3 b
  have rn := limD_reach b n 0 3 hn
  obtain ⟨k', a1, a2, a3, a4, a5, a6⟩ := alike_ok b n 0 N gap 0 1 0 N gap 0 (by omega) (by omega) (by omega) (by omega) hg h0 (by omega)
  rw [a1, Nat.zero_add]
  exact ⟨a2, a3, a4, a5, a6⟩
end Mine

namespace Mine
noncomputable def biasR (signs : Int) : Int → Int → List Int → Int
  | _, b, [] => b
  | p, b, d :: ds => biasR signs (p + 1) (adaptF d (decide (p = 0)) (signs + p + 1)) ds
theorem giD_app (signs : Int) : ∀ (xs ys : List Int) (p b : Int), giD signs p b (xs ++ ys) = giD signs p b xs ++ giD signs (p + xs.length) (biasR signs p b xs) ys
  | [], ys, p, b => by simp [giD, biasR]
  | d :: xs, ys, p, b => by
    simp only [List.cons_append, giD, biasR, List.length_cons]
    rw [giD_app signs xs ys, List.append_assoc]
    have : p + 1 + (xs.length : Int) = p + ((xs.length + 1 : Nat) : Int) := by omega
    rw [this]
theorem biasR_snoc (signs : Int) : ∀ (xs : List Int) (d p b : Int), biasR signs p b (xs ++ [d]) = adaptF d (decide (p + xs.length = 0)) (signs + (p + xs.length) + 1)
  | [], d, p, b => by simp [biasR]
  | x :: xs, d, p, b => by
    simp only [List.cons_append, biasR, List.length_cons]
    rw [biasR_snoc signs xs]
    have : p + 1 + (xs.length : Int) = p + ((xs.length + 1 : Nat) : Int) := by omega
    rw [this]
/-- the thresholds as the law has them -/
noncomputable def expF (signs : Int) (ds : List Int) : Int := (ds.getLast?.getD 0) / (if ds.length = 1 then 700 else 2) + (ds.getLast?.getD 0) / (if ds.length = 1 then 700 else 2) / (signs + ds.length)
noncomputable def limitsF (signs : Int) (ds : List Int) : List Int := if ds = [] then [1, 1] ++ List.replicate 8 26 else List.replicate (levF (expF signs ds)) 1 ++ [midF (leftF (expF signs ds))] ++ List.replicate 8 26
theorem limF_list (level : Nat) (mid : Int) (m : Nat) : (List.range (level + 1 + m)).map (limF level mid) = List.replicate level 1 ++ [mid] ++ List.replicate m 26 := by
  apply List.ext_getElem
  · simp; omega
  · intro i h1 h2
    simp only [List.length_map, List.length_range] at h1
    rw [List.getElem_map, List.getElem_range]
    unfold limF
    by_cases a : i < level
    · rw [if_pos a, List.getElem_append_left (by simp; omega), List.getElem_append_left (by simpa using a)]
      simp
    · rw [if_neg a]
      by_cases c : i = level
      · rw [if_pos c]
        subst c
        rw [List.getElem_append_left (by simp), List.getElem_append_right (by simp)]
        simp
      · rw [if_neg c, List.getElem_append_right (by simp; omega)]
        simp
theorem limits_eq {signs : Int} {ds : List Int} (hs : 1 ≤ signs) (hd : ∀ d ∈ ds, 0 ≤ d) : ∃ n, 3 ≤ n ∧ limitsF signs ds = limD (biasR signs 0 72 ds) 0 n := by
  unfold limitsF
  by_cases h : ds = []
  · rw [if_pos h]
    refine ⟨10, by decide, ?_⟩
    subst h
    rw [limD_map]
    have e := limF_list 2 26 7
    have e2 : ((List.range 10).map fun (p : Nat) => tF ((0 : Int) + (p : Int)) (biasR signs 0 72 [])) = (List.range 10).map (limF 2 26) := List.map_congr_left fun p _ => by rw [Int.zero_add]; exact tF_72 p
    rw [e2]
    rfl
  · rw [if_neg h]
    obtain ⟨xs, d, rfl⟩ : ∃ xs d, ds = xs ++ [d] := ⟨ds.dropLast, ds.getLast h, (List.dropLast_concat_getLast h).symm⟩
    have hd0 := hd d (by simp)
    refine ⟨levF (expF signs (xs ++ [d])) + 1 + 8, by omega, ?_⟩
    rw [limD_map, biasR_snoc]
    have e1 : adaptF d (decide ((0 : Int) + (xs.length : Int) = 0)) (signs + (0 + (xs.length : Int)) + 1) = adLoop (expF signs (xs ++ [d])) 0 := by
      unfold adaptF expF
      have e2 : (xs ++ [d]).getLast?.getD 0 = d := by simp
      have e3 : signs + (0 + (xs.length : Int)) + 1 = signs + ((xs ++ [d]).length : Int) := by
        rw [List.length_append, List.length_singleton]; omega
      rw [e2, e3]
      by_cases hx : xs.length = 0
      · rw [decide_eq_true (by omega), if_pos rfl, if_pos (by simp [hx])]
      · rw [decide_eq_false (by omega), if_neg (by decide), if_neg (by simp; simpa using hx)]
    rw [e1]
    have hE : 0 ≤ expF signs (xs ++ [d]) := by
      unfold expF
      have e2 : (xs ++ [d]).getLast?.getD 0 = d := by simp
      rw [e2]
      have q0 : 0 ≤ d / (if (xs ++ [d]).length = 1 then 700 else 2) := Int.ediv_nonneg hd0 (by split <;> omega)
      have q1 := Int.ediv_nonneg (a := d / (if (xs ++ [d]).length = 1 then 700 else 2)) (b := signs + ((xs ++ [d]).length : Int)) q0 (by omega)
      omega
    have e2 : ((List.range (levF (expF signs (xs ++ [d])) + 1 + 8)).map fun (p : Nat) => tF ((0 : Int) + (p : Int)) (adLoop (expF signs (xs ++ [d])) 0)) = (List.range (levF (expF signs (xs ++ [d])) + 1 + 8)).map (limF (levF (expF signs (xs ++ [d]))) (midF (leftF (expF signs (xs ++ [d]))))) :=
      List.map_congr_left fun p _ => by rw [Int.zero_add]; exact tF_lim _ hE p
    rw [e2, limF_list]
end Mine

namespace Mine
theorem limitsF_len {signs : Int} {ds : List Int} (hs : 1 ≤ signs) (hd : ∀ d ∈ ds, 0 ≤ d ∧ d < 1000) : (limitsF signs ds).length ≤ 17 := by
  unfold limitsF
  by_cases h : ds = []
  · rw [if_pos h]; decide
  · rw [if_neg h]
    obtain ⟨xs, d, rfl⟩ : ∃ xs d, ds = xs ++ [d] := ⟨ds.dropLast, ds.getLast h, (List.dropLast_concat_getLast h).symm⟩
    obtain ⟨d0, d1⟩ := hd d (by simp)
    have e1 : expF signs (xs ++ [d]) < 456 * 35 ^ 8 := by
      unfold expF
      have e2 : (xs ++ [d]).getLast?.getD 0 = d := by simp
      rw [e2]
      have q0 : 0 ≤ d / (if (xs ++ [d]).length = 1 then 700 else 2) := Int.ediv_nonneg d0 (by split <;> omega)
      have q1 : d / (if (xs ++ [d]).length = 1 then 700 else 2) ≤ d := Int.ediv_le_self _ d0
      generalize d / (if (xs ++ [d]).length = 1 then 700 else 2) = q at *
      have r1 : q / (signs + ((xs ++ [d]).length : Int)) ≤ q := Int.ediv_le_self _ q0
      have : (10 : Int) ^ 11 ≤ 456 * 35 ^ 8 := by decide
      omega
    have := levF_le e1
    simp only [List.length_append, List.length_replicate, List.length_singleton]
    omega
/-- law 08 in numbers: two runs that part at one delta -/
theorem law08 {signs : Int} {A r1 r2 : List Int} {N gap : Int} (hs : 1 ≤ signs) (hA : ∀ d ∈ A, 0 ≤ d) (N0 : 0 ≤ N) (N1 : N < 1000) (g0 : 0 < gap) :
    ∃ (k : Nat) (t1 t2 : List Int), alikeL N gap (limitsF signs A) 0 1 0 = k ∧ okP (biasR signs 0 72 A) 0 ((ggiD N (biasR signs 0 72 A) 0).take k) ∧ k < (ggiD N (biasR signs 0 72 A) 0).length ∧
      giD signs 0 72 (A ++ N :: r1) = giD signs 0 72 A ++ ((ggiD N (biasR signs 0 72 A) 0).take k ++ t1) ∧ giD signs 0 72 (A ++ (N + gap) :: r2) = giD signs 0 72 A ++ ((ggiD N (biasR signs 0 72 A) 0).take k ++ t2) ∧ ((ggiD N (biasR signs 0 72 A) 0).take k).length = k ∧
      ∃ x y u1 u2, t1 = x :: u1 ∧ t2 = y :: u2 ∧ x ≠ y := by
  obtain ⟨n, hn, hlim⟩ := limits_eq (signs := signs) (ds := A) hs hA
  have h := alike_law (biasR signs 0 72 A) hn N0 N1 g0
  rw [← hlim] at h
  generalize hk : alikeL N gap (limitsF signs A) 0 1 0 = k at h
  obtain ⟨a1, a2, a3, a4, a5⟩ := h
  have e1 : giD signs 0 72 (A ++ N :: r1) = giD signs 0 72 A ++ (ggiD N (biasR signs 0 72 A) 0 ++ giD signs (0 + A.length + 1) (adaptF N (decide ((0 : Int) + A.length = 0)) (signs + (0 + A.length) + 1)) r1) := by
    rw [giD_app]; rfl
  have e2 : giD signs 0 72 (A ++ (N + gap) :: r2) = giD signs 0 72 A ++ (ggiD (N + gap) (biasR signs 0 72 A) 0 ++ giD signs (0 + A.length + 1) (adaptF (N + gap) (decide ((0 : Int) + A.length = 0)) (signs + (0 + A.length) + 1)) r2) := by
    rw [giD_app]; rfl
  generalize giD signs (0 + A.length + 1) (adaptF N (decide ((0 : Int) + A.length = 0)) (signs + (0 + A.length) + 1)) r1 = T1 at e1
  generalize giD signs (0 + A.length + 1) (adaptF (N + gap) (decide ((0 : Int) + A.length = 0)) (signs + (0 + A.length) + 1)) r2 = T2 at e2
  generalize ggiD N (biasR signs 0 72 A) 0 = G1 at *
  generalize ggiD (N + gap) (biasR signs 0 72 A) 0 = G2 at *
  refine ⟨k, G1.drop k ++ T1, G2.drop k ++ T2, rfl, a5, a1, ?_, ?_, by rw [List.length_take]; omega, G1.getD k 0, G2.getD k 0, G1.drop (k + 1) ++ T1, G2.drop (k + 1) ++ T2, ?_, ?_, a4⟩
  · rw [e1, ← List.append_assoc (G1.take k), List.take_append_drop]
  · rw [e2, a3, ← List.append_assoc (G2.take k), List.take_append_drop]
  · rw [List.drop_eq_getElem_cons a1, List.getD_eq_getElem?_getD, List.getElem?_eq_getElem a1]; rfl
  · rw [List.drop_eq_getElem_cons a2, List.getD_eq_getElem?_getD, List.getElem?_eq_getElem a2]; rfl
end Mine

namespace Mine
local macro_rules | `(tactic| wtm_at "side") => `(tactic| first | with_reducible assumption | omega | decide | (simp; done) | (simp; omega) | skip)
local macro_rules | `(tactic| wtm_at "mul") => `(tactic| first | exact IntMulOk.of_left (intBits_le_64 (by omega) (by omega)) | exact IntMulOk.of_right (intBits_le_64 (by omega) (by omega)) | skip)
local macro_rules | `(tactic| wtm_at "cl") => `(tactic| first
  | (with_reducible refine' CallOk.len_bytes ?s1
     case s1 => wtm_at "side")
  | (with_reducible refine' CallOk.len_str ?s1
     case s1 => wtm_at "side")
  | (with_reducible refine' CallOk.chr ?s1 ?s2
     case s1 => wtm_at "side"
     case s2 => wtm_at "side")
  | with_reducible exact CallOk.ord)
local macro_rules | `(tactic| wtm_at "op") => `(tactic| first
  | with_reducible exact Op2.add | with_reducible exact Op2.sub
  | (with_reducible refine' Op2.fdiv ?s1 ?s2
     case s1 => wtm_at "side"
     case s2 => wtm_at "side")
  | (with_reducible refine' Op2.mod ?s1
     case s1 => wtm_at "side")
  | with_reducible exact Op2.eq | with_reducible exact Op2.lt | with_reducible exact Op2.gt | with_reducible exact Op2.le | with_reducible exact Op2.ge | with_reducible exact Op2.ne
  | (with_reducible refine' Op2.mul ?s1
     case s1 => wtm_at "mul")
  | with_reducible exact Op2.iadd | with_reducible exact Op2.isub
  | (with_reducible refine' Op2.ifdiv ?s1 ?s2
     case s1 => wtm_at "side"
     case s2 => wtm_at "side")
  | (with_reducible refine' Op2.imul ?s1
     case s1 => wtm_at "mul"))
local macro_rules | `(tactic| wtm_at "ev") => `(tactic| first
  | with_reducible exact Ev.cint | with_reducible exact Ev.cbool | with_reducible exact Ev.cnone | with_reducible exact Ev.cbytes
  | (with_reducible refine' Ev.name ?hx
     case hx => exact rfl)
  | (with_reducible refine' Ev.glob ?hx
     case hx => first | exact rfl | assumption)
  | (with_reducible refine' Ev.bin ?hl ?hr ?ho
     case hl => wtm_at "ev"
     case hr => wtm_at "ev"
     case ho => wtm_at "op")
  | (with_reducible refine' Ev.cmp ?hl ?hr ?ho
     case hl => wtm_at "ev"
     case hr => wtm_at "ev"
     case ho => wtm_at "op")
  | (with_reducible refine' Ev.call ?hf ?hk ?ha ?hc
     case hf => wtm_at "ev"
     case hk => wtm_at "kp"
     case ha => wtm_at "es"
     case hc => wtm_at "cl")
  | (with_reducible refine' Ev.neg ?hl
     case hl => wtm_at "ev")
  | (with_reducible refine' Ev.tuple ?hl ?hs
     case hl => wtm_at "es"
     case hs => simp; done)
  | (with_reducible refine' Ev.list ?hl ?hs
     case hl => wtm_at "es"
     case hs => simp; done))
local macro_rules | `(tactic| wtm_at "kp") => `(tactic| first | with_reducible exact KeepOk.builtin | with_reducible exact KeepOk.type | with_reducible assumption)
local macro_rules | `(tactic| wtm_at "es") => `(tactic| first
  | with_reducible exact Es.nil
  | (with_reducible refine' Es.cons ?hl ?hr
     case hl => wtm_at "ev"
     case hr => wtm_at "es"))
local macro_rules | `(tactic| wtm_at "tr") => `(tactic| first
  | (with_reducible refine' Tr.cmp ?hl ?hr ?ho
     case hl => wtm_at "ev"
     case hr => wtm_at "ev"
     case ho => wtm_at "op")
  | (with_reducible refine' Tr.val ?hl ?hr
     case hl => wtm_at "ev"
     case hr => first | with_reducible exact Truth.bool | with_reducible exact Truth.int))
local macro_rules | `(tactic| wtm_at "sub") => `(tactic| repeat' (first | exact True.intro | refine And.intro (by exact rfl) ?_))

noncomputable abbrev pg := PySem.Challenge.pw_dm0101_08
variable {Γ : Cx}

theorem T_ok {a : Addr} (hT : DefAt Γ a "T" (fnAt pg 1)) {j bias : Int} : CallOk Γ 1 (.ref a) [.int j, .int bias] (.int (tF j bias)) := by
  refine DefAt.call hT ?_ ?_
  · refine Xs.cons (X1.assign (by wtm_at "ev") ?_)
    unfold tF
    refine Xs.cons (X1.ite (by wtm_at "tr") (fun hc => ?_) (fun hc => ?_))
    · have hc' := of_decide_eq_true hc
      rw [if_pos hc']
      exact Xs.cons (X1.ret (by wtm_at "ev") rfl)
    · have hc' := of_decide_eq_false hc
      rw [if_neg hc']
      refine Xs.nil ?_
      refine Xs.cons (X1.ite (by wtm_at "tr") (fun hc => ?_) (fun hc => ?_))
      · have hc' := of_decide_eq_true hc
        rw [if_pos hc']
        exact Xs.cons (X1.ret (by wtm_at "ev") rfl)
      · have hc' := of_decide_eq_false hc
        rw [if_neg hc']
        refine Xs.nil ?_
        exact Xs.cons (X1.ret (by wtm_at "ev") rfl)
  · intro pm cd doc vals h
    obtain ⟨x, y, rfl⟩ := len2 h
    rfl

structure GHas (Γ : Cx) (aT : Addr) : Prop where
  dT : DefAt Γ aT "T" (fnAt pg 1)
  nT : Γ.gl.lookup ("T" : Str) = some (PV.obj (.ref aT))
  nD : Γ.gl.lookup ("digits" : Str) = some (PV.bytes dgs)
  nB : Γ.gl.lookup ("bytes" : Str) = some (PV.obj (.type "bytes"))
  nA : Γ.gl.lookup ("bytearray" : Str) = some (PV.obj (.type "bytearray"))

theorem ggi_ok {a aT : Addr} (hG : DefAt Γ a "generate_generalized_integer" (fnAt pg 3)) (g : GHas Γ aT) {m : Nat} {N bias : Int} (h0 : 0 ≤ N) (h1 : N < 10 ^ m) (hm : m < 60000) :
    CallOk Γ 2 (.ref a) [.int N, .int bias] (.bytes (ggiB N bias)) := by
  obtain ⟨dT, nT, nD, nB, nA⟩ := g
  have kT := dT.keep
  refine DefAt.call hG ?_ ?_
  · refine Xs.cons (X1.own (EvN.call (by wtm_at "ev") (by wtm_at "kp") (by wtm_at "es") CallN.bytearray) fun a _ => ?_)
    refine Xs.cons (X1.assign (by wtm_at "ev") ?_)
    refine Xs.cons (X1.while ?_)
    refine Wh.sub (σ' := [("N", .int N), ("bias", .int bias), ("result", .ref a), ("j", .int 0)]) ⟨rfl, rfl, rfl, rfl, trivial⟩ ?_
    have hR : ggiB N bias = [] ++ (ggiD N bias 0).map dB := rfl
    rw [hR]
    generalize hl : ([] : List UInt8) = l
    generalize hj : (0 : Int) = j
    have hlm : l.length + m < 60000 := by subst hl; simpa using hm
    have h0' : 0 ≤ N := h0
    clear hR hl hj hm h0
    induction m generalizing N l j with
    | zero =>
      refine Wh.step (by wtm_at "tr") (fun hc => ?_) (fun hc => absurd hc (by decide))
      refine Xs.cons (X1.assign (Ev.call (by wtm_at "ev") (by wtm_at "kp") (by wtm_at "es") (T_ok dT)) ?_)
      have hlt : N < tF j bias := by have := tF_ge j bias; omega
      have hN : N = 0 := by omega
      rw [ggiD, dif_pos hlt]
      refine Xs.cons (X1.ite (by wtm_at "tr") (fun hc => ?_) (fun hc => absurd hlt (of_decide_eq_false hc)))
      refine Xs.cons (X1.meth (μ₁ := []) (μ₂ := []) (a := a) (o := .barr l) rfl (Es.cons (Ev.sub (by wtm_at "ev") (by wtm_at "ev") (Op2.itemB (by omega) (by show N < 36; omega) (by decide)) HasItem.bytes) Es.nil) (MethOk.ba_append (Int.natCast_nonneg _) (by have := (dgs.getD N.toNat 0).toNat_lt; omega) (by omega)) F.ba_plainAttrs F.ba_slot_append F.ba_type_append ?_)
      refine Xs.cons (X1.ret (Ev.bytesOf (μ₁ := []) (μ₂ := []) (by wtm_at "ev") rfl (by simp; omega)) ?_)
      simp [dB]
    | succ m ih =>
      refine Wh.step (by wtm_at "tr") (fun hc => ?_) (fun hc => absurd hc (by decide))
      refine Xs.cons (X1.assign (Ev.call (by wtm_at "ev") (by wtm_at "kp") (by wtm_at "es") (T_ok dT)) ?_)
      have ht1 := tF_ge j bias
      have ht2 := tF_le j bias
      rw [ggiD]
      refine Xs.cons (X1.ite (by wtm_at "tr") (fun hc => ?_) (fun hc => ?_))
      · have hlt := of_decide_eq_true hc
        rw [dif_pos hlt]
        refine Xs.cons (X1.meth (μ₁ := []) (μ₂ := []) (a := a) (o := .barr l) rfl (Es.cons (Ev.sub (by wtm_at "ev") (by wtm_at "ev") (Op2.itemB (by omega) (by show N < 36; omega) (by decide)) HasItem.bytes) Es.nil) (MethOk.ba_append (Int.natCast_nonneg _) (by have := (dgs.getD N.toNat 0).toNat_lt; omega) (by omega)) F.ba_plainAttrs F.ba_slot_append F.ba_type_append ?_)
        refine Xs.cons (X1.ret (Ev.bytesOf (μ₁ := []) (μ₂ := []) (by wtm_at "ev") rfl (by simp; omega)) ?_)
        simp [dB]
      · have hlt := of_decide_eq_false hc
        rw [dif_neg hlt]
        generalize ht : tF j bias = t at *
        refine Xs.nil ?_
        have hm0 : 0 ≤ (N - t) % (36 - t) := Int.emod_nonneg _ (by omega)
        have hm1 : (N - t) % (36 - t) < 36 - t := Int.emod_lt_of_pos _ (by omega)
        refine Xs.cons (X1.meth (μ₁ := []) (μ₂ := []) (a := a) (o := .barr l) rfl (Es.cons (Ev.sub (by wtm_at "ev") (by wtm_at "ev") (Op2.itemB (by omega) (by show _ < (36 : Int); omega) (by decide)) HasItem.bytes) Es.nil) (MethOk.ba_append (Int.natCast_nonneg _) (by have := (dgs.getD (t + (N - t) % (36 - t)).toNat 0).toNat_lt; omega) (by omega)) F.ba_plainAttrs F.ba_slot_append F.ba_type_append ?_)
        refine Xs.cons (X1.assign (by wtm_at "ev") ?_)
        refine Xs.cons (X1.aug rfl (by wtm_at "ev") (by wtm_at "op") ?_)
        refine Xs.nil ?_
        have hq0 : 0 ≤ (N - t) / (36 - t) := Int.ediv_nonneg (by omega) (by omega)
        have hq1 : (N - t) / (36 - t) < 10 ^ m := by
          refine Int.ediv_lt_of_lt_mul (by omega) ?_
          have h3 : (10 : Int) ^ m * 10 ≤ 10 ^ m * (36 - t) := Int.mul_le_mul_of_nonneg_left (by omega) (Int.pow_nonneg (by omega))
          rw [Int.pow_succ] at h1
          omega
        have := ih hq1 (l ++ [dB (t + (N - t) % (36 - t))]) (j + 1) (by simp; omega) hq0
        rw [List.append_assoc] at this
        refine Wh.sub (σ' := [("N", .int ((N - t) / (36 - t))), ("bias", .int bias), ("result", .ref a), ("j", .int (j + 1))]) ⟨rfl, rfl, rfl, rfl, trivial⟩ ?_
        have e : ((dgs.getD (t + (N - t) % (36 - t)).toNat 0).toNat : Int).toNat.toUInt8 = dB (t + (N - t) % (36 - t)) := by simp [dB]
        rw [e]
        exact this
  · intro pm cd doc vals h
    obtain ⟨x, y, rfl⟩ := len2 h
    rfl
theorem adapt_tail {delta n : Int} (hd : 0 ≤ delta) (hn : 0 < n) (hn2 : n < 2 ^ 64) :
    Xs Γ 0 (fnAt pg 4).2.2 [("delta", .int delta), ("numchars", .int n)] [] (fnAt pg 4).2.1.tail (fun fl _ _ => fl = .ret (.int (adLoop (delta + delta / n) 0))) := by
  refine Xs.cons (X1.aug rfl (by wtm_at "ev") (by wtm_at "op") ?_)
  refine Xs.cons (X1.assign (by wtm_at "ev") ?_)
  refine Xs.cons (X1.while ?_)
  have hd' : 0 ≤ delta / n := Int.ediv_nonneg hd (by omega)
  generalize he : delta + delta / n = e
  have he0 : 0 ≤ e := by omega
  clear he hd hd'
  refine Wh.sub (σ' := [("delta", .int e), ("divisions", .int 0)]) ⟨rfl, rfl, trivial⟩ ?_
  generalize hR : adLoop e 0 = R
  generalize hdv : (0 : Int) = dv at hR
  have he0' : 0 ≤ e := he0
  clear hdv he0
  obtain ⟨m, hm⟩ : ∃ m : Nat, e.toNat ≤ m := ⟨_, Nat.le_refl _⟩
  induction m using Nat.strongRecOn generalizing e dv with
  | ind m ih =>
    refine Wh.step (by wtm_at "tr") (fun hc => ?_) (fun hc => ?_)
    · have hc' := of_decide_eq_true hc
      refine Xs.cons (X1.assign (by wtm_at "ev") ?_)
      refine Xs.cons (X1.aug rfl (by wtm_at "ev") (by wtm_at "op") ?_)
      refine Xs.nil ?_
      refine Wh.sub (σ' := [("delta", .int (e / 35)), ("divisions", .int (dv + 36))]) ⟨rfl, rfl, trivial⟩ ?_
      rw [adLoop, dif_pos hc'] at hR
      exact ih (e / 35).toNat (by omega) (e / 35) (dv + 36) hR (by omega) (Nat.le_refl _)
    · have hc' := of_decide_eq_false hc
      refine Xs.nil ?_
      refine Xs.cons (X1.assign (by wtm_at "ev") ?_)
      refine Xs.cons (X1.ret (by wtm_at "ev") ?_)
      rw [adLoop, dif_neg hc'] at hR
      rw [hR]

theorem adapt_ok {a : Addr} (hA : DefAt Γ a "adapt" (fnAt pg 4)) {delta n : Int} {first : Bool} (hd : 0 ≤ delta) (hn : 0 < n) (hn2 : n < 2 ^ 64) :
    CallOk Γ 1 (.ref a) [.int delta, .bool first, .int n] (.int (adaptF delta first n)) := by
  refine DefAt.call hA ?_ ?_
  · refine Xs.cons (X1.ite (by wtm_at "tr") (fun hc => ?_) (fun hc => ?_))
    · subst hc
      refine Xs.cons (X1.aug rfl (by wtm_at "ev") (by wtm_at "op") ?_)
      refine Xs.nil ?_
      exact Xs.sub (σ' := [("delta", .int (delta / 700)), ("numchars", .int n)]) ⟨rfl, rfl, trivial⟩ (adapt_tail (by omega) hn hn2)
    · subst hc
      refine Xs.cons (X1.aug rfl (by wtm_at "ev") (by wtm_at "op") ?_)
      refine Xs.nil ?_
      exact Xs.sub (σ' := [("delta", .int (delta / 2)), ("numchars", .int n)]) ⟨rfl, rfl, trivial⟩ (adapt_tail (by omega) hn hn2)
  · intro pm cd doc vals h
    obtain ⟨x, y, z, rfl⟩ := len3 h
    rfl


theorem gi_ok {a aG aA aT : Addr} (hI : DefAt Γ a "generate_integers" (fnAt pg 5)) (g : GHas Γ aT) (dG : DefAt Γ aG "generate_generalized_integer" (fnAt pg 3)) (nG : Γ.gl.lookup ("generate_generalized_integer" : Str) = some (PV.obj (.ref aG)))
    (dA : DefAt Γ aA "adapt" (fnAt pg 4)) (nAd : Γ.gl.lookup ("adapt" : Str) = some (PV.obj (.ref aA))) (nE : Γ.gl.lookup ("enumerate" : Str) = some (PV.obj (.type "enumerate")))
    {base : Int} {ds : List Int} (hb0 : 0 ≤ base) (hb1 : base < 2 ^ 60) (hd : ∀ d ∈ ds, 0 ≤ d ∧ d < 10 ^ 20) (hl : ds.length < 1000) :
    CallOk Γ 3 (.ref a) [.int base, .lst (ds.map .int)] (.bytes ((giD base 0 72 ds).map dB)) := by
  have g' := g
  obtain ⟨dT, nT, nD, nB, nA⟩ := g
  have kG := dG.keep
  have kA := dA.keep
  refine DefAt.call hI ?_ ?_
  · refine Xs.cons (X1.own (EvN.call (by wtm_at "ev") (by wtm_at "kp") (by wtm_at "es") CallN.bytearray) fun a _ => ?_)
    refine Xs.cons (X1.assign (by wtm_at "ev") ?_)
    refine Xs.cons (X1.forI (EvI.enum (by wtm_at "ev") (by wtm_at "es")) ?_ (fun _ => rfl))
    refine Fo.sub (σ' := [("baselen", .int base), ("result", .ref a), ("bias", .int 72)]) (by wtm_at "sub") ?_
    generalize hR : giD base 0 72 ds = R
    refine (?_ : ∀ (ds : List Int) (p : Nat) (bias : Int) (done : List Int), (∀ d ∈ ds, 0 ≤ d ∧ d < 10 ^ 20) → p + ds.length < 1000 → done.length ≤ 21 * p → done ++ giD base (p : Int) bias ds = R →
      Fo Γ 2 (fnAt pg 5).2.2 [("baselen", .int base), ("result", .ref a), ("bias", .int bias)] [(a, .barr (done.map dB))] _ _ _ (enumL (p : Int) (ds.map .int)) _) ds 0 72 [] hd (by omega) (by simp) hR
    intro ds
    induction ds with
    | nil =>
      intro p bias done _ _ hz hr
      refine Fo.nil (Xs.nil ?_)
      refine Xs.cons (X1.ret (Ev.bytesOf (μ₁ := []) (μ₂ := []) (by wtm_at "ev") rfl (by simp; omega)) ?_)
      simp only [giD, List.append_nil] at hr
      rw [hr]
    | cons d ds ih =>
      intro p bias done hd hp hz hr
      obtain ⟨h0, h1⟩ := hd d List.mem_cons_self
      simp only [List.length_cons] at hp
      refine Fo.cons (As.tuple2 As.name As.name) ?_
      refine Xs.cons (X1.assign (Ev.call (by wtm_at "ev") (by wtm_at "kp") (by wtm_at "es") (ggi_ok dG g' h0 h1 (by decide))) ?_)
      have hgl := ggiD_length_le 20 d bias 0 h1
      refine Xs.cons (X1.meth (μ₁ := []) (μ₂ := []) (a := a) (o := .barr (done.map dB)) rfl (by wtm_at "es") (MethOk.ba_extend (m := ggiB d bias) (by unfold ggiB; simp; omega)) F.ba_plainAttrs F.ba_slot_extend F.ba_type_extend ?_)
      refine Xs.cons (X1.assign (Ev.call (by wtm_at "ev") (by wtm_at "kp") (by wtm_at "es") (CallOk.mono (adapt_ok dA h0 (by omega) (by omega)) (by decide))) ?_)
      refine Xs.nil ?_
      have e : done.map dB ++ ggiB d bias = (done ++ ggiD d bias 0).map dB := by unfold ggiB; simp
      rw [e]
      have e2 : (p : Int) + 1 = ((p + 1 : Nat) : Int) := by omega
      rw [e2]
      have := ih (p + 1) (adaptF d (decide ((p : Int) = 0)) (base + p + 1)) (done ++ ggiD d bias 0) (fun x hx => hd x (List.mem_cons_of_mem _ hx)) (by omega) (by simp; omega)
      have e3 : done ++ giD base (p : Int) bias (d :: ds) = (done ++ ggiD d bias 0) ++ giD base ((p + 1 : Nat) : Int) (adaptF d (decide ((p : Int) = 0)) (base + p + 1)) ds := by
        rw [giD, List.append_assoc, ← e2]
      rw [e3] at hr
      exact Fo.sub (by wtm_at "sub") (this hr)
  · intro pm cd doc vals h
    obtain ⟨x, y, rfl⟩ := len2 h
    rfl
/-! ### decode_generalized_number -/
noncomputable abbrev decBody : List Stmt := match (fnAt pg 6).2.1 with | [_, _, _, .While _ b _ _] => b | _ => []
theorem dU_sign {d c : Int} (hd0 : 0 ≤ d) (hd35 : d < 36) (hc : ((dU d).toNat : Int) = c) : (65 ≤ c ∧ c ≤ 90 → c - 65 = d) ∧ (¬ (65 ≤ c ∧ c ≤ 90) → (48 ≤ c ∧ c ≤ 57) ∧ c - 22 = d) := by
  have hv := dU_val d.toNat (by omega)
  rw [Int.toNat_of_nonneg hd0, hc] at hv
  split at hv <;> omega
/-- a turn of decode_generalized_number -/
theorem dec_step {aT : Addr} (dT : DefAt Γ aT "T" (fnAt pg 1)) (nT : Γ.gl.lookup ("T" : Str) = some (PV.obj (.ref aT))) {ds : List Int} {bias r w j d : Int} {p : Nat} {el : List Nat} {P : Fl → Loc → Own → Prop} (hl : ds.length < 2 ^ 20) (hg : ds[p]? = some d) (hd0 : 0 ≤ d) (hd35 : d < 36)
    (hL : d < tF j bias → ∀ σ' μ', P (.ret (.tup [.int ((p + 1 : Nat) : Int), .int (r + d * w)])) σ' μ')
    (hP : ¬ d < tF j bias → ∀ σ', Sub σ' [("extended", .bytes (ds.map dU)), ("extpos", .int ((p + 1 : Nat) : Int)), ("bias", .int bias), ("errors", .str el), ("result", .int (r + d * w)), ("w", .int (w * (36 - tF j bias))), ("j", .int (j + 1))] → P .next σ' []) :
    Xs Γ 1 (fnAt pg 6).2.2 [("extended", .bytes (ds.map dU)), ("extpos", .int (p : Int)), ("bias", .int bias), ("errors", .str el), ("result", .int r), ("w", .int w), ("j", .int j)] [] decBody P := by
  have kT := dT.keep
  have t1 := tF_ge j bias
  have t2 := tF_le j bias
  have hp : p < ds.length := (List.getElem?_eq_some_iff.mp hg).1
  have hget : (ds.map dU).getD (p : Int).toNat 0 = dU d := by
    rw [Int.toNat_natCast, List.getD_eq_getElem?_getD, List.getElem?_map, hg]; rfl
  refine Xs.cons (X1.try (Xs.cons (X1.assign (Ev.sub (by wtm_at "ev") (by wtm_at "ev") (Op2.itemB (Int.natCast_nonneg _) (by simp; omega) (by simp; omega)) HasItem.bytes) (Xs.nil (Xs.nil ?_)))))
  rw [hget]
  refine Xs.cons (X1.aug rfl (by wtm_at "ev") (by wtm_at "op") ?_)
  generalize hcv : ((dU d).toNat : Int) = c
  obtain ⟨v1, v2⟩ := dU_sign hd0 hd35 hcv
  have e1 : ((p : Int) + 1) = ((p + 1 : Nat) : Int) := by omega
  rw [e1]
  refine Xs.cut [("extended", .bytes (ds.map dU)), ("extpos", .int ((p + 1 : Nat) : Int)), ("bias", .int bias), ("errors", .str el), ("result", .int r), ("w", .int w), ("j", .int j), ("digit", .int d)] [] ?_ ?_
  · clear hL hP hcv hget hg
    refine X1.ite (Tr.cmp2 (by wtm_at "ev") (by wtm_at "ev") (by wtm_at "op") (fun _ => by wtm_at "ev") (fun _ => by wtm_at "op")) (fun hc => ?_) (fun hc => ?_)
    · rw [← v1 (by simpa using hc)]
      exact Xs.cons (X1.assign (by wtm_at "ev") (Xs.nil ⟨rfl, by wtm_at "sub", rfl⟩))
    · obtain ⟨v3, v4⟩ := v2 (by simpa using hc)
      rw [← v4]
      refine Xs.cons (X1.ite (Tr.cmp2 (by wtm_at "ev") (by wtm_at "ev") (by wtm_at "op") (fun _ => by wtm_at "ev") (fun _ => by wtm_at "op")) (fun hc2 => ?_) (fun hc2 => absurd v3 (by simpa using hc2)))
      exact Xs.cons (X1.assign (by wtm_at "ev") (Xs.nil (Xs.nil ⟨rfl, by wtm_at "sub", rfl⟩)))
  refine Xs.cons (X1.assign (Ev.call (by wtm_at "ev") (by wtm_at "kp") (by wtm_at "es") (T_ok dT)) ?_)
  refine Xs.cons (X1.aug rfl (by wtm_at "ev") (by wtm_at "op") ?_)
  refine Xs.cons (X1.ite (by wtm_at "tr") (fun hc => ?_) (fun hc => ?_))
  · exact Xs.cons (X1.ret (by wtm_at "ev") (hL (of_decide_eq_true hc) _ _))
  · refine Xs.nil ?_
    refine Xs.cons (X1.assign (by wtm_at "ev") ?_)
    refine Xs.cons (X1.aug rfl (by wtm_at "ev") (by wtm_at "op") ?_)
    refine Xs.nil (hP (of_decide_eq_false hc) _ ?_)
    wtm_at "sub"
theorem drop_cons {ds pre : List Int} {p : Nat} {d : Int} (h : ds.drop p = d :: pre) : ds[p]? = some d ∧ ds.drop (p + 1) = pre := by
  refine ⟨?_, ?_⟩
  · have h1 : (ds.drop p)[0]? = some d := by rw [h]; rfl
    rw [List.getElem?_drop] at h1; simpa using h1
  · have : ds.drop (p + 1) = (ds.drop p).drop 1 := by rw [List.drop_drop]
    rw [this, h]; rfl
/-- the first figure of a numeral -/
theorem ggiD_head {N bias j : Int} (hN : 0 ≤ N) : ∃ d rest, ggiD N bias j = d :: rest ∧ 0 ≤ d ∧ d < 36 ∧ (d < tF j bias → rest = [] ∧ d = N) ∧ (¬ d < tF j bias → ∃ N', rest = ggiD N' bias (j + 1) ∧ N = d + (36 - tF j bias) * N' ∧ 0 ≤ N' ∧ N'.toNat < N.toNat) := by
  have t1 := tF_ge j bias
  have t2 := tF_le j bias
  rw [ggiD]
  split
  · exact ⟨N, [], rfl, hN, by omega, fun _ => ⟨rfl, rfl⟩, fun h => absurd ‹_› h⟩
  · rename_i hlt
    have m0 := Int.emod_nonneg (N - tF j bias) (b := 36 - tF j bias) (by omega)
    have m1 := Int.emod_lt_of_pos (N - tF j bias) (b := 36 - tF j bias) (by omega)
    have me := Int.mul_ediv_add_emod (N - tF j bias) (36 - tF j bias)
    have := next_lt (N := N) t1 t2 (by omega)
    exact ⟨_, _, rfl, by omega, by omega, fun h => by omega, fun _ => ⟨_, rfl, by omega, Int.ediv_nonneg (by omega) (by omega), by omega⟩⟩
theorem dec_ok {a aT : Addr} (hD : DefAt Γ a "decode_generalized_number" (fnAt pg 6)) (dT : DefAt Γ aT "T" (fnAt pg 1)) (nT : Γ.gl.lookup ("T" : Str) = some (PV.obj (.ref aT)))
    {ds post : List Int} {bias N : Int} {p : Nat} {el : List Nat} (hl : ds.length < 2 ^ 20) (hN : 0 ≤ N) (hdr : ds.drop p = ggiD N bias 0 ++ post) :
    CallOk Γ 2 (.ref a) [.bytes (ds.map dU), .int (p : Int), .int bias, .str el] (.tup [.int ((p + (ggiD N bias 0).length : Nat) : Int), .int N]) := by
  refine DefAt.call hD ?_ ?_
  · refine Xs.cons (X1.assign (by wtm_at "ev") ?_)
    refine Xs.cons (X1.assign (by wtm_at "ev") ?_)
    refine Xs.cons (X1.assign (by wtm_at "ev") ?_)
    refine Xs.cons (X1.while ?_)
    refine Wh.sub (σ' := [("extended", .bytes (ds.map dU)), ("extpos", .int (p : Int)), ("bias", .int bias), ("errors", .str el), ("result", .int 0), ("w", .int 1), ("j", .int 0)]) (by wtm_at "sub") ?_
    generalize hR : PV.tup [.int ((p + (ggiD N bias 0).length : Nat) : Int), .int N] = R
    refine (?_ : ∀ (m : Nat) (N j r w : Int) (p : Nat), N.toNat ≤ m → 0 ≤ N → ds.drop p = ggiD N bias j ++ post → PV.tup [.int ((p + (ggiD N bias j).length : Nat) : Int), .int (r + N * w)] = R →
      Wh Γ 1 (fnAt pg 6).2.2 [("extended", .bytes (ds.map dU)), ("extpos", .int (p : Int)), ("bias", .int bias), ("errors", .str el), ("result", .int r), ("w", .int w), ("j", .int j)] [] _ decBody _ _) N.toNat N 0 0 1 p (Nat.le_refl _) hN hdr (by rw [← hR]; simp)
    intro m
    induction m using Nat.strongRecOn with
    | ind m ih =>
      intro N j r w p hm hN hdr hR
      obtain ⟨d, rest, hg, hd0, hd35, hlt, hge⟩ := ggiD_head (bias := bias) (j := j) hN
      rw [hg] at hdr hR
      obtain ⟨h1, h2⟩ := drop_cons hdr
      refine Wh.step (by wtm_at "tr") (fun _ => dec_step dT nT hl h1 hd0 hd35 (fun q σ' μ' => ?_) (fun q σ' hs => ?_)) (fun hc => absurd hc (by decide))
      · obtain ⟨rfl, rfl⟩ := hlt q
        exact congrArg Fl.ret hR
      · obtain ⟨N', rfl, e, n0, n1⟩ := hge q
        refine Wh.sub hs (ih N'.toNat (by omega) N' (j + 1) _ _ (p + 1) (Nat.le_refl _) n0 h2 ?_)
        rw [← hR, e, Int.add_mul, List.length_cons, Nat.add_assoc, Nat.add_comm 1, Int.add_assoc, Int.mul_comm w, ← Int.mul_assoc, Int.mul_comm N']
  · intro pm cd doc vals h
    obtain ⟨x, y, z, u, rfl⟩ := len4 h
    rfl
theorem dec_turn {aT : Addr} (dT : DefAt Γ aT "T" (fnAt pg 1)) (nT : Γ.gl.lookup ("T" : Str) = some (PV.obj (.ref aT))) {ds : List Int} {bias r w j d : Int} {p : Nat} {el : List Nat} {P : Fl → Loc → Own → Prop} (hl : ds.length < 2 ^ 20) (hg : ds[p]? = some d) (hd0 : 0 ≤ d) (hd35 : d < 36) (hge : tF j bias ≤ d)
    (hP : ∀ σ', Sub σ' [("extended", .bytes (ds.map dU)), ("extpos", .int ((p + 1 : Nat) : Int)), ("bias", .int bias), ("errors", .str el), ("result", .int (r + d * w)), ("w", .int (w * (36 - tF j bias))), ("j", .int (j + 1))] → P .next σ' []) :
    Xs Γ 1 (fnAt pg 6).2.2 [("extended", .bytes (ds.map dU)), ("extpos", .int (p : Int)), ("bias", .int bias), ("errors", .str el), ("result", .int r), ("w", .int w), ("j", .int j)] [] decBody P :=
  dec_step dT nT hl hg hd0 hd35 (fun h => absurd hge (by omega)) (fun _ => hP)
/-! ### insertion_sort -/
structure IHas (Γ : Cx) (aT aA aD : Addr) : Prop where
  dT : DefAt Γ aT "T" (fnAt pg 1)
  nT : Γ.gl.lookup ("T" : Str) = some (PV.obj (.ref aT))
  dA : DefAt Γ aA "adapt" (fnAt pg 4)
  nA : Γ.gl.lookup ("adapt" : Str) = some (PV.obj (.ref aA))
  dD : DefAt Γ aD "decode_generalized_number" (fnAt pg 6)
  nD : Γ.gl.lookup ("decode_generalized_number" : Str) = some (PV.obj (.ref aD))
  nLen : Γ.gl.lookup ("len" : Str) = some (PV.obj (.builtin "len"))
  nOrd : Γ.gl.lookup ("ord" : Str) = some (PV.obj (.builtin "ord"))
  nChr : Γ.gl.lookup ("chr" : Str) = some (PV.obj (.builtin "chr"))
/-- the text ends within a numeral -/
theorem dec_cut {a aT : Addr} (hD : DefAt Γ a "decode_generalized_number" (fnAt pg 6)) (dT : DefAt Γ aT "T" (fnAt pg 1)) (nT : Γ.gl.lookup ("T" : Str) = some (PV.obj (.ref aT))) (nIx : Γ.gl.lookup ("IndexError" : Str) = some (PV.obj (.type "IndexError")))
    {ds pre : List Int} {bias : Int} {p : Nat} {el : List Nat} (hl : ds.length < 2 ^ 20) (hp : p ≤ ds.length) (hdr : ds.drop p = pre) (hok : okP bias 0 pre) (hel : (el == strictL) = false) :
    CallX Γ 2 (.ref a) [.bytes (ds.map dU), .int (p : Int), .int bias, .str el] (.tup [.int (((ds.map dU).length : Int) + 1), .none]) := by
  refine DefAt.callX hD ?_ ?_
  · refine XsX.cons (X1.assign (by wtm_at "ev") ?_)
    refine XsX.cons (X1.assign (by wtm_at "ev") ?_)
    refine XsX.cons (X1.assign (by wtm_at "ev") ?_)
    refine XsX.while ?_
    refine WhX.sub (σ' := [("extended", .bytes (ds.map dU)), ("extpos", .int (p : Int)), ("bias", .int bias), ("errors", .str el), ("result", .int 0), ("w", .int 1), ("j", .int 0)]) (by wtm_at "sub") ?_
    refine (?_ : ∀ (pre : List Int) (j r w : Int) (p : Nat), p ≤ ds.length → ds.drop p = pre → okP bias j pre →
      WhX Γ 1 (fnAt pg 6).2.2 [("extended", .bytes (ds.map dU)), ("extpos", .int (p : Int)), ("bias", .int bias), ("errors", .str el), ("result", .int r), ("w", .int w), ("j", .int j)] [] _ decBody _ _) pre 0 0 1 p hp hdr hok
    intro pre
    induction pre with
    | nil =>
      intro j r w p hp hdr _
      have ep : (p : Int) = ((ds.map dU).length : Int) := by
        have : (ds.drop p).length = 0 := by rw [hdr]; rfl
        rw [List.length_drop] at this
        rw [List.length_map]; omega
      rw [ep]
      refine WhX.last (by wtm_at "tr") (by decide) ?_
      exact XsX.tryRet (el := el) (by wtm_at "ev") (by wtm_at "ev") rfl rfl (by rw [List.length_map]; exact hl) hel nIx
    | cons d pre ih =>
      intro j r w p hp hdr hok
      obtain ⟨h1, h2⟩ := drop_cons hdr
      obtain ⟨o1, o2, o3⟩ := hok
      have t1 := tF_ge j bias
      have hp' : p < ds.length := (List.getElem?_eq_some_iff.mp h1).1
      exact WhX.turn (by wtm_at "tr") (by decide) (dec_turn dT nT hl h1 (by omega) (by omega) o1 fun σ' hs => WhX.sub hs (ih (j + 1) _ _ (p + 1) hp' h2 o3))
  · intro pm cd doc vals h
    obtain ⟨x, y, z, u, rfl⟩ := len4 h
    rfl
theorem dec_cutE {a aT : Addr} (hD : DefAt Γ a "decode_generalized_number" (fnAt pg 6)) (dT : DefAt Γ aT "T" (fnAt pg 1)) (nT : Γ.gl.lookup ("T" : Str) = some (PV.obj (.ref aT))) (nIx : Γ.gl.lookup ("IndexError" : Str) = some (PV.obj (.type "IndexError"))) (nUd : Γ.gl.lookup ("UnicodeDecodeError" : Str) = some (PV.obj (.type "UnicodeDecodeError")))
    {ds pre : List Int} {bias : Int} {p : Nat} (hl : ds.length < 2 ^ 20) (hp : p ≤ ds.length) (hdr : ds.drop p = pre) (hok : okP bias 0 pre) {PE : Mem → Prop}
    (hPE : ∀ m, MemIs (Str.ofString "punycode").cps.toList (ds.map dU) ((ds.map dU).length : Int) (((ds.map dU).length : Int) + 1) (Str.ofString "incomplete punycode string").cps.toList m → PE m) :
    CallE Γ 2 (.ref a) [.bytes (ds.map dU), .int (p : Int), .int bias, .str strictL] PE := by
  refine DefAt.callE hD ?_ ?_
  · refine XsE.cons (X1E.of (X1.assign (by wtm_at "ev") ?_))
    refine XsE.cons (X1E.of (X1.assign (by wtm_at "ev") ?_))
    refine XsE.cons (X1E.of (X1.assign (by wtm_at "ev") ?_))
    refine XsE.cons (X1E.while ?_)
    refine WhE.sub (σ' := [("extended", .bytes (ds.map dU)), ("extpos", .int (p : Int)), ("bias", .int bias), ("errors", .str strictL), ("result", .int 0), ("w", .int 1), ("j", .int 0)]) (by wtm_at "sub") ?_
    refine (?_ : ∀ (pre : List Int) (j r w : Int) (p : Nat), p ≤ ds.length → ds.drop p = pre → okP bias j pre →
      WhE Γ 1 (fnAt pg 6).2.2 [("extended", .bytes (ds.map dU)), ("extpos", .int (p : Int)), ("bias", .int bias), ("errors", .str strictL), ("result", .int r), ("w", .int w), ("j", .int j)] [] _ decBody _ _ _) pre 0 0 1 p hp hdr hok
    intro pre
    induction pre with
    | nil =>
      intro j r w p hp hdr _
      have ep : (p : Int) = ((ds.map dU).length : Int) := by
        have : (ds.drop p).length = 0 := by rw [hdr]; rfl
        rw [List.length_drop] at this
        rw [List.length_map]; omega
      rw [ep]
      refine WhE.step (by wtm_at "tr") (fun _ => ?_) (fun hc => absurd hc (by decide))
      exact XsE.cons (X1E.tryRaise (el := strictL) (by wtm_at "ev") (by wtm_at "ev") rfl rfl rfl (by rw [List.length_map]; exact hl) (by decide +kernel) rfl rfl hPE nIx nUd)
    | cons d pre ih =>
      intro j r w p hp hdr hok
      obtain ⟨h1, h2⟩ := drop_cons hdr
      obtain ⟨o1, o2, o3⟩ := hok
      have t1 := tF_ge j bias
      have hp' : p < ds.length := (List.getElem?_eq_some_iff.mp h1).1
      exact WhE.step (by wtm_at "tr") (fun _ => XsE.of (dec_turn dT nT hl h1 (by omega) (by omega) o1 fun σ' hs => WhE.sub hs (ih (j + 1) _ _ (p + 1) hp' h2 o3))) (fun hc => absurd hc (by decide))
  · intro pm cd doc vals h
    obtain ⟨x, y, z, u, rfl⟩ := len4 h
    rfl

noncomputable abbrev insBody : List Stmt := match (fnAt pg 7).2.1 with | [_, _, _, _, .While _ b _ _, _] => b | _ => []
/-- a turn of insertion_sort without overflow -/
theorem ins_turn {aT aA aD : Addr} (H : IHas Γ aT aA aD) {base el : List Nat} {FF post : List Int} {d b char pos : Int} {p : Nat} {P : Fl → Loc → Own → Prop} (hFl : FF.length < 2 ^ 20) (d0 : 0 ≤ d) (hb : base.length < 100000) (hdr : FF.drop p = ggiD d b 0 ++ post) (c0 : 0 ≤ char) (p1 : -1 ≤ pos)
    (hC : char + (pos + (d + 1)) / ((base.length : Int) + 1) ≤ 1114111)
    (hP : ∀ σ', Sub σ' [("base", .str (putN base ((pos + (d + 1)) % ((base.length : Int) + 1)) (char + (pos + (d + 1)) / ((base.length : Int) + 1)))), ("extended", .bytes (FF.map dU)), ("errors", .str el), ("char", .int (char + (pos + (d + 1)) / ((base.length : Int) + 1))), ("pos", .int ((pos + (d + 1)) % ((base.length : Int) + 1))), ("bias", .int (adaptF d (decide ((p : Int) = 0)) ((base.length : Int) + 1))), ("extpos", .int ((p + (ggiD d b 0).length : Nat) : Int))] → P .next σ' []) :
    Xs Γ 2 (fnAt pg 7).2.2 [("base", .str base), ("extended", .bytes (FF.map dU)), ("errors", .str el), ("char", .int char), ("pos", .int pos), ("bias", .int b), ("extpos", .int (p : Int))] [] insBody P := by
  obtain ⟨dT, nT, dA, nA, dD, nD, nLen, nOrd, nChr⟩ := H
  have kA := dA.keep
  have kD := dD.keep
  refine Xs.cons (X1.assignT (Ev.call (by wtm_at "ev") (by wtm_at "kp") (by wtm_at "es") (dec_ok dD dT nT hFl d0 hdr)) (As.tuple2 As.name As.name) ?_)
  refine Xs.cons (X1.ite (c := false) (Tr.cmp (by wtm_at "ev") (by wtm_at "ev") (Op2.is0 rfl)) (fun hc => nomatch hc) (fun _ => Xs.nil ?_))
  refine Xs.cons (X1.aug rfl (by wtm_at "ev") (by wtm_at "op") ?_)
  refine Xs.cons (X1.aug rfl (by wtm_at "ev") (by wtm_at "op") ?_)
  have hpos : 0 ≤ pos + (d + 1) := by omega
  have hdiv : 0 ≤ (pos + (d + 1)) / ((base.length : Int) + 1) := Int.ediv_nonneg hpos (by omega)
  have hm0 : 0 ≤ (pos + (d + 1)) % ((base.length : Int) + 1) := Int.emod_nonneg _ (by omega)
  have hm1 : (pos + (d + 1)) % ((base.length : Int) + 1) < (base.length : Int) + 1 := Int.emod_lt_of_pos _ (by omega)
  generalize hPd : pos + (d + 1) = Pd at *
  generalize hCd : char + Pd / ((base.length : Int) + 1) = C at *
  refine Xs.cons (X1.ite (by wtm_at "tr") (fun hc => ?_) (fun hc => ?_))
  · have := of_decide_eq_true hc; omega
  refine Xs.nil ?_
  have hC0 : 0 ≤ C := by omega
  refine Xs.cons (X1.assign (by wtm_at "ev") ?_)
  generalize hM : Pd % ((base.length : Int) + 1) = M at *
  obtain ⟨mn, rfl⟩ : ∃ mn : Nat, M = (mn : Int) := ⟨M.toNat, by omega⟩
  refine Xs.cons (X1.assign (Ev.bin (Ev.bin (Ev.slice (by wtm_at "ev") Pt.none (Pt.some (by wtm_at "ev")) (SliceOk.strTo (by omega) (by omega)) HasItem.str) (by wtm_at "ev") (Op2.addS (by simp; omega))) (Ev.slice (by wtm_at "ev") (Pt.some (by wtm_at "ev")) Pt.none (SliceOk.strFrom (by omega) (by omega)) HasItem.str) (Op2.addS (by simp; omega))) ?_)
  have eb : base.take mn ++ [C.toNat] ++ base.drop mn = putN base (mn : Int) C := by unfold putN; simp
  rw [eb]
  have hpl' := putN_length base (mn : Int) C
  refine Xs.cons (X1.assign (Ev.call (by wtm_at "ev") (by wtm_at "kp") (by wtm_at "es") (CallOk.mono (adapt_ok dA d0 (by omega) (by omega)) (by decide))) ?_)
  refine Xs.cons (X1.assign (by wtm_at "ev") ?_)
  have en : ((putN base (mn : Int) C).length : Int) = (base.length : Int) + 1 := by rw [hpl']; omega
  rw [en]
  refine Xs.nil (hP _ ?_)
  wtm_at "sub"
/-- the numbers of a turn -/
theorem ins_next {bl q p : Nat} {d b char pos : Int} {ds pre FF : List Int} {base : List Nat} (d0 : 0 ≤ d) (hbl : base.length = bl + q) (c0 : 0 ≤ char) (p1 : -1 ≤ pos) (hqp : q = 0 ↔ p = 0) (hp : p ≤ FF.length) (hdr : FF.drop p = giD (bl : Int) (q : Int) b (d :: ds) ++ pre) :
    FF.drop p = ggiD d b 0 ++ (giD (bl : Int) ((q : Int) + 1) (adaptF d (decide ((q : Int) = 0)) ((bl : Int) + q + 1)) ds ++ pre) ∧ (p : Int) < ((FF.map dU).length : Int) ∧
      adaptF d (decide ((p : Int) = 0)) ((base.length : Int) + 1) = adaptF d (decide ((q : Int) = 0)) ((bl : Int) + q + 1) ∧
      0 ≤ char + (pos + (d + 1)) / ((base.length : Int) + 1) ∧ -1 ≤ (pos + (d + 1)) % ((base.length : Int) + 1) ∧
      (putN base ((pos + (d + 1)) % ((base.length : Int) + 1)) (char + (pos + (d + 1)) / ((base.length : Int) + 1))).length = bl + (q + 1) ∧
      p + (ggiD d b 0).length ≤ FF.length ∧ (q + 1 = 0 ↔ p + (ggiD d b 0).length = 0) ∧
      FF.drop (p + (ggiD d b 0).length) = giD (bl : Int) ((q + 1 : Nat) : Int) (adaptF d (decide ((q : Int) = 0)) ((bl : Int) + q + 1)) ds ++ pre := by
  simp only [giD, List.append_assoc] at hdr
  have hg := ggiD_pos d b 0
  have hpl := congrArg List.length hdr
  rw [List.length_drop, List.length_append] at hpl
  have hm0 : 0 ≤ (pos + (d + 1)) % ((base.length : Int) + 1) := Int.emod_nonneg _ (by omega)
  have hdiv : 0 ≤ (pos + (d + 1)) / ((base.length : Int) + 1) := Int.ediv_nonneg (by omega) (by omega)
  refine ⟨hdr, ?_, ?_, by omega, by omega, ?_, by omega, by omega, ?_⟩
  · rw [List.length_map]; omega
  · rw [show decide ((p : Int) = 0) = decide ((q : Int) = 0) from decide_eq_decide.mpr (by omega), show (base.length : Int) + 1 = (bl : Int) + (q : Int) + 1 from by omega]
  · rw [putN_length]; omega
  · rw [← List.drop_drop, hdr, List.drop_left]; rfl
theorem ins_last {p : Nat} {pre FF : List Int} {bl q b : Int} (hp : p ≤ FF.length) (hdr : FF.drop p = giD bl q b [] ++ pre) (hpre : pre ≠ []) : FF.drop p = pre ∧ (p : Int) < ((FF.map dU).length : Int) := by
  simp only [giD, List.nil_append] at hdr
  refine ⟨hdr, ?_⟩
  have h1 := congrArg List.length hdr
  have h2 := List.length_pos_iff.mpr hpre
  rw [List.length_drop] at h1
  rw [List.length_map]; omega
theorem ins_ok {a aT aA aD : Addr} (hI : DefAt Γ a "insertion_sort" (fnAt pg 7)) (H : IHas Γ aT aA aD) {base el : List Nat} {ds : List Int} (hd : ∀ d ∈ ds, 0 ≤ d ∧ d < 10 ^ 20) (hl : ds.length < 1000) (hb : base.length < 10000)
    (ho : noOv base 128 (-1) ds) :
    CallOk Γ 3 (.ref a) [.str base, .bytes ((giD base.length 0 72 ds).map dU), .str el] (.str (insF base 128 (-1) ds)) := by
  have nLen := H.nLen
  have hFl := giD_length base.length ds 0 72 fun d hm => (hd d hm).2
  refine DefAt.call hI ?_ ?_
  · refine Xs.cons (X1.assign (by wtm_at "ev") ?_)
    refine Xs.cons (X1.assign (by wtm_at "ev") ?_)
    refine Xs.cons (X1.assign (by wtm_at "ev") ?_)
    refine Xs.cons (X1.assign (by wtm_at "ev") ?_)
    refine Xs.cons (X1.while ?_)
    generalize hF : giD (base.length : Int) 0 72 ds = FF at hFl
    generalize hR : insF base 128 (-1) ds = R
    generalize hB : base.length = bl at hF
    have hFl' : FF.length < 2 ^ 20 := by omega
    have hlb : (FF.map dU).length ≤ 1099511627776 := by rw [List.length_map]; omega
    refine Wh.sub (σ' := [("base", .str base), ("extended", .bytes (FF.map dU)), ("errors", .str el), ("char", .int 128), ("pos", .int (-1)), ("bias", .int 72), ("extpos", .int ((0 : Nat) : Int))]) (by wtm_at "sub") ?_
    refine (?_ : ∀ (ds : List Int) (base : List Nat) (char pos b : Int) (q p : Nat), (∀ d ∈ ds, 0 ≤ d ∧ d < 10 ^ 20) → q + ds.length < 1000 → base.length = bl + q → 0 ≤ char → -1 ≤ pos → p ≤ FF.length → (q = 0 ↔ p = 0) → FF.drop p = giD (bl : Int) (q : Int) b ds ++ [] →
        noOv base char pos ds → insF base char pos ds = R →
      Wh Γ 2 (fnAt pg 7).2.2 [("base", .str base), ("extended", .bytes (FF.map dU)), ("errors", .str el), ("char", .int char), ("pos", .int pos), ("bias", .int b), ("extpos", .int (p : Int))] [] _ insBody _ _)
      ds base 128 (-1) 72 0 0 hd (by omega) (by omega) (by decide) (by decide) (by omega) (by simp) (by rw [List.drop_zero, List.append_nil]; exact hF.symm) ho hR
    intro ds
    induction ds with
    | nil =>
      intro base char pos b q p _ _ hbl c0 p1 hp hqp hdr hov hr
      have ep : ¬ (p : Int) < ((FF.map dU).length : Int) := by
        have := congrArg List.length hdr
        rw [List.length_drop] at this
        simp only [giD, List.append_nil, List.length_nil] at this
        rw [List.length_map]; omega
      simp only [insF] at hr
      subst hr
      exact Wh.step (by wtm_at "tr") (fun hc => absurd (of_decide_eq_true hc) ep) (fun _ => Xs.nil (Xs.cons (X1.ret (by wtm_at "ev") rfl)))
    | cons d ds ih =>
      intro base char pos b q p hd hq hbl c0 p1 hp hqp hdr hov hr
      obtain ⟨d0, d1⟩ := hd d List.mem_cons_self
      simp only [List.length_cons] at hq
      simp only [insF, noOv] at hr hov
      obtain ⟨hv1, hv2⟩ := hov
      rw [stepC_id hv1] at hr
      obtain ⟨n1, n2, n3, n4, n5, n6, n7, n8, n9⟩ := ins_next d0 hbl c0 p1 hqp hp hdr
      refine Wh.step (by wtm_at "tr") (fun _ => ins_turn H hFl' d0 (by omega) n1 c0 p1 hv1 fun σ' hs => Wh.sub hs ?_) (fun hc => absurd n2 (of_decide_eq_false hc))
      rw [n3]
      exact ih _ _ _ _ (q + 1) _ (fun x hx => hd x (List.mem_cons_of_mem _ hx)) (by omega) n6 n4 n5 n7 n8 n9 hv2 hr
  · intro pm cd doc vals h
    obtain ⟨x, y, z, rfl⟩ := len3 h
    rfl
theorem ins_cut {a aT aA aD : Addr} (hI : DefAt Γ a "insertion_sort" (fnAt pg 7)) (H : IHas Γ aT aA aD) (nIx : Γ.gl.lookup ("IndexError" : Str) = some (PV.obj (.type "IndexError"))) {base el : List Nat} {ds pre : List Int} (hd : ∀ d ∈ ds, 0 ≤ d ∧ d < 10 ^ 20) (hl : ds.length < 1000) (hb : base.length < 10000)
    (ho : noOv base 128 (-1) ds) (hFl : (giD base.length 0 72 ds ++ pre).length < 2 ^ 20) (hpre : pre ≠ []) (hok : okP (biasR base.length 0 72 ds) 0 pre) (hel : (el == strictL) = false) :
    CallX Γ 3 (.ref a) [.str base, .bytes ((giD base.length 0 72 ds ++ pre).map dU), .str el] (.str (insF base 128 (-1) ds)) := by
  have nLen := H.nLen
  have nD := H.nD
  have kD := H.dD.keep
  refine DefAt.callX hI ?_ ?_
  · refine XsX.cons (X1.assign (by wtm_at "ev") ?_)
    refine XsX.cons (X1.assign (by wtm_at "ev") ?_)
    refine XsX.cons (X1.assign (by wtm_at "ev") ?_)
    refine XsX.cons (X1.assign (by wtm_at "ev") ?_)
    refine XsX.while ?_
    generalize hF : giD (base.length : Int) 0 72 ds ++ pre = FF at hFl
    generalize hR : insF base 128 (-1) ds = R
    generalize hB : base.length = bl at hF hok
    have hlb : (FF.map dU).length ≤ 1099511627776 := by rw [List.length_map]; omega
    refine WhX.sub (σ' := [("base", .str base), ("extended", .bytes (FF.map dU)), ("errors", .str el), ("char", .int 128), ("pos", .int (-1)), ("bias", .int 72), ("extpos", .int ((0 : Nat) : Int))]) (by wtm_at "sub") ?_
    refine (?_ : ∀ (ds : List Int) (base : List Nat) (char pos b : Int) (q p : Nat), (∀ d ∈ ds, 0 ≤ d ∧ d < 10 ^ 20) → q + ds.length < 1000 → base.length = bl + q → 0 ≤ char → -1 ≤ pos → p ≤ FF.length → (q = 0 ↔ p = 0) → FF.drop p = giD (bl : Int) (q : Int) b ds ++ pre →
        okP (biasR bl q b ds) 0 pre → noOv base char pos ds → insF base char pos ds = R →
      WhX Γ 2 (fnAt pg 7).2.2 [("base", .str base), ("extended", .bytes (FF.map dU)), ("errors", .str el), ("char", .int char), ("pos", .int pos), ("bias", .int b), ("extpos", .int (p : Int))] [] _ insBody _ _)
      ds base 128 (-1) 72 0 0 hd (by omega) (by omega) (by decide) (by decide) (by omega) (by simp) (by rw [List.drop_zero]; exact hF.symm) hok ho hR
    intro ds
    induction ds with
    | nil =>
      intro base char pos b q p _ _ hbl c0 p1 hp hqp hdr hok hov hr
      obtain ⟨n1, n2⟩ := ins_last hp hdr hpre
      simp only [biasR] at hok
      simp only [insF] at hr
      subst hr
      refine WhX.last (by wtm_at "tr") (decide_eq_true n2) ?_
      refine XsX.assignT (by wtm_at "ev") (by wtm_at "kp") (by wtm_at "es") (dec_cut H.dD H.dT H.nT nIx hFl hp n1 hok hel) (As.tuple2 As.name As.name) ?_ rfl
      refine XsX.of (Xs.cons (X1.ite (c := true) (Tr.cmp (by wtm_at "ev") (by wtm_at "ev") (Op2.is0 rfl)) (fun _ => ?_) (fun hc => nomatch hc)))
      exact Xs.cons (X1.ret (by wtm_at "ev") ⟨rfl, rfl⟩)
    | cons d ds ih =>
      intro base char pos b q p hd hq hbl c0 p1 hp hqp hdr hok hov hr
      obtain ⟨d0, d1⟩ := hd d List.mem_cons_self
      simp only [List.length_cons] at hq
      simp only [biasR] at hok
      simp only [insF, noOv] at hr hov
      obtain ⟨hv1, hv2⟩ := hov
      rw [stepC_id hv1] at hr
      obtain ⟨n1, n2, n3, n4, n5, n6, n7, n8, n9⟩ := ins_next d0 hbl c0 p1 hqp hp hdr
      refine WhX.turn (by wtm_at "tr") (decide_eq_true n2) (ins_turn H hFl d0 (by omega) n1 c0 p1 hv1 fun σ' hs => WhX.sub hs ?_)
      rw [n3]
      exact ih _ _ _ _ (q + 1) _ (fun x hx => hd x (List.mem_cons_of_mem _ hx)) (by omega) n6 n4 n5 n7 n8 n9 hok hv2 hr
  · intro pm cd doc vals h
    obtain ⟨x, y, z, rfl⟩ := len3 h
    rfl
theorem ins_cutE {a aT aA aD : Addr} (hI : DefAt Γ a "insertion_sort" (fnAt pg 7)) (H : IHas Γ aT aA aD) (nIx : Γ.gl.lookup ("IndexError" : Str) = some (PV.obj (.type "IndexError"))) (nUd : Γ.gl.lookup ("UnicodeDecodeError" : Str) = some (PV.obj (.type "UnicodeDecodeError"))) {PE : Mem → Prop} {base : List Nat} {ds pre : List Int} (hd : ∀ d ∈ ds, 0 ≤ d ∧ d < 10 ^ 20) (hl : ds.length < 1000) (hb : base.length < 10000)
    (ho : noOv base 128 (-1) ds) (hFl : (giD base.length 0 72 ds ++ pre).length < 2 ^ 20) (hpre : pre ≠ []) (hok : okP (biasR base.length 0 72 ds) 0 pre)
    (hPE : ∀ m, MemIs (Str.ofString "punycode").cps.toList ((giD base.length 0 72 ds ++ pre).map dU) (((giD base.length 0 72 ds ++ pre).map dU).length : Int) ((((giD base.length 0 72 ds ++ pre).map dU).length : Int) + 1) (Str.ofString "incomplete punycode string").cps.toList m → PE m) :
    CallE Γ 3 (.ref a) [.str base, .bytes ((giD base.length 0 72 ds ++ pre).map dU), .str strictL] PE := by
  have nLen := H.nLen
  have nD := H.nD
  have kD := H.dD.keep
  refine DefAt.callE hI ?_ ?_
  · refine XsE.cons (X1E.of (X1.assign (by wtm_at "ev") ?_))
    refine XsE.cons (X1E.of (X1.assign (by wtm_at "ev") ?_))
    refine XsE.cons (X1E.of (X1.assign (by wtm_at "ev") ?_))
    refine XsE.cons (X1E.of (X1.assign (by wtm_at "ev") ?_))
    refine XsE.cons (X1E.while ?_)
    generalize hF : giD (base.length : Int) 0 72 ds ++ pre = FF at hFl hPE
    generalize hB : base.length = bl at hF hok
    have hlb : (FF.map dU).length ≤ 1099511627776 := by rw [List.length_map]; omega
    refine WhE.sub (σ' := [("base", .str base), ("extended", .bytes (FF.map dU)), ("errors", .str strictL), ("char", .int 128), ("pos", .int (-1)), ("bias", .int 72), ("extpos", .int ((0 : Nat) : Int))]) (by wtm_at "sub") ?_
    refine (?_ : ∀ (ds : List Int) (base : List Nat) (char pos b : Int) (q p : Nat), (∀ d ∈ ds, 0 ≤ d ∧ d < 10 ^ 20) → q + ds.length < 1000 → base.length = bl + q → 0 ≤ char → -1 ≤ pos → p ≤ FF.length → (q = 0 ↔ p = 0) → FF.drop p = giD (bl : Int) (q : Int) b ds ++ pre →
        okP (biasR bl q b ds) 0 pre → noOv base char pos ds →
      WhE Γ 2 (fnAt pg 7).2.2 [("base", .str base), ("extended", .bytes (FF.map dU)), ("errors", .str strictL), ("char", .int char), ("pos", .int pos), ("bias", .int b), ("extpos", .int (p : Int))] [] _ insBody _ _ _)
      ds base 128 (-1) 72 0 0 hd (by omega) (by omega) (by decide) (by decide) (by omega) (by simp) (by rw [List.drop_zero]; exact hF.symm) hok ho
    intro ds
    induction ds with
    | nil =>
      intro base char pos b q p _ _ hbl c0 p1 hp hqp hdr hok hov
      obtain ⟨n1, n2⟩ := ins_last hp hdr hpre
      simp only [biasR] at hok
      refine WhE.step (by wtm_at "tr") (fun _ => ?_) (fun hc => absurd n2 (of_decide_eq_false hc))
      exact XsE.cons (X1E.assignT (by wtm_at "ev") (by wtm_at "kp") (by wtm_at "es") (dec_cutE H.dD H.dT H.nT nIx nUd hFl hp n1 hok hPE))
    | cons d ds ih =>
      intro base char pos b q p hd hq hbl c0 p1 hp hqp hdr hok hov
      obtain ⟨d0, d1⟩ := hd d List.mem_cons_self
      simp only [List.length_cons] at hq
      simp only [biasR] at hok
      simp only [noOv] at hov
      obtain ⟨hv1, hv2⟩ := hov
      obtain ⟨n1, n2, n3, n4, n5, n6, n7, n8, n9⟩ := ins_next d0 hbl c0 p1 hqp hp hdr
      refine WhE.step (by wtm_at "tr") (fun _ => XsE.of (ins_turn H hFl d0 (by omega) n1 c0 p1 hv1 fun σ' hs => WhE.sub hs ?_)) (fun hc => absurd n2 (of_decide_eq_false hc))
      rw [n3]
      exact ih _ _ _ _ (q + 1) _ (fun x hx => hd x (List.mem_cons_of_mem _ hx)) (by omega) n6 n4 n5 n7 n8 n9 hok hv2
  · intro pm cd doc vals h
    obtain ⟨x, y, z, rfl⟩ := len3 h
    rfl

set_option maxRecDepth 100000 in
theorem limits_ok {a : Addr} (hL : DefAt Γ a "_law_limits" (fnAt pg 9)) (nLen : Γ.gl.lookup ("len" : Str) = some (PV.obj (.builtin "len"))) (nMin : Γ.gl.lookup ("min" : Str) = some (PV.obj (.builtin "min"))) {signs : Int} {ds : List Int} (s0 : 1 ≤ signs) (s1 : signs < 1000) (hd : ∀ d ∈ ds, 0 ≤ d ∧ d < 1000) (hl : ds.length ≤ 63) :
    CallOk Γ 1 (.ref a) [.int signs, .lst (ds.map .int)] (.lst ((limitsF signs ds).map .int)) := by
  refine DefAt.call hL ?_ ?_
  · refine Xs.cons (X1.ite (Tr.cmp (by wtm_at "ev") (b := .lst (([] : List Int).map .int)) (Ev.list Es.nil (by decide)) Op2.eqI) (fun hc => ?_) (fun hc => ?_))
    · have e0 : ds = [] := of_decide_eq_true hc
      subst e0
      refine Xs.cons (X1.ret (v := .lst ((limitsF signs []).map .int)) (Ev.bin (by wtm_at "ev") (Ev.bin (by wtm_at "ev") (by wtm_at "ev") (Op2.mulL (by decide) (by decide) (by simp))) (Op2.addL (xs := [.int 1, .int 1]) (ys := (List.replicate 8 [PV.int 26]).flatten) (by decide))) rfl)
    · have e0 : ds ≠ [] := of_decide_eq_false hc
      refine Xs.nil ?_
      obtain ⟨d, hlast⟩ : ∃ d, ds.getLast? = some d := by
        cases q : ds.getLast? with
        | none => exact absurd (List.getLast?_eq_none_iff.mp q) e0
        | some d => exact ⟨d, rfl⟩
      have hdm : d ∈ ds := List.mem_of_getLast? hlast
      obtain ⟨d0, d1⟩ := hd d hdm
      have hpos : 0 < ds.length := List.length_pos_iff.mpr e0
      have hgl : (ds.map PV.int)[((-1 : Int) + ((ds.map PV.int).length : Int)).toNat]? = some (.int d) := by
        rw [List.getLast?_eq_getElem?] at hlast
        rw [List.getElem?_map, List.length_map, show ((-1 : Int) + (ds.length : Int)).toNat = ds.length - 1 from by omega, hlast]; rfl
      have hlen := CallOk.len_lst (Γ := Γ) (k := 0) (xs := ds.map PV.int) (by simp; omega)
      rw [List.length_map] at hlen
      obtain ⟨cd, hcd⟩ : ∃ cd : Int, cd = if ds.length = 1 then 700 else 2 := ⟨_, rfl⟩
      have cd0 : 0 < cd ∧ cd < 1000 := by rw [hcd]; split <;> omega
      refine Xs.cons (X1.assign (v := .int (d / cd)) (Ev.bin (Ev.sub (by wtm_at "ev") (by wtm_at "ev") (Op2.itemNeg (by decide) (by simp; omega) hgl (by simp; omega)) HasItem.lst) (Ev.ifexp (v := .int cd) (Tr.cmp (Ev.call (by wtm_at "ev") (by wtm_at "kp") (by wtm_at "es") hlen) (by wtm_at "ev") Op2.eq) (fun hc2 => ?_) (fun hc2 => ?_)) (Op2.fdiv (by omega) (by omega))) ?_)
      · have : ds.length = 1 := by have := of_decide_eq_true hc2; omega
        rw [hcd, if_pos this]
        wtm_at "ev"
      · have : ds.length ≠ 1 := by have := of_decide_eq_false hc2; omega
        rw [hcd, if_neg this]
        wtm_at "ev"
      have q0 : 0 ≤ d / cd := Int.ediv_nonneg d0 (by omega)
      have q1 : d / cd ≤ d := Int.ediv_le_self _ d0
      generalize hsz : d / cd = sz at *
      have r0 : 0 ≤ sz / (signs + (ds.length : Int)) := Int.ediv_nonneg q0 (by omega)
      have r1 : sz / (signs + (ds.length : Int)) ≤ sz := Int.ediv_le_self _ q0
      refine Xs.cons (X1.assign (v := .int (sz + sz / (signs + (ds.length : Int)))) (Ev.bin (by wtm_at "ev") (Ev.bin (by wtm_at "ev") (Ev.bin (by wtm_at "ev") (Ev.call (by wtm_at "ev") (by wtm_at "kp") (by wtm_at "es") hlen) Op2.add) (Op2.fdiv (by omega) (by omega))) Op2.add) ?_)
      have hex : expF signs ds = sz + sz / (signs + (ds.length : Int)) := by
        unfold expF
        rw [hlast, ← hsz, hcd]
        rfl
      rw [← hex]
      have e0' : 0 ≤ expF signs ds := by omega
      have e1 : expF signs ds < 456 * 35 ^ 8 := by
        have : (10 : Int) ^ 11 ≤ 456 * 35 ^ 8 := by decide
        omega
      generalize he : expF signs ds = e at *
      have hlv := levF_le e1
      refine Xs.cons (X1.assign (by wtm_at "ev") ?_)
      refine Xs.cut [("expected", .int e), ("level", .int (levF e : Int))] [] ?_ ?_
      · refine X1.while ?_
        refine Wh.sub (σ' := [("expected", .int e), ("level", .int ((0 : Nat) : Int))]) (by wtm_at "sub") ?_
        refine (?_ : ∀ (k i : Nat), i + k = levF e → Wh Γ 0 (fnAt pg 9).2.2 [("expected", .int e), ("level", .int (i : Int))] _ _ _ _ _) (levF e) 0 (by omega)
        intro k
        induction k with
        | zero =>
          intro i hi
          have hno := levF_iff i e
          refine Wh.step (Tr.cmp (Ev.bin (by wtm_at "ev") (Ev.bin (by wtm_at "ev") (by wtm_at "ev") (Op2.pow (m := i) (by omega) (by decide) rfl)) (Op2.mul (by wtm_at "mul"))) (by wtm_at "ev") Op2.le) (fun hc2 => ?_) (fun hc2 => ?_)
          · have := of_decide_eq_true hc2; omega
          · have ei : i = levF e := by omega
            subst ei
            exact Xs.nil ⟨rfl, by wtm_at "sub", rfl⟩
        | succ k ihk =>
          intro i hi
          have hno := levF_iff i e
          refine Wh.step (Tr.cmp (Ev.bin (by wtm_at "ev") (Ev.bin (by wtm_at "ev") (by wtm_at "ev") (Op2.pow (m := i) (by omega) (by decide) rfl)) (Op2.mul (by wtm_at "mul"))) (by wtm_at "ev") Op2.le) (fun hc2 => ?_) (fun hc2 => ?_)
          · refine Xs.cons (X1.aug rfl (by wtm_at "ev") (by wtm_at "op") (Xs.nil ?_))
            have ei : (i : Int) + 1 = ((i + 1 : Nat) : Int) := by omega
            rw [ei]
            exact Wh.sub (by wtm_at "sub") (ihk (i + 1) (by omega))
          · have := of_decide_eq_false hc2; omega
      refine Xs.cons (X1.assign (v := .int (leftF e)) (Ev.bin (by wtm_at "ev") (Ev.bin (by wtm_at "ev") (by wtm_at "ev") (Op2.pow (m := levF e) (by omega) (by decide) rfl)) (Op2.fdiv (Int.pow_pos (by decide)) ?_)) ?_)
      · have h2 : 35 ^ levF e ≤ 35 ^ 8 := Nat.pow_le_pow_right (by decide) hlv
        have h3 : ((35 ^ levF e : Nat) : Int) ≤ ((35 ^ 8 : Nat) : Int) := by exact_mod_cast h2
        have h4 : ((35 ^ 8 : Nat) : Int) < 2 ^ 64 := by decide
        simp only [Int.natCast_pow] at h3 h4
        exact Int.lt_of_le_of_lt h3 h4
      obtain ⟨lf0, lf1⟩ := leftF_range e e0'
      have hfin : (limitsF signs ds).map PV.int = (List.replicate ((levF e : Int)).toNat [PV.int 1]).flatten ++ [.int (midF (leftF e))] ++ (List.replicate 8 [PV.int 26]).flatten := by
        unfold limitsF
        rw [if_neg e0, he, List.map_append, List.map_append, List.map_replicate, List.map_replicate, Int.toNat_natCast, List.flatten_replicate_singleton, List.flatten_replicate_singleton]
        rfl
      rw [hfin]
      refine Xs.cons (X1.ret (Ev.bin (Ev.bin (Ev.bin (by wtm_at "ev") (by wtm_at "ev") (Op2.mulL (by omega) (by omega) (by simp; omega))) (Ev.list (Es.cons (Ev.call (by wtm_at "ev") (by wtm_at "kp") (by wtm_at "es") CallOk.min2) Es.nil) (by simp)) (Op2.addL (by simp; omega))) (Ev.bin (by wtm_at "ev") (by wtm_at "ev") (Op2.mulL (by decide) (by decide) (by decide))) (Op2.addL (by simp; omega))) rfl)
  · intro pm cd doc vals h
    obtain ⟨x, y, rfl⟩ := len2 h
    rfl


noncomputable abbrev cN (c : Nat) : PV := .int (c : Int)
theorem sum_ones {α β : Type} (f : α → β) : ∀ l : List α, ((l.map fun c => [f c]).map (·.length)).sum = l.length
  | [] => rfl
  | a :: l => by simp only [List.map_cons, List.sum_cons, List.length_cons, List.length_nil, sum_ones f l]; omega
theorem text_e (T : List Nat) : (T.map fun c => [c]).map PV.str = (T.map fun c => some (PV.str [c])).filterMap id := by rw [filterMap_some (fun c => PV.str [c]), List.map_map]; rfl
theorem join_text {k : Nat} {T : List Nat} (hz : T.length < 2 ^ 18) : CallOk Γ k (.builtin "str.join") [.str [], .lst ((T.map fun c => [c]).map .str)] (.str T) := by
  have := CallOk.join (Γ := Γ) (k := k) (ls := T.map fun c => [c]) (by rw [sum_ones, List.length_map]; omega)
  rwa [flatten_ones (fun c => c), List.map_id'] at this
theorem chr_nat {k c : Nat} (h : c ≤ 1114111) : CallOk Γ k (.builtin "chr") [.int (c : Int)] (.str [c]) := by
  have := CallOk.chr (Γ := Γ) (k := k) (i := (c : Int)) (by omega) (by omega)
  rwa [Int.toNat_natCast] at this
theorem insL_cN {T : List Nat} {pl pt : Int} (h : 0 ≤ pt) : insL (T.map cN) pl.toNat (.int pt) = (putN T pl pt).map cN := by
  unfold insL putN
  rw [List.map_append, List.map_cons, List.map_take, List.map_drop]
  congr 2
  show PV.int pt = PV.int (pt.toNat : Int)
  rw [Int.toNat_of_nonneg h]
set_option maxRecDepth 100000 in
set_option maxHeartbeats 2000000 in
theorem text_ok {a : Addr} (hT : DefAt Γ a "_law_text" (fnAt pg 10)) (nLen : Γ.gl.lookup ("len" : Str) = some (PV.obj (.builtin "len"))) (nChr : Γ.gl.lookup ("chr" : Str) = some (PV.obj (.builtin "chr"))) {signs : Nat} {ds : List Int} (s1 : signs < 1000) (hd : ∀ d ∈ ds, 0 ≤ d ∧ d < 1000) (hl : ds.length ≤ 63)
    (ho : noOv (List.replicate signs 120) 128 (-1) ds) :
    CallOk Γ 1 (.ref a) [.int (signs : Int), .lst (ds.map .int)] (.str (insF (List.replicate signs 120) 128 (-1) ds)) := by
  refine DefAt.call hT ?_ ?_
  · refine Xs.cons (X1.own (EvN.mulL (xs := [.int 120]) (by wtm_at "ev") (by wtm_at "ev") (by omega) (by omega) (by simp; omega)) fun b hb => ?_)
    have e0 : (List.replicate ((signs : Int)).toNat [PV.int 120]).flatten = (List.replicate signs 120).map cN := by
      rw [Int.toNat_natCast, List.flatten_replicate_singleton, List.map_replicate]; rfl
    rw [e0]
    refine Xs.cons (X1.assign (by wtm_at "ev") ?_)
    refine Xs.cons (X1.assign (by wtm_at "ev") ?_)
    refine Xs.cons (X1.for (by wtm_at "ev") IterOk.lst ?_)
    refine Fo.sub (σ' := [("cells", .ref b), ("sign", .int 128), ("place", .int 0)]) (by wtm_at "sub") ?_
    generalize hR : insF (List.replicate signs 120) 128 (-1) ds = R
    refine (?_ : ∀ (ds : List Int) (cur : List Nat) (sign place : Int), (∀ d ∈ ds, 0 ≤ d ∧ d < 1000) → cur.length + ds.length < 2000 → 0 ≤ sign → sign ≤ 1114111 → (∀ c ∈ cur, c ≤ 1114111) → 0 ≤ place → noOv cur sign (place - 1) ds → insF cur sign (place - 1) ds = R →
      Fo Γ 0 (fnAt pg 10).2.2 [("cells", .ref b), ("sign", .int sign), ("place", .int place)] [(b, .list (cur.map cN))] _ _ _ (ds.map .int) _)
      ds (List.replicate signs 120) 128 0 hd (by simp; omega) (by decide) (by decide) (fun c hc => by rw [(List.mem_replicate.mp hc).2]; decide) (by decide) ho hR
    intro ds
    induction ds with
    | nil =>
      intro cur sign place _ hlen _ _ hcur _ _ hr
      simp only [insF] at hr
      subst hr
      refine Fo.nil (Xs.nil ?_)
      refine Xs.freeze0 (x := "cells") rfl ?_
      refine Xs.cons (X1.ret (Ev.meth (Ev.cstr (l := []) (by decide +kernel)) HasMeth.str (Es.cons (v := .lst ((cur.map fun c => [c]).map .str)) (EvN.ev ?_) Es.nil) (join_text (by omega)) PySem.F.plainAttrs_str PySem.F.slot_str_join PySem.F.type_str_join) rfl)
      rw [text_e]
      refine EvN.comp (σf := []) (Ev.name rfl) IterOk.lst ?_ (by simp; omega) trivial
      refine Paired.maps _ fun c hm => ?_
      have hcl := hcur c hm
      refine Turn.all (fun μ => As.name) trivial fun μ => ?_
      exact Ev.call (by wtm_at "ev") (by wtm_at "kp") (Es.cons (v := .int (c : Int)) (Ev.name rfl) Es.nil) (chr_nat (by omega))
    | cons d ds ih =>
      intro cur sign place hd hlen g0 g1 hcur p0 hov hr
      obtain ⟨d0, d1⟩ := hd d List.mem_cons_self
      simp only [List.length_cons] at hlen
      simp only [insF, noOv] at hr hov
      have eP : place - 1 + (d + 1) = place + d := by omega
      rw [eP] at hr hov
      obtain ⟨hv1, hv2⟩ := hov
      rw [stepC_id hv1] at hr
      rw [List.map_cons]
      refine Fo.cons As.name ?_
      refine Xs.cons (X1.aug rfl (by wtm_at "ev") (by wtm_at "op") ?_)
      have hP0 : 0 ≤ place + d := by omega
      generalize place + d = Pd at *
      have N0 : (0 : Int) < (cur.length : Int) + 1 := by omega
      have m0 := Int.emod_nonneg Pd (show (cur.length : Int) + 1 ≠ 0 by omega)
      have m1 := Int.emod_lt_of_pos Pd N0
      have q0 : 0 ≤ Pd / ((cur.length : Int) + 1) := Int.ediv_nonneg hP0 (by omega)
      refine Xs.cut [("cells", .ref b), ("sign", .int (sign + Pd / ((cur.length : Int) + 1))), ("place", .int (Pd % ((cur.length : Int) + 1)))] [(b, .list (cur.map cN))] ?_ ?_
      · refine X1.while ?_
        refine Wh.sub (σ' := [("cells", .ref b), ("sign", .int sign), ("place", .int Pd)]) (by wtm_at "sub") ?_
        generalize hS : sign + Pd / ((cur.length : Int) + 1) = S
        generalize hM : Pd % ((cur.length : Int) + 1) = M
        clear hv1 hv2 hr m0 m1 q0 g0 g1
        refine (?_ : ∀ (m : Nat) (Pd sign : Int), Pd.toNat ≤ m → 0 ≤ Pd → sign + Pd / ((cur.length : Int) + 1) = S → Pd % ((cur.length : Int) + 1) = M → Wh Γ 0 (fnAt pg 10).2.2 [("cells", .ref b), ("sign", .int sign), ("place", .int Pd)] [(b, .list (cur.map cN))] _ _ _ _) Pd.toNat Pd sign (Nat.le_refl _) hP0 hS hM
        intro m
        induction m using Nat.strongRecOn with
        | ind m ihm =>
          intro Pd sign hm hP0 hS hM
          refine Wh.step (Tr.cmp (by wtm_at "ev") (Ev.lenOwn (μ₁ := []) (μ₂ := []) (a := b) (by wtm_at "ev") rfl (by simp; omega)) Op2.gt) (fun hc => ?_) (fun hc => ?_)
          · have hgt := of_decide_eq_true hc
            rw [List.length_map] at hgt
            refine Xs.cons (X1.aug rfl (Ev.bin (Ev.lenOwn (μ₁ := []) (μ₂ := []) (a := b) (by wtm_at "ev") rfl (by simp; omega)) (by wtm_at "ev") Op2.add) (by wtm_at "op") ?_)
            refine Xs.cons (X1.aug rfl (by wtm_at "ev") (by wtm_at "op") (Xs.nil ?_))
            rw [List.length_map]
            refine Wh.sub (by wtm_at "sub") (ihm (Pd - ((cur.length : Int) + 1)).toNat (by omega) (Pd - ((cur.length : Int) + 1)) (sign + 1) (Nat.le_refl _) (by omega) ?_ ?_)
            · rw [← hS]
              have : (Pd - ((cur.length : Int) + 1)) / ((cur.length : Int) + 1) = Pd / ((cur.length : Int) + 1) - 1 := by
                have := Int.add_mul_ediv_right Pd (-1) (show (cur.length : Int) + 1 ≠ 0 by omega)
                rw [show Pd + -1 * ((cur.length : Int) + 1) = Pd - ((cur.length : Int) + 1) from by omega] at this
                omega
              omega
            · rw [← hM, Int.sub_emod_right]
          · have hle := of_decide_eq_false hc
            rw [List.length_map] at hle
            have e1 : Pd / ((cur.length : Int) + 1) = 0 := Int.ediv_eq_zero_of_lt hP0 (by omega)
            have e2 : Pd % ((cur.length : Int) + 1) = Pd := Int.emod_eq_of_lt hP0 (by omega)
            rw [← hS, ← hM, e1, e2, Int.add_zero]
            exact Xs.nil ⟨rfl, by wtm_at "sub", rfl⟩
      generalize hS : sign + Pd / ((cur.length : Int) + 1) = S at *
      generalize hM : Pd % ((cur.length : Int) + 1) = M at *
      refine Xs.cons (X1.meth (μ₁ := []) (μ₂ := []) (a := b) (o := .list (cur.map cN)) rfl (Es.cons (by wtm_at "ev") (Es.cons (by wtm_at "ev") Es.nil)) (MethOk.list_insert m0 (by simp; omega) (by simp; omega)) PySem.F.plainAttrs_list PySem.F.slot_list_insert PySem.F.type_list_insert ?_)
      rw [insL_cN (by omega)]
      refine Xs.cons (X1.aug rfl (by wtm_at "ev") (by wtm_at "op") (Xs.nil ?_))
      have hpl := putN_length cur M S
      have eM : M = M + 1 - 1 := by omega
      refine Fo.sub (by wtm_at "sub") (ih (putN cur M S) S (M + 1) (fun x h => hd x (List.mem_cons_of_mem _ h)) (by omega) (by omega) hv1 ?_ (by omega) (by rw [← eM]; exact hv2) (by rw [← eM]; exact hr))
      intro c hc
      unfold putN at hc
      rcases List.mem_append.mp hc with h | h
      · exact hcur c (List.mem_of_mem_take h)
      · rcases List.mem_cons.mp h with h | h
        · omega
        · exact hcur c (List.mem_of_mem_drop h)
  · intro pm cd doc vals h
    obtain ⟨x, y, rfl⟩ := len2 h
    rfl


noncomputable abbrev gl8 (aT aG aA aI aD aS aL aX : Addr) : List (Str × PV) := [("T", .obj (.ref aT)), ("digits", .bytes dgs), ("generate_generalized_integer", .obj (.ref aG)), ("adapt", .obj (.ref aA)), ("generate_integers", .obj (.ref aI)), ("decode_generalized_number", .obj (.ref aD)), ("insertion_sort", .obj (.ref aS)), ("_law_limits", .obj (.ref aL)), ("_law_text", .obj (.ref aX)),
  ("len", .obj (.builtin "len")), ("bytes", .obj (.type "bytes")), ("bytearray", .obj (.type "bytearray")), ("enumerate", .obj (.type "enumerate")), ("ord", .obj (.builtin "ord")), ("chr", .obj (.builtin "chr")), ("sum", .obj (.builtin "sum")), ("list", .obj (.type "list")), ("abs", .obj (.builtin "abs")), ("min", .obj (.builtin "min")), ("IndexError", .obj (.type "IndexError")), ("UnicodeDecodeError", .obj (.type "UnicodeDecodeError"))]
noncomputable abbrev G8 (w : World) (B : Heap) (aT aG aA aI aD aS aL aX : Addr) : Cx := ⟨PySem.Challenge.pw_dm0101_08, w, B, gl8 aT aG aA aI aD aS aL aX⟩
structure Has8 (w : World) (B : Heap) (aT aG aA aI aD aS aL aX : Addr) : Prop where
  dT : DefAt (G8 w B aT aG aA aI aD aS aL aX) aT "T" (fnAt pg 1)
  dG : DefAt (G8 w B aT aG aA aI aD aS aL aX) aG "generate_generalized_integer" (fnAt pg 3)
  dA : DefAt (G8 w B aT aG aA aI aD aS aL aX) aA "adapt" (fnAt pg 4)
  dI : DefAt (G8 w B aT aG aA aI aD aS aL aX) aI "generate_integers" (fnAt pg 5)
  dD : DefAt (G8 w B aT aG aA aI aD aS aL aX) aD "decode_generalized_number" (fnAt pg 6)
  dS : DefAt (G8 w B aT aG aA aI aD aS aL aX) aS "insertion_sort" (fnAt pg 7)
  dL : DefAt (G8 w B aT aG aA aI aD aS aL aX) aL "_law_limits" (fnAt pg 9)
  dX : DefAt (G8 w B aT aG aA aI aD aS aL aX) aX "_law_text" (fnAt pg 10)


noncomputable abbrev ignoreL : List Nat := [105, 103, 110, 111, 114, 101]
section
variable {w : World} {B : Heap} {aT aG aA aI aD aS aL aX : Addr} (H : Has8 w B aT aG aA aI aD aS aL aX)
theorem neS_self {Γ : Cx} (T : List Nat) : Op2 Γ (compareOp .NotEq) (.str T) (.str T) (.bool false) := by
  have := Op2.neS (Γ := Γ) (a := T) (b := T)
  rwa [bne_self_eq_false] at this
theorem eqS_self {Γ : Cx} (T : List Nat) : Op2 Γ (compareOp .Eq) (.str T) (.str T) (.bool true) := by
  have := Op2.eqS (Γ := Γ) (a := T) (b := T)
  rwa [beq_self_eq_true] at this
set_option maxRecDepth 100000 in
set_option maxHeartbeats 4000000 in
include H in
theorem law_end0 {signs : Nat} {A : List Int} {due : Int} (s57 : signs ≤ 57) (hA0 : ∀ d ∈ A, 0 ≤ d ∧ d < 1000) (hAl : A.length ≤ 63) (hov : noOv (List.replicate signs 120) 128 (-1) A) :
    XsT (G8 w B aT aG aA aI aD aS aL aX) 3 (fnAt pg 11).2.2 [("base", .str (List.replicate signs 120)), ("text", .str (insF (List.replicate signs 120) 128 (-1) A)), ("common", .bytes ((giD signs 0 72 A).map dU)), ("alike", .int 0), ("due", .int due)] [] ((fnAt pg 11).2.1.drop 21) := by
  have kS := H.dS.keep
  have eb : (List.replicate signs 120).length = signs := List.length_replicate
  have hd20 : ∀ d ∈ A, 0 ≤ d ∧ d < 10 ^ 20 := fun d h => by have := hA0 d h; omega
  have h1 := ins_ok (el := ignoreL) H.dS ⟨H.dT, rfl, H.dA, rfl, H.dD, rfl, rfl, rfl, rfl⟩ hd20 (by omega) (by omega) hov
  have h2 := ins_ok (el := strictL) H.dS ⟨H.dT, rfl, H.dA, rfl, H.dD, rfl, rfl, rfl, rfl⟩ hd20 (by omega) (by omega) hov
  rw [eb] at h1 h2
  generalize insF (List.replicate signs 120) 128 (-1) A = TX at *
  generalize (giD signs 0 72 A).map dU = CM at *
  generalize List.replicate signs 120 = BS at *
  refine XsT.cons (X1.ite (c := false) (Tr.cmp (Ev.call (by wtm_at "ev") (by wtm_at "kp") (Es.cons (by wtm_at "ev") (Es.cons (by wtm_at "ev") (Es.cons (Ev.cstr (l := ignoreL) (by decide +kernel)) Es.nil))) h1) (by wtm_at "ev") (neS_self TX)) (fun hc => nomatch hc) (fun _ => Xs.nil ?_))
  refine XsT.cons (X1.try (Xs.cons (X1.assign (Ev.call (by wtm_at "ev") (by wtm_at "kp") (Es.cons (by wtm_at "ev") (Es.cons (by wtm_at "ev") (Es.cons (Ev.cstr (l := strictL) (by decide +kernel)) Es.nil))) h2) (Xs.nil (Xs.nil ?_)))))
  have h00 : Op2 (G8 w B aT aG aA aI aD aS aL aX) (compareOp .Eq) (.int 0) (.int 0) (.bool true) := Op2.eq
  exact XsT.cons (X1.ret (Ev.andT (Ev.cmp (by wtm_at "ev") (by wtm_at "ev") h00) (Ev.cmp (by wtm_at "ev") (by wtm_at "ev") (eqS_self TX))) rfl)
set_option maxRecDepth 100000 in
set_option maxHeartbeats 4000000 in
include H in
theorem law_endK {signs : Nat} {A pre : List Int} (s57 : signs ≤ 57) (hA0 : ∀ d ∈ A, 0 ≤ d ∧ d < 1000) (hAl : A.length ≤ 63) (hov : noOv (List.replicate signs 120) 128 (-1) A)
    (hFl : (giD signs 0 72 A ++ pre).length < 2 ^ 20) (hpre : pre ≠ []) (hok : okP (biasR signs 0 72 A) 0 pre) :
    XsT (G8 w B aT aG aA aI aD aS aL aX) 3 (fnAt pg 11).2.2 [("base", .str (List.replicate signs 120)), ("text", .str (insF (List.replicate signs 120) 128 (-1) A)), ("common", .bytes ((giD signs 0 72 A ++ pre).map dU)), ("alike", .int (pre.length : Int)), ("due", .int (((giD signs 0 72 A ++ pre).map dU).length : Int))] [] ((fnAt pg 11).2.1.drop 21) := by
  have kS := H.dS.keep
  have eb : (List.replicate signs 120).length = signs := List.length_replicate
  have hd20 : ∀ d ∈ A, 0 ≤ d ∧ d < 10 ^ 20 := fun d h => by have := hA0 d h; omega
  have h1 := ins_cut (el := ignoreL) (pre := pre) (base := List.replicate signs 120) H.dS ⟨H.dT, rfl, H.dA, rfl, H.dD, rfl, rfl, rfl, rfl⟩ rfl hd20 (by omega) (by omega) hov (by rw [eb]; exact hFl) hpre (by rw [eb]; exact hok) (by decide)
  have h2 := ins_cutE (pre := pre) (base := List.replicate signs 120) H.dS ⟨H.dT, rfl, H.dA, rfl, H.dD, rfl, rfl, rfl, rfl⟩ rfl rfl hd20 (by omega) (by omega) hov (by rw [eb]; exact hFl) hpre (by rw [eb]; exact hok) (fun m h => h)
  rw [eb] at h1 h2
  have hp0 : (0 : Int) < (pre.length : Int) := by have := List.length_pos_iff.mpr hpre; omega
  generalize insF (List.replicate signs 120) 128 (-1) A = TX at *
  generalize (giD signs 0 72 A ++ pre).map dU = CM at *
  generalize List.replicate signs 120 = BS at *
  generalize (pre.length : Int) = al at *
  refine XsT.ifX (by wtm_at "ev") kS (Es.cons (by wtm_at "ev") (Es.cons (by wtm_at "ev") (Es.cons (Ev.cstr (l := ignoreL) (by decide +kernel)) Es.nil))) h1 (by wtm_at "ev") (neS_self TX) ?_ rfl rfl
  exact XsT.tryFault (by wtm_at "ev") kS (Es.cons (by wtm_at "ev") (Es.cons (by wtm_at "ev") (Es.cons (Ev.cstr (l := strictL) (by decide +kernel)) Es.nil))) h2 rfl hp0 rfl rfl rfl
end


theorem ints_map_cut (l : List Int) (lo hi : Option Int) : cutL (l.map PV.int) lo hi = (cutL l lo hi).map .int := by
  unfold cutL
  rw [List.map_take, List.map_drop, List.length_map]
theorem dB_take (l : List Int) (c : Nat) : cutL (l.map dB) none (some (c : Int)) = (l.take c).map dB := by rw [cut_to, List.map_take]
theorem neB_self {Γ : Cx} (l : List UInt8) : Op2 Γ (compareOp .NotEq) (.bytes l) (.bytes l) (.bool false) := by
  have := Op2.neB (Γ := Γ) (a := l) (b := l)
  rwa [bne_self_eq_false] at this
theorem le_no {Γ : Cx} {a b : Int} (h : b < a) : Op2 Γ (compareOp .LtE) (.int a) (.int b) (.bool false) := by
  have := Op2.le (Γ := Γ) (a := a) (b := b)
  rwa [decide_eq_false (by omega)] at this
theorem eq_no {Γ : Cx} {a b : Int} (h : a ≠ b) : Op2 Γ (compareOp .Eq) (.int a) (.int b) (.bool false) := by
  have := Op2.eq (Γ := Γ) (a := a) (b := b)
  rwa [decide_eq_false h] at this
section
variable {w : World} {B : Heap} {aT aG aA aI aD aS aL aX : Addr} (H : Has8 w B aT aG aA aI aD aS aL aX)
set_option maxRecDepth 100000 in
set_option maxHeartbeats 4000000 in
include H in
theorem law_tail {signs at' K : Nat} {one other A pre t1 t2 u1 u2 : List Int} {x y : Int} (s8 : 8 ≤ signs) (s57 : signs ≤ 57) (ho : ∀ d ∈ one, 0 ≤ d ∧ d < 10 ^ 20) (ho1 : one.length ≤ 63) (hoth : ∀ d ∈ other, 0 ≤ d ∧ d < 10 ^ 20) (hoth1 : other.length ≤ 200)
    (hA : one.take at' = A) (hA0 : ∀ d ∈ A, 0 ≤ d ∧ d < 1000)
    (e1 : giD signs 0 72 one = giD signs 0 72 A ++ (pre ++ t1)) (e2 : giD signs 0 72 other = giD signs 0 72 A ++ (pre ++ t2)) (hpl : pre.length = K) (ht1 : t1 = x :: u1) (ht2 : t2 = y :: u2) (hxy : x ≠ y) (hok : okP (biasR signs 0 72 A) 0 pre) :
    XsT (G8 w B aT aG aA aI aD aS aL aX) 3 (fnAt pg 11).2.2 [("signs", .int (signs : Int)), ("one", .lst (one.map .int)), ("at", .int (at' : Int)), ("other", .lst (other.map .int)), ("alike", .int (K : Int))] [] ((fnAt pg 11).2.1.drop 12) := by
  have kX := H.dX.keep
  have kI := H.dI.keep
  have hAl : A.length ≤ 63 := by rw [← hA, List.length_take]; omega
  have hd20 : ∀ d ∈ A, 0 ≤ d ∧ d < 10 ^ 20 := fun d h => by have := hA0 d h; omega
  have c0 := gi_ok H.dI ⟨H.dT, rfl, rfl, rfl, rfl⟩ H.dG rfl H.dA rfl rfl (base := (signs : Int)) (by omega) (by omega) hd20 (by omega)
  have c1 := gi_ok H.dI ⟨H.dT, rfl, rfl, rfl, rfl⟩ H.dG rfl H.dA rfl rfl (base := (signs : Int)) (by omega) (by omega) ho (by omega)
  have c2 := gi_ok H.dI ⟨H.dT, rfl, rfl, rfl, rfl⟩ H.dG rfl H.dA rfl rfl (base := (signs : Int)) (by omega) (by omega) hoth (by omega)
  have l1 := giD_length signs one 0 72 fun d hm => (ho d hm).2
  have l2 := giD_length signs other 0 72 fun d hm => (hoth d hm).2
  have f1 := giD_dig signs one 0 72 fun d hm => (ho d hm).1
  have f2 := giD_dig signs other 0 72 fun d hm => (hoth d hm).1
  have hov : noOv (List.replicate signs 120) 128 (-1) A := noOv_small A _ _ _ (fun d h => by have := hA0 d h; omega) (by decide) (by decide) (by omega) (by omega)
  have cT := CallOk.mono (text_ok H.dX rfl rfl (signs := signs) (by omega) hA0 (by omega) hov) (show 1 ≤ 3 by decide)
  have end0 : pre = [] → XsT (G8 w B aT aG aA aI aD aS aL aX) 3 (fnAt pg 11).2.2 [("base", .str (List.replicate signs 120)), ("text", .str (insF (List.replicate signs 120) 128 (-1) A)), ("common", .bytes ((giD signs 0 72 A ++ pre).map dU)), ("alike", .int (pre.length : Int)), ("due", .int (((giD signs 0 72 A ++ pre).map dU).length : Int))] [] ((fnAt pg 11).2.1.drop 21) := by
    rintro rfl
    rw [List.append_nil]
    exact law_end0 H s57 hA0 hAl hov
  rw [e1] at c1 l1 f1
  rw [e2] at c2 l2 f2
  have hFl : (giD signs 0 72 A ++ pre).length < 2 ^ 20 := by simp only [List.length_append] at l1 ⊢; omega
  have hend : XsT (G8 w B aT aG aA aI aD aS aL aX) 3 (fnAt pg 11).2.2 [("base", .str (List.replicate signs 120)), ("text", .str (insF (List.replicate signs 120) 128 (-1) A)), ("common", .bytes ((giD signs 0 72 A ++ pre).map dU)), ("alike", .int (pre.length : Int)), ("due", .int (((giD signs 0 72 A ++ pre).map dU).length : Int))] [] ((fnAt pg 11).2.1.drop 21) := by
    by_cases hp : pre = []
    · exact end0 hp
    · exact law_endK H s57 hA0 hAl hov hFl hp hok
  clear end0 hFl hok hov e1 e2 hd20 hA0 ho hoth
  subst ht1 ht2
  have hx := f1 x (by simp)
  have hy := f2 y (by simp)
  clear f1 f2
  generalize giD signs 0 72 A = FA at *
  generalize insF (List.replicate signs 120) 128 (-1) A = TX at *
  rw [List.length_map, List.length_append, hpl] at hend
  simp only [List.length_append, List.length_cons] at l1 l2
  have hcut : cutL (one.map PV.int) none (some (at' : Int)) = A.map .int := by rw [← hA, ← cut_to, ints_map_cut]
  have hsl : SliceOk (G8 w B aT aG aA aI aD aS aL aX) (.lst (one.map PV.int)) none (some (at' : Int)) none (.lst (A.map .int)) := by
    rw [← hcut]; exact SliceOk.lst (by simp; omega)
  have hbs : ∀ (l : List Int) (c : Nat), l.length < 2 ^ 20 → SliceOk (G8 w B aT aG aA aI aD aS aL aX) (.bytes (l.map dB)) none (some (c : Int)) none (.bytes ((l.take c).map dB)) := fun l c hl => by
    rw [← dB_take]; exact SliceOk.bytes (by simp; omega)
  have hln : ∀ l : List Int, l.length < 2 ^ 20 → CallOk (G8 w B aT aG aA aI aD aS aL aX) 3 (.builtin "len") [.bytes (l.map dB)] (.int (l.length : Int)) := fun l hl => by
    have := CallOk.len_bytes (Γ := G8 w B aT aG aA aI aD aS aL aX) (k := 3) (l := l.map dB) (by simp; omega)
    rwa [List.length_map] at this
  refine XsT.cons (X1.assign (Ev.call (by wtm_at "ev") (by wtm_at "kp") (Es.cons (by wtm_at "ev") (Es.cons (Ev.slice (by wtm_at "ev") Pt.none (Pt.some (by wtm_at "ev")) hsl HasItem.lst) Es.nil)) c0) ?_)
  refine XsT.cons (X1.assign (v := .int ((FA.length + K : Nat) : Int)) (Ev.bin (Ev.call (by wtm_at "ev") (by wtm_at "kp") (by wtm_at "es") (hln FA (by omega))) (by wtm_at "ev") Op2.add) ?_)
  refine XsT.cons (X1.assign (Ev.call (by wtm_at "ev") (by wtm_at "kp") (by wtm_at "es") c1) ?_)
  refine XsT.cons (X1.assign (Ev.call (by wtm_at "ev") (by wtm_at "kp") (by wtm_at "es") c2) ?_)
  have k1 : (FA ++ (pre ++ x :: u1)).take FA.length = FA := by simp
  have k2 : (FA ++ (pre ++ x :: u1)).take (FA.length + K) = FA ++ pre := by rw [← hpl, ← List.append_assoc, ← List.length_append, List.take_left]
  have k3 : (FA ++ (pre ++ y :: u2)).take (FA.length + K) = FA ++ pre := by rw [← hpl, ← List.append_assoc, ← List.length_append, List.take_left]
  have g1 : (((FA ++ (pre ++ x :: u1)).map dB).getD (((FA.length + K : Nat) : Int)).toNat 0) = dB x := by
    rw [Int.toNat_natCast, List.getD_eq_getElem?_getD, List.getElem?_map, ← hpl, ← List.append_assoc, ← List.length_append, List.getElem?_append_right (Nat.le_refl _), Nat.sub_self]; rfl
  have g2 : (((FA ++ (pre ++ y :: u2)).map dB).getD (((FA.length + K : Nat) : Int)).toNat 0) = dB y := by
    rw [Int.toNat_natCast, List.getD_eq_getElem?_getD, List.getElem?_map, ← hpl, ← List.append_assoc, ← List.length_append, List.getElem?_append_right (Nat.le_refl _), Nat.sub_self]; rfl
  have hne : ((dB x).toNat : Int) ≠ ((dB y).toNat : Int) := fun q => hxy (dB_inj hx hy (UInt8.toNat_inj.mp (by omega)))
  have L1 : (FA ++ (pre ++ x :: u1)).length < 2 ^ 20 := by simp; omega
  have L2 : (FA ++ (pre ++ y :: u2)).length < 2 ^ 20 := by simp; omega
  have P1 : ((FA.length + K : Nat) : Int) < ((FA ++ (pre ++ x :: u1)).length : Int) := by simp; omega
  have P2 : ((FA.length + K : Nat) : Int) < ((FA ++ (pre ++ y :: u2)).length : Int) := by simp; omega
  have s1 := hbs (FA ++ (pre ++ x :: u1)) FA.length L1
  have s2 := hbs (FA ++ (pre ++ x :: u1)) (FA.length + K) L1
  have s3 := hbs (FA ++ (pre ++ y :: u2)) (FA.length + K) L2
  rw [k1] at s1
  rw [k2] at s2
  rw [k3] at s3
  have i1 : Op2 (G8 w B aT aG aA aI aD aS aL aX) getItem (.bytes ((FA ++ (pre ++ x :: u1)).map dB)) (.int ((FA.length + K : Nat) : Int)) (.int ((dB x).toNat : Int)) := by
    rw [← g1]; exact Op2.itemB (by omega) (by rw [List.length_map]; exact P1) (by rw [List.length_map]; exact L1)
  have i2 : Op2 (G8 w B aT aG aA aI aD aS aL aX) getItem (.bytes ((FA ++ (pre ++ y :: u2)).map dB)) (.int ((FA.length + K : Nat) : Int)) (.int ((dB y).toNat : Int)) := by
    rw [← g2]; exact Op2.itemB (by omega) (by rw [List.length_map]; exact P2) (by rw [List.length_map]; exact L2)
  have n1 := hln _ L1
  have n2 := hln _ L2
  have n0 := hln FA (by omega)
  have hdue : (((FA.length + K : Nat)) : Int) = ((FA.length + K : Nat) : Int) := rfl
  generalize (((FA.length + K : Nat)) : Int) = due at *
  generalize ((FA ++ (pre ++ x :: u1)).length : Int) = z1 at *
  generalize ((FA ++ (pre ++ y :: u2)).length : Int) = z2 at *
  generalize (FA ++ (pre ++ x :: u1)).map dB = F1 at *
  generalize (FA ++ (pre ++ y :: u2)).map dB = F2 at *
  refine XsT.cons (X1.ite (c := false) (Tr.or2F (Tr.cmp (Ev.slice (by wtm_at "ev") Pt.none (Pt.some (Ev.call (by wtm_at "ev") (by wtm_at "kp") (by wtm_at "es") n0)) s1 HasItem.bytes) (by wtm_at "ev") (neB_self _)) (Tr.cmp (Ev.slice (by wtm_at "ev") Pt.none (Pt.some (by wtm_at "ev")) s2 HasItem.bytes) (Ev.slice (by wtm_at "ev") Pt.none (Pt.some (by wtm_at "ev")) s3 HasItem.bytes) (neB_self _))) (fun hc => nomatch hc) (fun _ => Xs.nil ?_))
  refine XsT.cons (X1.ite (c := false) (Tr.or3F (Tr.cmp (Ev.call (by wtm_at "ev") (by wtm_at "kp") (by wtm_at "es") n1) (by wtm_at "ev") (le_no P1)) (Tr.cmp (Ev.call (by wtm_at "ev") (by wtm_at "kp") (by wtm_at "es") n2) (by wtm_at "ev") (le_no P2)) (Tr.cmp (Ev.sub (by wtm_at "ev") (by wtm_at "ev") i1 HasItem.bytes) (Ev.sub (by wtm_at "ev") (by wtm_at "ev") i2 HasItem.bytes) (eq_no hne))) (fun hc => nomatch hc) (fun _ => Xs.nil ?_))
  refine XsT.cons (X1.assign (Ev.bin (Ev.cstr (l := [120]) (by decide +kernel)) (by wtm_at "ev") (Op2.mulS (by omega) (by omega))) ?_)
  refine XsT.cons (X1.assign (Ev.call (by wtm_at "ev") (by wtm_at "kp") (Es.cons (by wtm_at "ev") (Es.cons (Ev.slice (by wtm_at "ev") Pt.none (Pt.some (by wtm_at "ev")) hsl HasItem.lst) Es.nil)) cT) ?_)
  refine XsT.cons (X1.assign (Ev.meth (Ev.slice (by wtm_at "ev") Pt.none (Pt.some (by wtm_at "ev")) s2 HasItem.bytes) HasMeth.bytes Es.nil (CallOk.upper (by simp; omega)) F.b_plainAttrs F.b_slot_upper F.b_type_upper) ?_)
  rw [toUpper_eq, map_upB]
  exact XsT.less (by wtm_at "sub") hend
end


theorem XsT.cut {Γ : Cx} {k : Nat} {sc : Scope} {σ : Loc} {μ : Own} {st : Stmt} {rest : List Stmt} (σ₁ : Loc) (μ₁ : Own) (h1 : X1 Γ k sc σ μ st (fun fl σ' μ' => fl = .next ∧ Sub σ' σ₁ ∧ μ' = μ₁)) (h2 : XsT Γ k sc σ₁ μ₁ rest) : XsT Γ k sc σ μ (st :: rest) := by
  refine XsT.cons (fun A n F h₀ s Q E hn hA X hQ => h1 A n F h₀ s Q E hn hA X fun fl σ' μ' f s' hP X' sp hf => hQ fl σ' μ' f s' ?_ X' sp hf)
  obtain ⟨rfl, hs, rfl⟩ := hP
  exact XsT.less hs h2
theorem stepL_back (xs : List Int) (n : Nat) : (stepL xs none (some (n : Int)) (-1)).length ≤ xs.length ∧ ∀ x ∈ stepL xs none (some (n : Int)) (-1), x ∈ xs := by
  unfold stepL
  refine ⟨Nat.le_trans (List.length_filterMap_le _ _) ?_, fun x hx => ?_⟩
  · have hb : sliceBounds none (some (n : Int)) (some (-1)) xs.length = ((xs.length : Int) - 1, max (-1) (min (n : Int) ((xs.length : Int) - 1)), -1) := by
      unfold sliceBounds
      simp [show ¬ ((n : Int) < 0) by omega]
    rw [hb]
    show (sliceRange ((xs.length : Int) - 1) (max (-1) (min (n : Int) ((xs.length : Int) - 1))) (-1)).length ≤ _
    generalize hm : max (-1) (min (n : Int) ((xs.length : Int) - 1)) = m
    have hm1 : -1 ≤ m := by omega
    unfold sliceRange
    rw [List.length_map, List.length_range, if_neg (by decide)]
    split
    · rw [show (-(-1) : Int) = 1 from rfl, Int.ediv_one]; omega
    · simp
  · obtain ⟨i, _, hi⟩ := List.mem_filterMap.mp hx
    exact List.mem_of_getElem? hi
noncomputable def gapF (g : Int) (ls : List Int) : Int := ls.foldl (fun g l => g * (36 - l)) g
theorem gapF_pos : ∀ (ls : List Int) (g : Int), (∀ l ∈ ls, 1 ≤ l ∧ l ≤ 26) → 0 < g → 0 < gapF g ls ∧ gapF g ls ≤ g * 35 ^ ls.length
  | [], g, _, h => ⟨h, by simp [gapF]⟩
  | l :: ls, g, hl, h => by
    obtain ⟨l1, l2⟩ := hl l List.mem_cons_self
    have hp : 0 < g * (36 - l) := Int.mul_pos h (by omega)
    obtain ⟨i1, i2⟩ := gapF_pos ls (g * (36 - l)) (fun x hx => hl x (List.mem_cons_of_mem _ hx)) hp
    refine ⟨i1, Int.le_trans i2 ?_⟩
    rw [List.length_cons, Int.pow_succ, Int.mul_comm (35 ^ ls.length) 35, ← Int.mul_assoc]
    exact Int.mul_le_mul_of_nonneg_right (Int.mul_le_mul_of_nonneg_left (by omega) (by omega)) (Int.pow_nonneg (by decide))
theorem XsT.freeze0 {Γ : Cx} {k : Nat} {sc : Scope} {σ : Loc} {μ₂ : Own} {a : Addr} {x : Str} {xs : List PV} {sts : List Stmt} (hx : σ.lookup x = some (.ref a)) (h : XsT Γ k sc ((x, .lst xs) :: σ) μ₂ sts) : XsT Γ k sc σ ((a, .list xs) :: μ₂) sts :=
  fun A n F h₀ s Q E hn hA hfr hL X hQ => h A n F h₀ s Q E hn hA hfr hL (Sx.freeze (μ₁ := []) X hx) hQ
section
variable {w : World} {B : Heap} {aT aG aA aI aD aS aL aX : Addr} (H : Has8 w B aT aG aA aI aD aS aL aX)
set_option maxRecDepth 100000 in
set_option maxHeartbeats 4000000 in
include H in
theorem law_body {ns : List Int} (hn : ns.length ≤ 63) :
    XsT (G8 w B aT aG aA aI aD aS aL aX) 3 (fnAt pg 11).2.2 [("script", .lst (ns.map .int))] [] (fnAt pg 11).2.1 := by
  have kL := H.dL.keep
  have kX := H.dX.keep
  have kS := H.dS.keep
  have kI := H.dI.keep
  obtain ⟨nums, hnums, hlen, hlen0⟩ : ∃ nums : List Int, nums = (if ns = [] then [0, 0, 0, 1] else ns) ∧ nums.length ≤ 63 ∧ 0 < nums.length := ⟨_, rfl, by split <;> first | (simp; done) | omega, by split; decide; exact List.length_pos_iff.mpr ‹_›⟩
  refine XsT.cut [("numbers", .lst (nums.map .int))] [] (X1.assign (v := .lst (nums.map .int)) (Ev.ifexp (c := !(ns.map PV.int).isEmpty) (Tr.val (by wtm_at "ev") (Truth.lst (xs := ns.map PV.int) (by simp; omega))) (fun hc => ?_) (fun hc => ?_)) ⟨rfl, by wtm_at "sub", rfl⟩) ?_
  · have : ns ≠ [] := by rintro rfl; simp at hc
    rw [if_neg this] at hnums; subst hnums
    refine Ev.call (by wtm_at "ev") KeepOk.type (by wtm_at "es") (CallOk.list_lst (by simp; omega))
  · have : ns = [] := by simpa using hc
    rw [if_pos this] at hnums; subst hnums
    show Ev _ _ _ _ _ _ (.lst [.int 0, .int 0, .int 0, .int 1])
    wtm_at "ev"
  obtain ⟨x0, hx0⟩ : ∃ x0, nums[0]? = some x0 := ⟨nums[0], List.getElem?_eq_getElem hlen0⟩
  refine XsT.cons (X1.assign (Ev.bin (by wtm_at "ev") (Ev.bin (Ev.sub (by wtm_at "ev") (by wtm_at "ev") (Op2.item (by decide) (r := .int x0) (by rw [List.getElem?_map]; simp [hx0]) (by simp; omega)) HasItem.lst) (by wtm_at "ev") (Op2.mod (by decide))) Op2.add) ?_)
  have m0 : 0 ≤ x0 % 50 := Int.emod_nonneg _ (by decide)
  have m1 : x0 % 50 < 50 := Int.emod_lt_of_pos _ (by decide)
  obtain ⟨signs, hsg, s8, s57⟩ : ∃ signs : Nat, 8 + x0 % 50 = (signs : Int) ∧ 8 ≤ signs ∧ signs ≤ 57 := ⟨(8 + x0 % 50).toNat, by omega, by omega, by omega⟩
  rw [hsg]
  obtain ⟨one, hone⟩ : ∃ one : List Int, one = nums.map fun x => ((if x < 0 then -x else x) + 1) * 97 % 1000 := ⟨_, rfl⟩
  have ho : ∀ d ∈ one, 0 ≤ d ∧ d < 1000 := by
    intro d hd
    rw [hone] at hd
    obtain ⟨x, _, rfl⟩ := List.mem_map.mp hd
    exact ⟨Int.emod_nonneg _ (by decide), Int.emod_lt_of_pos _ (by decide)⟩
  have ho1 : one.length = nums.length := by rw [hone, List.length_map]
  refine XsT.cons (X1.ownComp (σf := []) (rs := nums.map fun x => some (PV.int (((if x < 0 then -x else x) + 1) * 97 % 1000))) (by wtm_at "ev") IterOk.lst ?_ (by simp; omega) trivial fun a1 ha1 => ?_)
  · refine Paired.maps _ fun x hm => ?_
    refine Turn.all (fun μ => As.name) trivial fun μ => ?_
    exact Ev.bin (Ev.bin (Ev.bin (Ev.call (by wtm_at "ev") (by wtm_at "kp") (by wtm_at "es") CallOk.abs) (by wtm_at "ev") Op2.add) (by wtm_at "ev") (Op2.mul (by wtm_at "mul"))) (by wtm_at "ev") (Op2.mod (b := 1000) (by decide))
  have e1 : (nums.map fun x => some (PV.int (((if x < 0 then -x else x) + 1) * 97 % 1000))).filterMap id = one.map .int := by
    rw [filterMap_some (fun x : Int => PV.int (((if x < 0 then -x else x) + 1) * 97 % 1000)), hone, List.map_map]; rfl
  rw [e1]
  refine XsT.freeze0 (x := "one") rfl ?_
  have hlenC := CallOk.len_lst (Γ := G8 w B aT aG aA aI aD aS aL aX) (k := 3) (xs := nums.map PV.int) (by simp; omega)
  rw [List.length_map] at hlenC
  refine XsT.cons (X1.assign (Ev.bin (Ev.call (by wtm_at "ev") (by wtm_at "kp") (by wtm_at "es") CallOk.sum) (Ev.call (by wtm_at "ev") (by wtm_at "kp") (by wtm_at "es") hlenC) (Op2.mod (by omega))) ?_)
  have a0 : 0 ≤ nums.sum % (nums.length : Int) := Int.emod_nonneg _ (by omega)
  have a1' : nums.sum % (nums.length : Int) < (nums.length : Int) := Int.emod_lt_of_pos _ (by omega)
  obtain ⟨at', hat, hatl⟩ : ∃ at' : Nat, nums.sum % (nums.length : Int) = (at' : Int) ∧ at' < nums.length := ⟨(nums.sum % (nums.length : Int)).toNat, by omega, by omega⟩
  rw [hat]
  have hcut : ∀ l : List Int, cutL (l.map PV.int) none (some (at' : Int)) = (l.take at').map .int := fun l => by rw [ints_map_cut, cut_to]
  obtain ⟨A, hA⟩ : ∃ A : List Int, A = one.take at' := ⟨_, rfl⟩
  have hA0 : ∀ d ∈ A, 0 ≤ d ∧ d < 1000 := fun d hd => ho d (by rw [hA] at hd; exact List.mem_of_mem_take hd)
  have hAl : A.length = at' := by rw [hA, List.length_take]; omega
  refine XsT.cons (X1.assign (v := .lst ((limitsF signs A).map .int)) (Ev.call (by wtm_at "ev") (by wtm_at "kp") (Es.cons (by wtm_at "ev") (Es.cons (v := .lst (A.map .int)) ?_ Es.nil)) (CallOk.mono (limits_ok H.dL rfl rfl (by omega) (by omega) hA0 (by omega)) (by decide))) ?_)
  · rw [hA, ← hcut]
    exact Ev.slice (by wtm_at "ev") Pt.none (Pt.some (by wtm_at "ev")) (SliceOk.lst (by simp; omega)) HasItem.lst
  obtain ⟨LL, hLL⟩ : ∃ LL : List Int, LL = limitsF signs A := ⟨_, rfl⟩
  have hLim : ∀ l ∈ LL, 1 ≤ l ∧ l ≤ 26 := by
    rw [hLL]
    obtain ⟨n, _, e⟩ := limits_eq (signs := (signs : Int)) (ds := A) (by omega) fun d hd => (hA0 d hd).1
    rw [e, limD_map]
    intro l hl
    obtain ⟨p, _, rfl⟩ := List.mem_map.mp hl
    exact ⟨tF_ge _ _, tF_le _ _⟩
  have hLl : LL.length ≤ 17 := by rw [hLL]; exact limitsF_len (by omega) hA0
  rw [← hLL]
  refine XsT.cons (X1.assign (v := .int (1 + nums.sum / (nums.length : Int) % 40)) (Ev.bin (by wtm_at "ev") (Ev.bin (Ev.bin (Ev.call (by wtm_at "ev") (by wtm_at "kp") (by wtm_at "es") CallOk.sum) (Ev.call (by wtm_at "ev") (by wtm_at "kp") (by wtm_at "es") hlenC) (Op2.fdiv (by omega) (by omega))) (by wtm_at "ev") (Op2.mod (b := 40) (by decide))) Op2.add) ?_)
  have g0 : 0 ≤ nums.sum / (nums.length : Int) % 40 := Int.emod_nonneg _ (by decide)
  have g1 : nums.sum / (nums.length : Int) % 40 < 40 := Int.emod_lt_of_pos _ (by decide)
  obtain ⟨xl, hxl⟩ : ∃ xl, nums[nums.length - 1]? = some xl := ⟨nums[nums.length - 1], List.getElem?_eq_getElem (by omega)⟩
  obtain ⟨c, hc, hc3⟩ : ∃ c : Nat, xl % 3 = (c : Int) ∧ c < 3 := ⟨(xl % 3).toNat, by omega, by omega⟩
  generalize hg1 : 1 + nums.sum / (nums.length : Int) % 40 = gap1 at *
  have hgl : (nums.map PV.int)[((-1 : Int) + ((nums.map PV.int).length : Int)).toNat]? = some (.int xl) := by
    rw [List.getElem?_map, List.length_map, show ((-1 : Int) + (nums.length : Int)).toNat = nums.length - 1 from by omega, hxl]; rfl
  refine XsT.cut [("signs", .int (signs : Int)), ("one", .lst (one.map .int)), ("at", .int (at' : Int)), ("limits", .lst (LL.map .int)), ("gap", .int (gapF gap1 (LL.take c)))] [] ?_ ?_
  · refine X1.for (p := .lst ((LL.take c).map .int)) ?_ IterOk.lst ?_
    · have ec : cutL (LL.map PV.int) none (some (c : Int)) = (LL.take c).map .int := by rw [ints_map_cut, cut_to]
      rw [← ec, ← hc]
      exact Ev.slice (by wtm_at "ev") Pt.none (Pt.some (Ev.bin (Ev.sub (by wtm_at "ev") (by wtm_at "ev") (Op2.itemNeg (by decide) (by simp; omega) hgl (by simp; omega)) HasItem.lst) (by wtm_at "ev") (Op2.mod (b := 3) (by decide)))) (SliceOk.lst (by rw [List.length_map]; omega)) HasItem.lst
    · refine Fo.sub (σ' := [("signs", .int (signs : Int)), ("one", .lst (one.map .int)), ("at", .int (at' : Int)), ("limits", .lst (LL.map .int)), ("gap", .int gap1)]) (by wtm_at "sub") ?_
      have hLc : ∀ l ∈ LL.take c, 1 ≤ l ∧ l ≤ 26 := fun l h => hLim l (List.mem_of_mem_take h)
      generalize hG : gapF gap1 (LL.take c) = G
      generalize LL.take c = LT at *
      refine (?_ : ∀ (LT : List Int) (g : Int), (∀ l ∈ LT, 1 ≤ l ∧ l ≤ 26) → gapF g LT = G → Fo (G8 w B aT aG aA aI aD aS aL aX) 3 (fnAt pg 11).2.2 [("signs", .int (signs : Int)), ("one", .lst (one.map .int)), ("at", .int (at' : Int)), ("limits", .lst (LL.map .int)), ("gap", .int g)] [] _ _ _ (LT.map .int) _) LT gap1 hLc hG
      intro LT
      induction LT with
      | nil => intro g _ hg; subst hg; exact Fo.nil (Xs.nil ⟨rfl, by wtm_at "sub", rfl⟩)
      | cons l LT ih =>
        intro g hl hg
        obtain ⟨l1, l2⟩ := hl l List.mem_cons_self
        rw [List.map_cons]
        refine Fo.cons As.name ?_
        refine Xs.cons (X1.aug rfl (by wtm_at "ev") (Op2.imul (by wtm_at "mul")) (Xs.nil ?_))
        exact Fo.sub (by wtm_at "sub") (ih (g * (36 - l)) (fun x hx => hl x (List.mem_cons_of_mem _ hx)) hg)
  obtain ⟨gp0, gp1⟩ := gapF_pos (LL.take c) gap1 (fun l h => hLim l (List.mem_of_mem_take h)) (by omega)
  have gp2 : gapF gap1 (LL.take c) < 10 ^ 6 := by
    have h35 : (35 : Int) ^ (LL.take c).length ≤ 35 ^ 2 := by
      have h2 : 35 ^ (LL.take c).length ≤ 35 ^ 2 := Nat.pow_le_pow_right (by decide) (by rw [List.length_take]; omega)
      exact_mod_cast h2
    have := Int.mul_le_mul_of_nonneg_left h35 (show 0 ≤ gap1 by omega)
    omega
  generalize gapF gap1 (LL.take c) = gap at *
  obtain ⟨N, hN⟩ : ∃ N, one[at']? = some N := ⟨one[at']'(by omega), List.getElem?_eq_getElem (by omega)⟩
  obtain ⟨N0, N1⟩ := ho N (List.mem_of_getElem? hN)
  obtain ⟨r2, hr2⟩ : ∃ r2, r2 = stepL one none (some (at' : Int)) (-1) := ⟨_, rfl⟩
  obtain ⟨r2l, r2m⟩ := stepL_back one at'
  rw [← hr2] at r2l r2m
  refine XsT.cons (X1.assign (v := .lst ((A ++ (N + gap) :: r2).map .int)) ?_ ?_)
  · have e : (A ++ (N + gap) :: r2).map PV.int = A.map .int ++ [PV.int (N + gap)] ++ r2.map .int := by simp
    rw [e]
    refine Ev.bin (Ev.bin (b := .lst [.int (N + gap)]) (a := .lst (A.map .int)) ?_ (Ev.list (Es.cons (Ev.bin (Ev.sub (by wtm_at "ev") (by wtm_at "ev") (Op2.item (Int.natCast_nonneg _) (r := .int N) (by rw [Int.toNat_natCast, List.getElem?_map, hN]; rfl) (by simp; omega)) HasItem.lst) (by wtm_at "ev") Op2.add) Es.nil) (by simp)) (Op2.addL (by simp; omega))) (b := .lst (r2.map .int)) ?_ (Op2.addL (by simp; omega))
    · rw [hA, ← hcut]
      exact Ev.slice (by wtm_at "ev") Pt.none (Pt.some (by wtm_at "ev")) (SliceOk.lst (by simp; omega)) HasItem.lst
    · rw [hr2, ← stepL_ints]
      exact Ev.slice3 (by wtm_at "ev") Pt.none (Pt.some (by wtm_at "ev")) (by wtm_at "ev") (SliceOk.step (by decide) (by simp; omega)) HasItem.lst
  refine XsT.cons (X1.assign (by wtm_at "ev") ?_)
  refine XsT.cons (X1.assign (by wtm_at "ev") ?_)
  refine XsT.cons (X1.assign (by wtm_at "ev") ?_)
  obtain ⟨K, hK⟩ : ∃ K : Nat, alikeL N gap LL 0 1 0 = K := ⟨_, rfl⟩
  refine XsT.cut [("signs", .int (signs : Int)), ("one", .lst (one.map .int)), ("at", .int (at' : Int)), ("other", .lst ((A ++ (N + gap) :: r2).map .int)), ("alike", .int (K : Int))] [] ?_ ?_
  · refine X1.for (by wtm_at "ev") IterOk.lst ?_
    refine Fo.sub (σ' := [("signs", .int (signs : Int)), ("one", .lst (one.map .int)), ("at", .int (at' : Int)), ("other", .lst ((A ++ (N + gap) :: r2).map .int)), ("gap", .int gap), ("alike", .int ((0 : Nat) : Int)), ("reach", .int 0), ("worth", .int 1)]) (by wtm_at "sub") ?_
    refine (?_ : ∀ (LT : List Int) (r wo : Int) (j : Nat), (∀ l ∈ LT, 1 ≤ l ∧ l ≤ 26) → 0 < wo → alikeL N gap LT r wo j = K → Fo (G8 w B aT aG aA aI aD aS aL aX) 3 (fnAt pg 11).2.2 [("signs", .int (signs : Int)), ("one", .lst (one.map .int)), ("at", .int (at' : Int)), ("other", .lst ((A ++ (N + gap) :: r2).map .int)), ("gap", .int gap), ("alike", .int (j : Int)), ("reach", .int r), ("worth", .int wo)] [] _ _ _ (LT.map .int) _) LL 0 1 0 hLim (by decide) hK
    intro LT
    induction LT with
    | nil => intro r wo j _ _ hk; simp only [alikeL] at hk; subst hk; exact Fo.nil (Xs.nil ⟨rfl, by wtm_at "sub", rfl⟩)
    | cons l LT ih =>
      intro r wo j hl hw hk
      obtain ⟨l1, l2⟩ := hl l List.mem_cons_self
      have hw' : 0 < wo * (36 - l) := Int.mul_pos hw (by omega)
      rw [List.map_cons]
      refine Fo.cons As.name ?_
      refine Xs.cons (X1.aug rfl (Ev.bin (by wtm_at "ev") (by wtm_at "ev") (Op2.mul (by wtm_at "mul"))) (by wtm_at "op") ?_)
      refine Xs.cons (X1.aug rfl (by wtm_at "ev") (Op2.imul (by wtm_at "mul")) ?_)
      rw [alikeL] at hk
      refine Xs.cons (X1.ite (Tr.or2 (Tr.cmp (Ev.sub (by wtm_at "ev") (by wtm_at "ev") (Op2.item (Int.natCast_nonneg _) (r := .int N) (by rw [Int.toNat_natCast, List.getElem?_map, hN]; rfl) (by simp; omega)) HasItem.lst) (by wtm_at "ev") Op2.lt) (fun _ => Tr.cmp (Ev.bin (by wtm_at "ev") (by wtm_at "ev") (Op2.mod hw')) (by wtm_at "ev") Op2.ne)) (fun hc => ?_) (fun hc => ?_))
      · rw [if_pos (by simpa using hc)] at hk
        subst hk
        exact Xs.cons (X1.brk ⟨rfl, by wtm_at "sub", rfl⟩)
      · rw [if_neg (by simpa using hc)] at hk
        refine Xs.nil ?_
        refine Xs.cons (X1.aug rfl (by wtm_at "ev") (by wtm_at "op") (Xs.nil ?_))
        rw [show (j : Int) + 1 = ((j + 1 : Nat) : Int) from by omega]
        exact Fo.sub (by wtm_at "sub") (ih _ _ (j + 1) (fun x hx => hl x (List.mem_cons_of_mem _ hx)) hw' hk)
  have hsplit : one = A ++ N :: one.drop (at' + 1) := by
    rw [hA]
    have hlt : at' < one.length := by omega
    have h2 : one.drop at' = N :: one.drop (at' + 1) := by
      rw [List.drop_eq_getElem_cons hlt]
      rw [List.getElem?_eq_getElem hlt] at hN
      rw [Option.some.inj hN]
    rw [← h2, List.take_append_drop]
  obtain ⟨k, t1, t2, q1, q2, q3, q4, q5, q6, x, y, u1, u2, q7, q8, q9⟩ := law08 (signs := (signs : Int)) (A := A) (r1 := one.drop (at' + 1)) (r2 := r2) (N := N) (gap := gap) (by omega) (fun d hd => (hA0 d hd).1) N0 N1 gp0
  rw [← hLL, hK] at q1
  subst q1
  rw [← hsplit] at q4
  refine law_tail H (A := A) (pre := (ggiD N (biasR signs 0 72 A) 0).take K) s8 s57 (fun d hd => by have := ho d hd; omega) (by omega) ?_ ?_ hA.symm hA0 q4 q5 q6 q7 q8 q9 q2
  · intro d hd
    rcases List.mem_append.mp hd with h | h
    · have := hA0 d h; omega
    · rcases List.mem_cons.mp h with h | h
      · omega
      · have := ho d (r2m d h); omega
  · rw [List.length_append, List.length_cons]; omega
end
end Mine

namespace Mine
set_option maxRecDepth 100000 in
theorem law_ok {w : World} {B : Heap} {aT aG aA aI aD aS aL aX aW : Addr} (H : Has8 w B aT aG aA aI aD aS aL aX) (hW : DefAt (G8 w B aT aG aA aI aD aS aL aX) aW "law" (fnAt pg 11)) {ns : List Int} (hn : ns.length ≤ 63) :
    CallT (G8 w B aT aG aA aI aD aS aL aX) 4 (.ref aW) [.lst (ns.map .int)] := by
  refine DefAt.callT hW (law_body H hn) ?_
  intro pm cd doc vals h
  obtain ⟨x, rfl⟩ := len1 h
  rfl

noncomputable def tokOf (o : Option (Option Value)) : Tok := match o with | some (some (.bytes _ t)) => t | _ => 0
theorem GlOk.topBytes {p : Program} {loose : List Str} {mean : ExcName → Option Value} {mg mb : Str → Option Value} {B : Heap} (T : Top p loose mean mg mb B) {K : Frag} (X : K.In B) {x : Str} {l : List UInt8}
    (e : nsIn K mainGlobals x = some (some (.bytes l.toArray (tokOf (nsIn K mainGlobals x))))) : ∃ v', GloV B x v' ∧ ∀ D h, V D h (.bytes l) v' := GlOk.bytes (GloV.top T X e)
theorem GlOk.bi1 {p : Program} {loose : List Str} {mean : ExcName → Option Value} {mg mb : Str → Option Value} {B : Heap} (T : Top p loose mean mg mb B) {K : Frag} (X : K.In B) {x : Str} {v : Value} (e : nsIn K mainGlobals x = some none) (hv : bootBuiltins x = some v) (hn : x ≠ "__name__") :
    ∃ v', GloV B x v' ∧ ∀ D h, V D h (.obj v) v' := GlOk.one (GloV.bi T X e hv hn)
set_option maxRecDepth 100000 in
set_option maxHeartbeats 8000000 in
theorem holds08 : PySem.Challenge.rw_dm0101_08.Holds := by
  w_on
  o_law
  k_head
  (case hw => w_witness2)
  k_fill
  intro w s₀ s₁ mg mb G Y fa o pm cd doc dV kV ho hd hcd hD hmg hg args vals as hpre hlay hrd hwl hlo
  have KX := kIn_of Y
  refine Ground.open G ?_
  intro T B D TE TW
  wrow_args hpre hlay hrd hwl hlo
  rename_i ns hs hlay0 hL1 hr1 hl2 w4 w3 l vs w0 hL ra w1 r0 hI hr hcond1 hcond
  obtain ⟨aT, eaT, daT⟩ := DefAt.of T 0 1 "T" PySem.Challenge.pw_dm0101_08 (by kernel_rfl)
  obtain ⟨aG, eaG, daG⟩ := DefAt.of T 1 3 "generate_generalized_integer" PySem.Challenge.pw_dm0101_08 (by kernel_rfl)
  obtain ⟨aA, eaA, daA⟩ := DefAt.of T 2 4 "adapt" PySem.Challenge.pw_dm0101_08 (by kernel_rfl)
  obtain ⟨aI, eaI, daI⟩ := DefAt.of T 3 5 "generate_integers" PySem.Challenge.pw_dm0101_08 (by kernel_rfl)
  obtain ⟨aD, eaD, daD⟩ := DefAt.of T 4 6 "decode_generalized_number" PySem.Challenge.pw_dm0101_08 (by kernel_rfl)
  obtain ⟨aS, eaS, daS⟩ := DefAt.of T 5 7 "insertion_sort" PySem.Challenge.pw_dm0101_08 (by kernel_rfl)
  obtain ⟨aL, eaL, daL⟩ := DefAt.of T 6 9 "_law_limits" PySem.Challenge.pw_dm0101_08 (by kernel_rfl)
  obtain ⟨aX, eaX, daX⟩ := DefAt.of T 7 10 "_law_text" PySem.Challenge.pw_dm0101_08 (by kernel_rfl)
  obtain ⟨aW, eW, dW⟩ := DefAt.of T 8 11 "law" PySem.Challenge.pw_dm0101_08 (by kernel_rfl)
  have efa : fa = aW := by have := hmg.symm.trans eW; cases this; rfl
  subst efa
  refine law_calledT (Γ := G8 w s₁.heap aT aG aA aI aD aS aL aX) (k := 4) (ns := ns) ⟨?_, T.nolimit⟩ rfl (by decide) hL hI (law_ok ⟨daT _ rfl, daG _ rfl, daA _ rfl, daI _ rfl, daD _ rfl, daS _ rfl, daL _ rfl, daX _ rfl⟩ (dW _ rfl) (by omega)) ?_
  · refine GlOk.to ⟨GlOk.one (GloV.fn T eaT), GlOk.topBytes T KX ?_, GlOk.one (GloV.fn T eaG), GlOk.one (GloV.fn T eaA), GlOk.one (GloV.fn T eaI), GlOk.one (GloV.fn T eaD), GlOk.one (GloV.fn T eaS), GlOk.one (GloV.fn T eaL), GlOk.one (GloV.fn T eaX), GlOk.bi1 T KX (by k_is) (by boot_by_name) (by decide), GlOk.bi1 T KX (by k_is) (by boot_by_name) (by decide), GlOk.bi1 T KX (by k_is) (by boot_by_name) (by decide), GlOk.bi1 T KX (by k_is) (by boot_by_name) (by decide), GlOk.bi1 T KX (by k_is) (by boot_by_name) (by decide), GlOk.bi1 T KX (by k_is) (by boot_by_name) (by decide), GlOk.bi1 T KX (by k_is) (by boot_by_name) (by decide), GlOk.bi1 T KX (by k_is) (by boot_by_name) (by decide), GlOk.bi1 T KX (by k_is) (by boot_by_name) (by decide), GlOk.bi1 T KX (by k_is) (by boot_by_name) (by decide), GlOk.bi1 T KX (by k_is) (by boot_by_name) (by decide), GlOk.bi1 T KX (by k_is) (by boot_by_name) (by decide), trivial⟩
    kernel_rfl
  · intro s' hk hgens hos
    refine GoodW.toG ⟨.inl ⟨_, _, [], rfl, fun cls => rfl, .bool true, postW_of rfl (w_eq_bool (w_res rfl) w_lit) rfl, unshared_nil⟩, hk, hos, hgens.trans hg⟩
end Mine
theorem PySem.Challenge.cw_dm0101_08_holds : PySem.Challenge.rw_dm0101_08.Holds :=
  Mine.holds08
