import PyProof.Rows.All
import Wide.All
import OpenK.AllK
import Wide.FinOn
import PySem.Challenge.RW_dm0101_02
open PySem PySem.W PyProof.Rows PySem.Calls
set_option Elab.async false
set_option linter.all false

namespace Mine
open Sem (wp)

/-! ## the logic, over contexts where no decoder holds a buffer
A bytearray's resize looks at the whole stack for a decoder that holds it; wpAny says nothing of the built-ins on the stack.
So: the same as wpAny and codeAny, but over the contexts whose codes are no such decoders. -/

def QuietC (c : Code) : Bool := match c with
  | .builtin id _ => !Builtin.Bytes.decodersThatHold.contains id
  | _ => true
def GoodB (Γ : Ctx) : Prop := ∀ x ∈ Γ.below, QuietC x.1 = true
def GoodC (Γ : Ctx) : Prop := QuietC Γ.code = true ∧ GoodB Γ

def wpR {α : Type} (M : Model) (A : Around) (t : Sem α) (Q : α → Shared → Prop) (E : Value → Shared → Prop) (s : Shared) : Prop :=
  ∀ Γ p, Γ.In A → GoodC Γ → wp M Γ t (fun a _ s' => Q a s') (fun e _ s' => E e s') p s
def codeR (M : Model) (A : Around) (c : Code) (R : Result → Shared → Prop) (s : Shared) : Prop :=
  ∀ Γ p, Γ.code = c → Γ.Below A → GoodB Γ → wpCode M Γ R p s

section
variable {α β : Type} {M : Model} {A : Around} {E : Value → Shared → Prop} {s : Shared}

theorem toR {t : Sem α} {Q : α → Shared → Prop} (h : wpAny M A t Q E s) : wpR M A t Q E s := fun Γ p hΓ _ => h Γ p hΓ
theorem codeToR {c : Code} {R : Result → Shared → Prop} (h : codeAny M A c R s) : codeR M A c R s := fun Γ p hc hΓ _ => h Γ p hc hΓ

theorem wpR_pure {a : α} {Q : α → Shared → Prop} (h : Q a s) : wpR M A (pure a) Q E s := fun _ _ _ _ => h
theorem wpR_mono {t : Sem α} {Q Q' : α → Shared → Prop} {E' : Value → Shared → Prop} (h : wpR M A t Q E s)
    (hQ : ∀ a s, Q a s → Q' a s) (hE : ∀ e s, E e s → E' e s) : wpR M A t Q' E' s :=
  fun Γ p hΓ hg => Sem.wp_mono M Γ t (fun a _ s => hQ a s) (fun e _ s => hE e s) p s (h Γ p hΓ hg)
theorem wpR_bind {m : Sem α} {f : α → Sem β} {Q : β → Shared → Prop} (h : wpR M A m (fun a s' => wpR M A (f a) Q E s') E s) : wpR M A (m >>= f) Q E s := fun Γ p hΓ hg => by
  rw [Sem.wp_bind']
  exact Sem.wp_mono M Γ m (fun a p' s' h' => h' Γ p' hΓ hg) (fun _ _ _ h' => h') p s (h Γ p hΓ hg)
theorem wpR_onRaise {m : Sem α} {k : Value → Sem Unit} {Q : α → Shared → Prop}
    (h : wpR M A m Q (fun e s' => wpR M A (k e) (fun _ s'' => E e s'') E s') s) : wpR M A (m.onRaise k) Q E s := fun Γ p hΓ hg => by
  rw [Sem.wp_onRaise]
  exact Sem.wp_mono M Γ m (fun _ _ _ h' => h') (fun e p' s' h' => h' Γ p' hΓ hg) p s (h Γ p hΓ hg)
theorem wpR_tryCatch {m : Sem α} {k : Value → Sem α} {Q : α → Shared → Prop} (h : wpR M A m Q (fun e s' => wpR M A (k e) Q E s') s) :
    wpR M A (tryCatch m k) Q E s := fun Γ p hΓ hg => by
  rw [Sem.wp_tryCatch']
  exact Sem.wp_mono M Γ m (fun _ _ _ h' => h') (fun e p' s' h' => h' Γ p' hΓ hg) p s (h Γ p hΓ hg)
theorem wpR_attempt {m : Sem α} {Q : Except Value α → Shared → Prop} (h : wpR M A m (fun a => Q (.ok a)) (fun e => Q (.error e)) s) :
    wpR M A m.attempt Q E s := fun Γ p hΓ hg => by rw [Sem.wp_attempt]; exact h Γ p hΓ hg
theorem wpR_holding {vs : List Value} {m : Sem α} {Q : α → Shared → Prop} (h : wpR M A m Q E s) : wpR M A (holding vs m) Q E s :=
  fun Γ p hΓ hg => by rw [Sem.wp_holding]; exact h Γ p hΓ hg
theorem wpR_operate {vs : List Value} {m : Sem Value} {Q : Value → Shared → Prop} (h : wpR M A m Q E s) : wpR M A (operate vs m) Q E s :=
  fun Γ p hΓ hg => by rw [Sem.wp_operate]; exact h Γ p hΓ hg
theorem wpR_of_eq {t : Sem α} {a : α} {Q : α → Shared → Prop} (e : t = pure a) (h : Q a s) : wpR M A t Q E s := by rw [e]; exact wpR_pure h
theorem wpR_standAt {pos : Pos} {Q : Unit → Shared → Prop} (h : Q () s) : wpR M A (standAt pos) Q E s := fun _ _ _ _ => h
theorem wpR_rule {tag : String} {Q : Unit → Shared → Prop} (h : Q () s) : wpR M A (rule tag) Q E s := fun _ _ _ _ => h
theorem wpR_point {Q : Unit → Shared → Prop} (h : Q () s) : wpR M A point Q E s := fun _ _ _ _ => h
theorem wpR_release {vs keep : List Value} {Q : Unit → Shared → Prop} (h : Q () s) : wpR M A (release vs keep) Q E s := toR (wpAny_release' h)
theorem wpR_keep {vs : List Value} {m : Sem α} {Q : α → Shared → Prop} (h : wpR M A m Q E s) : wpR M A (m.keep vs) Q E s :=
  fun Γ p hΓ hg => by rw [Sem.wp_keep]; exact h Γ p hΓ hg
theorem wpR_units {t : Sem α} {Q : α → Shared → Prop} (h : wpR M A.in1 t Q E s) : wpR M A t Q E s :=
  fun Γ p hΓ => h Γ p ⟨hΓ.1, hΓ.2.1, hΓ.2.2.1, hΓ.2.2.2.1, Nat.le_succ_of_le hΓ.2.2.2.2⟩

theorem GoodC.enter {Γ : Ctx} (hg : GoodC Γ) (c : Code) (h : Option Value) (p : Pos) : GoodB (Γ.enter c h p) := by
  intro x hx
  rcases List.mem_cons.mp hx with rfl | hx
  · exact hg.1
  · exact hg.2 x hx

theorem wpR_run {c : Code} {h : Option Value} {Q : Flow → Shared → Prop}
    (hc : codeR M (A.mark h) c (fun r s' => match r with | .ok f => Q f s' | .error e => E e s') s) (hnb : h ≠ some byPass := by intro x; cases x) : wpR M A (run c h) Q E s :=
  fun Γ p hΓ hg => by rw [Sem.wp_run]; exact hc _ p rfl (hΓ.enter c h p hnb) (hg.enter c h p)
theorem wpR_runValue {c : Code} {Q : Value → Shared → Prop}
    (hc : codeR M A c (fun r s' => match r with | .ok (.ret v) => Q v s' | .ok _ => False | .error e => E e s') s) : wpR M A (runValue c) Q E s :=
  fun Γ p hΓ hg => by rw [Sem.wp_runValue]; exact hc _ p rfl (hΓ.enter c none p (by intro x; cases x)) (hg.enter c none p)
theorem wpR_call {f : Value} {pos : List Value} {kw : List (Str × Value)} {Q : Value → Shared → Prop}
    (hc : codeR M A (.call f ⟨pos, kw⟩) (fun r s' => match r with | .ok (.ret v) => Q v s' | .ok _ => False | .error e => E e s') s) : wpR M A (call f pos kw) Q E s := wpR_runValue hc

theorem codeR_of_tree {c : Code} {R : Result → Shared → Prop} (hq : QuietC c = true)
    (h : wpR M (A.under c) (M.den c) (fun fin s' => match fin with | .done f => R (.ok f) s' | .again c' => c'.quiet = true ∧ codeR M A c' R s') (fun e s' => R (.error e) s') s) : codeR M A c R s := fun Γ p hc hΓ hg => by
  rw [wpCode_iff_wp, hc]
  refine Sem.wp_mono M Γ _ (fun fin p' s' h' => ?_) (fun _ _ _ h' => h') p s (h Γ p (hc ▸ hΓ.in) ⟨hc ▸ hq, hg⟩)
  cases fin with
  | done f => exact h'
  | again c' => exact ⟨h'.1, h'.2 (Γ.goto c') p' rfl (hΓ.goto c') hg⟩
theorem codeR_mono {c : Code} {R R' : Result → Shared → Prop} (h : codeR M A c R s) (hR : ∀ r s, R r s → R' r s) : codeR M A c R' s :=
  fun Γ p hc hΓ hg => wpCode_mono hR (h Γ p hc hΓ hg)

/-- what a resize asks -/
theorem wpR_exported {v : Value} {g : List Code} {Q : Bool → Shared → Prop} (hg : A.guards = some g) (hno : g = []) (h : Q false s) : wpR M A (Builtin.Bytes.exported v) Q E s := by
  intro Γ p hΓ hgood
  show Q (((Γ.code, p) :: Γ.below).any _) s
  have hgs : guardsOf ((Γ.code, p) :: Γ.below) = [] := by rw [guardsOf_cons]; exact (hΓ.2.2.2.1 g hg).trans hno
  have key : ∀ l : List (Code × Pos), guardsOf l = [] → (∀ x ∈ l, QuietC x.1 = true) → (l.any fun
    | (.builtin "bytearray.__contains__" ⟨v' :: _, _⟩, _) | (.builtin "bytearray.__mod__" ⟨v' :: _, _⟩, _)
    | (.builtin "bytearray.__rmod__" ⟨_ :: v' :: _, _⟩, _) | (.builtin "_struct.pack_into.held" ⟨v' :: _, _⟩, _) => Builtin.Bytes.sameRef v' v
    | (.builtin "bytearray.find.held" ⟨_ :: _ :: held, _⟩, _) => held.any (Builtin.Bytes.sameRef v)
    | (.builtin id ⟨v' :: _, _⟩, _) => Builtin.Bytes.sameRef v' v && Builtin.Bytes.decodersThatHold.contains id
    | _ => false) = false := by
    intro l
    induction l with
    | nil => intro _ _; rfl
    | cons x l ih =>
      intro hl hq
      obtain ⟨c, q⟩ := x
      rw [guardsOf_cons, List.append_eq_nil_iff] at hl
      have hng : c.isGuard = false := by
        cases hcg : c.isGuard with
        | false => rfl
        | true => have := hl.1; simp [Code.guards, hcg] at this
      have hqc := hq (c, q) (.head _)
      rw [List.any_cons, ih hl.2 fun x hx => hq x (.tail _ hx), Bool.or_false]
      split
      · rename_i heq; cases heq; exact absurd hng (by simp [Code.isGuard, guardIds])
      · rename_i heq; cases heq; exact absurd hng (by simp [Code.isGuard, guardIds])
      · rename_i heq; cases heq; exact absurd hng (by simp [Code.isGuard, guardIds])
      · rename_i heq; cases heq; exact absurd hng (by simp [Code.isGuard, guardIds])
      · rename_i heq; cases heq; exact absurd hng (by simp [Code.isGuard, guardIds])
      · rename_i id v' _ _ _ _ _ _ _ _ heq
        cases heq
        simp only [QuietC, Bool.not_eq_true'] at hqc
        rw [hqc, Bool.and_false]
      · rfl
  have := key ((Γ.code, p) :: Γ.below) hgs (fun x hx => by
    rcases List.mem_cons.mp hx with rfl | hx
    · exact hgood.1
    · exact hgood.2 x hx)
  exact Eq.mpr (congrArg (fun b => Q b s) this) h
end

/-! ### the compound rules -/
section
variable {M : Model} {A : Around} {E : Value → Shared → Prop} {s : Shared} {env : Env}

theorem wpR_BinOp {l op r pos} {Q : Value → Shared → Prop}
    (h : wpR M A (eval l env) (fun a s₁ => wpR M A (eval r env) (fun b s₂ => wpR M A (binaryOp op a b) Q E s₂) E s₁) E s) : wpR M A (eval (.BinOp l op r pos) env) Q E s := by
  rw [eval_BinOp]
  exact wpR_bind (wpR_mono h (fun a s₁ h₁ => wpR_bind (wpR_holding (wpR_mono h₁ (fun b s₂ h₂ => wpR_bind (wpR_standAt (wpR_operate h₂))) fun _ _ e => e))) fun _ _ e => e)
theorem wpR_Compare1 {l op r pos} {Q : Value → Shared → Prop}
    (h : wpR M A (eval l env) (fun a s₁ => wpR M A (eval r env) (fun b s₂ => wpR M A (compareOp op a b) Q E s₂) E s₁) E s) (hm : behindInMarks op r = false) : wpR M A (eval (.Compare l [op] [r] pos) env) Q E s := by
  rw [eval_Compare1, markedBehindIn_of_false hm]
  exact wpR_bind (wpR_mono h (fun a s₁ h₁ => wpR_bind (wpR_holding (wpR_mono h₁ (fun b s₂ h₂ => wpR_bind (wpR_standAt (wpR_operate h₂))) fun _ _ e => e))) fun _ _ e => e)
theorem wpR_isTrue_Compare1 {l op r pos whole} {Q : Bool → Shared → Prop}
    (h : wpR M A (eval l env) (fun a s₁ => wpR M A (eval r env) (fun b s₂ => wpR M A (compareOp op a b) (fun c s₃ => wpR M A (truthy c) Q E s₃) E s₂) E s₁) E s)
    (hm : behindInMarks op r = false) : wpR M A (isTrue (.Compare l [op] [r] pos) env whole) Q E s := by
  rw [isTrue_Compare1, markedBehindIn_of_false hm]
  exact wpR_bind (wpR_mono h (fun a s₁ h₁ => wpR_bind (wpR_holding (wpR_mono h₁ (fun b s₂ h₂ => wpR_bind (wpR_standAt (wpR_bind (wpR_operate (wpR_mono h₂ (fun c s₃ h₃ => wpR_holding h₃) fun _ _ e => e))))) fun _ _ e => e))) fun _ _ e => e)
theorem wpR_isTrue_value {e : Expr} {whole : Sem Value} {Q : Bool → Shared → Prop} (h : wpR M A whole (fun v s₁ => wpR M A (truthy v) Q E s₁) E s)
    (he : isTrue e env whole = (do let v ← whole; standAt e.pos; holding [v] (truthy v))) : wpR M A (isTrue e env whole) Q E s := by
  rw [he]
  exact wpR_bind (wpR_mono h (fun v s₁ h₁ => wpR_bind (wpR_standAt (wpR_holding h₁))) fun _ _ x => x)
theorem wpR_isTrue_Not {x : Expr} {pos : Pos} {whole : Sem Value} {Q : Bool → Shared → Prop} (h : wpR M A (isTrue x env (eval x env)) (fun b s₁ => Q (!b) s₁) E s) : wpR M A (isTrue (.UnaryOp .Not x pos) env whole) Q E s := by
  rw [arm_isTrue_UnaryOp]
  exact wpR_bind (wpR_mono h (fun b s₁ h₁ => wpR_pure h₁) fun _ _ x => x)
theorem wpR_isTrue_BoolOp {op : BoolOp} {values : List Expr} {pos : Pos} {whole : Sem Value} {Q : Bool → Shared → Prop} (h : wpR M A (allTrue op values env) Q E s) : wpR M A (isTrue (.BoolOp op values pos) env whole) Q E s := by
  rw [arm_isTrue_BoolOp]; exact h
theorem wpR_allTrue_And_cons {x : Expr} {rest : List Expr} {Q : Bool → Shared → Prop}
    (h : wpR M A (isTrue x env (eval x env)) (fun b s₁ => if b then wpR M A (allTrue .And rest env) Q E s₁ else Q false s₁) E s) : wpR M A (allTrue .And (x :: rest) env) Q E s := by
  show wpR M A (do match BoolOp.And, ← isTrue x env (eval x env) with | .And, false => pure false | .Or, true => pure true | _, _ => allTrue .And rest env) Q E s
  refine wpR_bind (wpR_mono h (fun b s₁ h₁ => ?_) fun _ _ x => x)
  cases b
  · exact wpR_pure h₁
  · exact h₁
theorem wpR_allTrue_Or_cons {x : Expr} {rest : List Expr} {Q : Bool → Shared → Prop}
    (h : wpR M A (isTrue x env (eval x env)) (fun b s₁ => if b then Q true s₁ else wpR M A (allTrue .Or rest env) Q E s₁) E s) : wpR M A (allTrue .Or (x :: rest) env) Q E s := by
  show wpR M A (do match BoolOp.Or, ← isTrue x env (eval x env) with | .And, false => pure false | .Or, true => pure true | _, _ => allTrue .Or rest env) Q E s
  refine wpR_bind (wpR_mono h (fun b s₁ h₁ => ?_) fun _ _ x => x)
  cases b
  · exact h₁
  · exact wpR_pure h₁
theorem wpR_allTrue_And_nil {Q : Bool → Shared → Prop} (h : Q true s) : wpR M A (allTrue .And [] env) Q E s := wpR_pure h
theorem wpR_allTrue_Or_nil {Q : Bool → Shared → Prop} (h : Q false s) : wpR M A (allTrue .Or [] env) Q E s := wpR_pure h
theorem wpR_IfExp {test body orelse : Expr} {pos : Pos} {Q : Value → Shared → Prop}
    (h : wpR M A (isTrue test env (eval test env)) (fun b s₁ => if b then wpR M A (eval body env) Q E s₁ else wpR M A (eval orelse env) Q E s₁) E s) : wpR M A (eval (.IfExp test body orelse pos) env) Q E s := by
  rw [arm_eval_IfExp]
  refine wpR_bind (wpR_mono h (fun b s₁ h₁ => ?_) fun _ _ x => x)
  cases b <;> exact h₁
theorem wpR_UnaryOp {op : UnaryOp} {x : Expr} {pos : Pos} {Q : Value → Shared → Prop} (h : wpR M A (eval x env) (fun v s₁ => wpR M A (unaryOp op v) Q E s₁) E s) : wpR M A (eval (.UnaryOp op x pos) env) Q E s := by
  rw [arm_eval_UnaryOp]
  exact wpR_bind (wpR_mono h (fun v s₁ h₁ => wpR_bind (wpR_standAt (wpR_holding h₁))) fun _ _ x => x)
theorem wpR_items_cons {pos : Pos} {e : Expr} {rest : List Expr} {Q : List Value → Shared → Prop}
    (h : wpR M A (eval e env) (fun v s₁ => wpR M A (spliced (backTo pos (starEach rest env))) (fun vs s₂ => Q (v :: vs) s₂) E s₁) E s)
    (he : starEach (e :: rest) env = (false, eval e env) :: starEach rest env) : wpR M A (spliced (backTo pos (starEach (e :: rest) env))) Q E s := by
  rw [he]
  show wpR M A (do
    let v ← eval e env
    let here ← (pure [v] : Sem (List Value))
    return here ++ (← holding here (spliced (backTo pos (starEach rest env))))) Q E s
  exact wpR_bind (wpR_mono h (fun v s₁ h₁ => wpR_bind (wpR_pure (wpR_bind (wpR_holding (wpR_mono h₁ (fun vs s₂ h₂ => wpR_pure h₂) fun _ _ x => x))))) fun _ _ x => x)
theorem wpR_Tuple {elts : List Expr} {k : Nat} {pos : Pos} {Q : Value → Shared → Prop}
    (h : wpR M A (spliced (backTo pos (starEach elts env))) (fun vs s₁ => vs.length ≤ sizeLine ∧ Q (.ref s₁.heap.objs.size) { s₁ with heap := s₁.heap.push { cls := .type "tuple", data := .seq vs.toArray } }) E s) : wpR M A (eval (.Tuple elts k pos) env) Q E s := by
  rw [arm_eval_Tuple]
  exact wpR_bind (wpR_standAt (wpR_bind (wpR_mono h (fun vs s₁ h₁ => toR (wpAny_newObj_type h₁.2 (by show vs.toArray.size ≤ sizeLine; rw [List.size_toArray]; exact h₁.1))) fun _ _ x => x)))
theorem wpR_List {elts : List Expr} {pos : Pos} {Q : Value → Shared → Prop}
    (h : wpR M A (spliced (backTo pos (starEach elts env))) (fun vs s₁ => vs.length ≤ sizeLine ∧ Q (.ref s₁.heap.objs.size) { s₁ with heap := s₁.heap.push { cls := .type "list", data := .seq vs.toArray } }) E s) : wpR M A (eval (.List elts pos) env) Q E s := by
  rw [arm_eval_List]
  exact wpR_bind (wpR_standAt (wpR_bind (wpR_mono h (fun vs s₁ h₁ => toR (wpAny_newObj_type h₁.2 (by show vs.toArray.size ≤ sizeLine; rw [List.size_toArray]; exact h₁.1))) fun _ _ x => x)))
theorem wpR_CallName {id : Str} {p pos : Pos} {args : List Expr} {Q : Value → Shared → Prop}
    (h : wpR M A (eval (.Name id p) env) (fun f s₁ => wpR M A (callWith pos f [] (backTo pos (starEach args env)) []) Q E s₁) E s) : wpR M A (eval (.Call (.Name id p) args [] pos) env) Q E s := by
  show wpR M A (do callWith pos (← eval (.Name id p) env) [] (backTo pos (starEach args env)) (backToKw pos (keywordEach [] env))) Q E s
  exact wpR_bind h
theorem wpR_callWith {P : Heap → Prop} {pos : Pos} {f : Value} {first : List Value} {args : List (Bool × Sem Value)} {Q : Value → Shared → Prop} (hplain : args.any (·.1) = false)
    (hk : ∀ h, P h → ∃ k, (k = Keeper.frame ∨ k = Keeper.machine ∨ k = Keeper.boundFrame) ∧ Looks M h (keeperOf f) k)
    (h : wpR M A (evalArgs f true args []) (fun a s₁ => P s₁.heap ∧ wpR M A (call f (first ++ a.pos) a.kw) Q E s₁) E s) : wpR M A (callWith pos f first args []) Q E s := by
  unfold callWith
  refine wpR_bind (wpR_holding (wpR_mono h (fun a s₁ h₁ => wpR_bind (wpR_standAt ?_)) fun _ _ x => x))
  obtain ⟨k, hk', L⟩ := hk _ h₁.1
  simp only [hplain, List.any_nil, Bool.or_false]
  refine wpR_bind (toR (L.here ?_))
  have tail : ∀ {t : Sem Value}, wpR M A t Q E s₁ → wpR M A (t >>= fun r => holding [r] point >>= fun _ => pure r) Q E s₁ :=
    fun ht => wpR_bind (wpR_mono ht (fun r s₂ hr => wpR_bind (wpR_holding (wpR_point (wpR_pure hr)))) fun _ _ x => x)
  have marked (mk : Value) : wpR M A (callMarked mk f (first ++ a.pos) a.kw) Q E s₁ := by unfold callMarked; exact wpR_keep h₁.2
  rcases hk' with rfl | rfl | rfl <;> dsimp only <;> first | exact tail h₁.2 | (split <;> first | exact tail h₁.2 | exact tail (marked _))
theorem wpR_evalArgs {f : Value} {es : List Expr} {pos : Pos} {Q : Args → Shared → Prop} (hp : es.any isStarred = false)
    (h : wpR M A (spliced (backTo pos (starEach es env))) (fun vs s' => Q ⟨vs, []⟩ s') E s) : wpR M A (evalArgs f true (backTo pos (starEach es env)) []) Q E s := by
  cases es with
  | nil =>
    unfold evalArgs
    show wpR M A (spliced [] >>= _) Q E s
    refine wpR_bind (wpR_mono h (fun vs s' h' => ?_) fun _ _ x => x)
    refine wpR_bind (wpR_pure ?_)
    refine wpR_holding ?_
    exact wpR_bind (wpR_pure (wpR_bind (wpR_pure (wpR_pure h'))))
  | cons e es =>
    rw [List.any_cons, Bool.or_eq_false_iff] at hp
    have he := hp.1
    have key : ∀ (x : Sem Value) (rest : List (Bool × Sem Value)), wpR M A (spliced ((false, x) :: rest)) (fun vs s' => Q ⟨vs, []⟩ s') E s → wpR M A (evalArgs f true ((false, x) :: rest) []) Q E s := by
      intro x rest h
      unfold evalArgs
      show wpR M A (spliced ((false, x) :: rest) >>= _) Q E s
      refine wpR_bind (wpR_mono h (fun vs s' h' => ?_) fun _ _ x => x)
      refine wpR_holding ?_
      exact wpR_bind (wpR_pure (wpR_bind (wpR_pure (wpR_pure h'))))
    cases e with
    | Starred v p => cases he
    | _ => exact key _ _ h
theorem wpR_Subscript {value slice pos} {Q : Value → Shared → Prop}
    (h : wpR M A (eval value env) (fun o s₁ => wpR M A (eval slice env) (fun i s₂ => wpR M A (subscriptTail value slice o i) Q E s₂) E s₁) E s) : wpR M A (eval (.Subscript value slice pos) env) Q E s := by
  rw [eval_Subscript]
  exact wpR_bind (wpR_mono h (fun o s₁ h₁ => wpR_bind (wpR_holding (wpR_mono h₁ (fun i s₂ h₂ => wpR_bind (wpR_standAt h₂)) fun _ _ x => x))) fun _ _ x => x)
theorem wpR_Slice {lower upper step : Option Expr} {p : Pos} {Q : Value → Shared → Prop}
    (h : wpR M A (evalPart lower env) (fun l s₁ => wpR M A (evalPart upper env) (fun u s₂ => wpR M A (evalPart step env) (fun st s₃ =>
      Q (.ref s₃.heap.objs.size) { s₃ with heap := s₃.heap.push { cls := .type "slice", data := .fields #[l, u, st] } }) E s₂) E s₁) E s) : wpR M A (eval (.Slice lower upper step p) env) Q E s := by
  rw [arm_eval_Slice]
  refine wpR_bind (wpR_mono h (fun l s₁ h₁ => wpR_bind (wpR_holding (wpR_mono h₁ (fun u s₂ h₂ => wpR_bind (wpR_holding (wpR_mono h₂ (fun st s₃ h₃ => ?_) fun _ _ x => x))) fun _ _ x => x))) fun _ _ x => x)
  exact toR (wpAny_newObj_type h₃)

theorem wpR_execs_nil {Q : Flow → Shared → Prop} (h : Q .next s) : wpR M A (execs [] env) Q E s := fun _ _ _ _ => h
theorem wpR_execs_cons {st rest} {Q : Flow → Shared → Prop}
    (h : wpR M A (exec st env) (fun f s' => match f with | .next => wpR M A (execs rest env) Q E s' | f => Q f s') E s) : wpR M A (execs (st :: rest) env) Q E s := by
  rw [execs_cons]
  refine wpR_bind (wpR_mono h (fun f s' h' => ?_) fun _ _ e => e)
  cases f <;> first | exact h' | exact wpR_pure h'
theorem wpR_bindName {x : Str} {v : Value} {Q : Unit → Shared → Prop} (h : wpR M A (storeName env x v) Q E s) : wpR M A (bindName env x v) Q E s :=
  fun Γ p hΓ hg => by rw [Sem.wp_bindName]; exact h Γ p hΓ hg
theorem wpR_Assign_Name {x pos' value pos} {Q : Flow → Shared → Prop}
    (h : wpR M A (eval value env) (fun v s₁ => wpR M A (storeName env x v) (fun _ => Q .next) E s₁) E s)
    (hs : swapsWith value (some (.Name x pos')) pos.line env = pure false) : wpR M A (exec (.Assign [.Name x pos'] value pos) env) Q E s := by
  rw [exec_Assign_Name env x pos' value pos hs]
  exact wpR_bind (wpR_standAt (wpR_bind (wpR_mono h (fun v s₁ h₁ => wpR_bind (wpR_standAt (wpR_bind (wpR_bindName (wpR_mono h₁ (fun _ s₂ h₂ => wpR_pure h₂) fun _ _ e => e))))) fun _ _ e => e)))
theorem wpR_AugAssign_Name {x pos' op value pos} {Q : Flow → Shared → Prop}
    (h : wpR M A (loadName env x) (fun old s₁ => wpR M A (eval value env) (fun v s₂ => wpR M A (inplaceOp op old v)
      (fun r s₃ => wpR M A (storeName env x r) (fun _ => Q .next) E s₃) E s₂) E s₁) E s) : wpR M A (exec (.AugAssign (.Name x pos') op value pos) env) Q E s := by
  rw [exec_AugAssign_Name]
  exact wpR_bind (wpR_standAt (wpR_bind (wpR_mono h (fun old s₁ h₁ => wpR_bind (wpR_holding (wpR_mono h₁ (fun v s₂ h₂ => wpR_bind (wpR_standAt (wpR_bind (wpR_operate (wpR_mono h₂ (fun r s₃ h₃ =>
    wpR_bind (wpR_standAt (wpR_bind (wpR_bindName (wpR_mono h₃ (fun _ s₄ h₄ => wpR_pure h₄) fun _ _ e => e))))) fun _ _ e => e))))) fun _ _ e => e))) fun _ _ e => e)))
theorem wpR_If {test body orelse pos} {Q : Flow → Shared → Prop}
    (h : wpR M A (isTrue test env (eval test env)) (fun b s₂ => if b then wpR M A (execs body env) Q E s₂ else wpR M A (execs orelse env) Q E s₂) E s) : wpR M A (exec (.If test body orelse pos) env) Q E s := by
  rw [exec_If]
  refine wpR_bind (wpR_standAt (wpR_bind (wpR_mono h (fun b s₂ h₂ => ?_) fun _ _ e => e)))
  cases b <;> exact h₂
theorem wpR_Return_some {e pos} {Q : Flow → Shared → Prop} (h : wpR M A (eval e env) (fun v => Q (.ret v)) E s) : wpR M A (exec (.Return (some e) pos) env) Q E s := by
  rw [exec_Return_some]
  exact wpR_bind (wpR_standAt (wpR_bind (wpR_mono h (fun v s₁ h₁ => wpR_pure h₁) fun _ _ e => e)))

/-- what comes back out of a block of the frame's own, raised (nothing here raises through it: E is free) -/
def backBy (M : Model) (A : Around) (env : Env) (E : Value → Shared → Prop) : Value → Shared → Prop :=
  fun x s' => wpR M A (do
    if (← field x 1) == .none then unsupported "frame.own-activation:exception-without-traceback"
    setFlight x env.frame) (fun _ s'' => E x s'') E s'
theorem wpR_runOwn {c : Code} {h : Option Value} {Q : Flow → Shared → Prop}
    (hc : codeR M (A.mark h) c (fun r s' => match r with | .ok f => Q f s' | .error e => backBy M A env E e s') s) (hnb : h ≠ some byPass := by intro x; cases x) : wpR M A (runOwn c env h) Q E s := by
  unfold runOwn
  exact wpR_onRaise (wpR_run hc hnb)
theorem wpR_While {test body orelse pos} {Q : Flow → Shared → Prop}
    (h : codeR M A (.whileLoop test body orelse env) (fun r s' => match r with | .ok f => Q f s' | .error e => backBy M A env E e s') s) : wpR M A (exec (.While test body orelse pos) env) Q E s := by
  rw [exec_While]; exact wpR_bind (wpR_standAt (wpR_runOwn h))
theorem wpR_For {target iter body orelse pos} {Q : Flow → Shared → Prop}
    (h : wpR M A (eval iter env) (fun x s₁ => wpR M A (pyIter x) (fun it s₂ =>
      codeR M A (.forLoop target it body orelse env) (fun r s' => match r with | .ok f => Q f s' | .error e => backBy M A env E e s') s₂) E s₁) E s)
    (hs : ∀ x, foldedSetIterable iter env x = pure x) : wpR M A (exec (.For target iter body orelse pos) env) Q E s := by
  rw [exec_For]
  exact wpR_bind (wpR_standAt (wpR_bind (wpR_mono h (fun x s₁ h₁ => wpR_bind (wpR_of_eq (hs x) (wpR_bind (wpR_standAt (wpR_bind (wpR_holding
    (wpR_mono h₁ (fun it s₂ h₂ => wpR_runOwn h₂) fun _ _ h' => h'))))))) fun _ _ h' => h')))

/-- an exception in a loop's turn is noted -/
def noted (M : Model) (A : Around) (env : Env) (E : Value → Shared → Prop) : Value → Shared → Prop :=
  fun x s' => wpR M A (noteFrame x env) (fun _ s'' => E x s'') E s'
theorem wpR_noted {α : Type} {m : Sem α} {Q : α → Shared → Prop} (h : wpR M A m Q (noted M A env E) s) : wpR M A (m.onRaise fun x => do noteFrame x env; theTreesLotGoes x) Q E s :=
  wpR_onRaise (wpR_mono h (fun _ _ q => q) fun _ _ hx => wpR_bind (wpR_mono hx (fun _ _ e => toR (wpAny_theTreesLotGoes e)) fun _ _ e => e))
end

section
variable {prog : Program} {w : World} {A : Around} {E : Value → Shared → Prop} {s : Shared} {env : Env} {R : Result → Shared → Prop}
theorem codeR_block {stmts : List Stmt}
    (h : wpR (model prog w) A (execs stmts env) (fun f s' => R (.ok f) s') (noted (model prog w) A env fun e s' => R (.error e) s') s) : codeR (model prog w) A (.block stmts env) R s := by
  refine codeR_of_tree rfl ?_
  show wpR _ _ (do return Fin.done (← (execs stmts env).onRaise (fun x => do noteFrame x env; theTreesLotGoes x))) _ _ s
  exact wpR_bind (wpR_noted (wpR_mono h (fun f s' h' => wpR_pure h') fun _ _ h' => h'))
theorem codeR_while1 {test : Expr} {body orelse : List Stmt}
    (h : wpR (model prog w) A (isTrue test env (eval test env)) (fun b s₂ =>
        if b then wpR (model prog w) A (execs body env) (fun f s₃ => match f with
            | .next | .cont => codeR (model prog w) A (.whileLoop test body orelse env) R s₃
            | .brk => R (.ok .next) s₃
            | .ret v => R (.ok (.ret v)) s₃) (noted (model prog w) A env fun e s' => R (.error e) s') s₂
        else wpR (model prog w) A (execs orelse env) (fun f s₃ => R (.ok f) s₃) (noted (model prog w) A env fun e s' => R (.error e) s') s₂)
      (noted (model prog w) A env fun e s' => R (.error e) s') s) :
    codeR (model prog w) A (.whileLoop test body orelse env) R s := by
  refine codeR_of_tree rfl ?_
  show wpR _ A ((whileTurn test body orelse env).onRaise (fun x => do noteFrame x env; theTreesLotGoes x)) _ _ s
  refine wpR_noted ?_
  simp only [whileTurn]
  refine wpR_bind (wpR_mono h (fun b s₂ h₂ => ?_) fun _ _ h' => h')
  cases b with
  | false =>
    simp only [Bool.false_eq_true, if_false] at h₂ ⊢
    exact wpR_bind (wpR_mono h₂ (fun f s₃ h₃ => wpR_pure h₃) fun _ _ h' => h')
  | true =>
    simp only [if_true] at h₂ ⊢
    refine wpR_bind (wpR_mono h₂ (fun f s₃ h₃ => ?_) fun _ _ h' => h')
    cases f with
    | next => exact wpR_pure ⟨rfl, h₃⟩
    | cont => exact wpR_pure ⟨rfl, h₃⟩
    | brk => exact wpR_pure h₃
    | ret v => exact wpR_pure h₃
theorem codeR_for1 {target : Expr} {it : Addr} {body orelse : List Stmt}
    (h : wpR (model prog w) A (pyNext (.ref it)) (fun r s₁ => match r with
      | none => wpR (model prog w) A (execs orelse env) (fun f s₃ => R (.ok f) s₃) (noted (model prog w) A env fun e s' => R (.error e) s') s₁
      | some v => wpR (model prog w) A (letOwnedTupleGo target (.ref it) v) (fun _ s₁' => wpR (model prog w) A (assign target env v) (fun _ s₂ => wpR (model prog w) A (execs body env) (fun f s₃ => match f with
          | .next | .cont => codeR (model prog w) A (.forLoop target (.ref it) body orelse env) R s₃
          | .brk => R (.ok .next) s₃
          | .ret v => R (.ok (.ret v)) s₃) (noted (model prog w) A env fun e s' => R (.error e) s') s₂) (noted (model prog w) A env fun e s' => R (.error e) s') s₁') (noted (model prog w) A env fun e s' => R (.error e) s') s₁)
      (noted (model prog w) A env fun e s' => R (.error e) s') s) :
    codeR (model prog w) A (.forLoop target (.ref it) body orelse env) R s := by
  refine codeR_of_tree rfl ?_
  show wpR _ _ ((forTurn target (.ref it) body orelse env).onRaise (fun x => do noteFrame x env; theTreesLotGoes x)) _ _ s
  refine wpR_noted ?_
  simp only [forTurn]
  refine wpR_bind (wpR_standAt (wpR_bind (wpR_onRaise (wpR_mono h (fun r s₁ h₁ => ?_) fun _ _ h' => wpR_standAt h'))))
  cases r with
  | none => exact wpR_pure ⟨rfl, codeR_block h₁⟩
  | some v =>
    refine wpR_bind (wpR_mono h₁ (fun _ s₁' h₁' => ?_) fun _ _ h' => h')
    refine wpR_bind (wpR_mono h₁' (fun _ s₂ h₂ => wpR_bind (wpR_mono h₂ (fun f s₃ h₃ => ?_) fun _ _ h' => h')) fun _ _ h' => h')
    cases f with
    | next => exact wpR_pure ⟨rfl, h₃⟩
    | cont => exact wpR_pure ⟨rfl, h₃⟩
    | brk => exact wpR_pure h₃
    | ret v => exact wpR_pure h₃

/-- the frame of a def -/
theorem codeR_func {body : List Stmt}
    (h : wpR (model prog w) (A.deeper env) (execs body env) (fun f s' => R (.ok (.ret (match f with | .ret v => v | _ => .none))) s')
      (fun e s' => wpR (model prog w) (A.deeper env) (leaving env e) (fun _ s'' => R (.error e) s'') (fun e' s'' => R (.error e') s'') s') s) :
    codeR (model prog w) A (.func body env) R s := by
  refine codeR_of_tree rfl ?_
  show wpR _ (A.deeper env) (do point; match ← (execs body env).onRaise (leaving env) with | .ret v => ret v | _ => ret .none) _ _ s
  refine wpR_bind (wpR_point (wpR_bind (wpR_onRaise (wpR_mono h (fun f s' h' => ?_) fun _ _ h' => h'))))
  cases f <;> exact wpR_pure h'
theorem codeR_call_function {a : Addr} {args : Args} {o : Obj} {fd : FuncData} {body : List Stmt} (hroom : A.depth < recursionLimit)
    (ho : s.heap.get? a = some o) (hd' : o.data = .func fd) (hco : fd.scope.isCoroutine = false) (hgen : fd.scope.isGenerator = false) (hbody : fd.body = .stmts body) (hcd : s.heap.CodeRec fd.code fd.qualname)
    (h : wpR (model prog w) A.in1 (bindArgs fd args) (fun binds s₁ =>
      wpR (model prog w) A.in1 (newFunctionEnv fd.scope fd.globals fd.closure binds (fd.qualname ++ ".<locals>.") (some a) fd.code none fd.builtins)
        (fun env s₂ => s₂.heap.NoLimit ∧ codeR (model prog w) A (.func body env) R s₂) (fun e s' => R (.error e) s') s₁) (fun e s' => R (.error e) s') s) :
    codeR (model prog w) A (.call (.ref a) args) R s := by
  refine codeR_of_tree rfl ?_
  show wpR _ A.in1 (callAny (.ref a) args) _ _ s
  simp only [callAny]
  refine wpR_bind (toR (wpAny_load ho ?_))
  obtain ⟨c, oc, vs, tq, hc, hoc, hdc, hq⟩ := hcd
  simp only [hd', callFunction, hco, hgen, hbody, hc]
  rw [hc] at h
  refine wpR_bind (m := field (.ref c) 1) (toR (wpAny_field hoc hdc hq (wpR_bind (wpR_pure ?_))))
  exact wpR_bind (wpR_mono h (fun binds s₁ h₁ => wpR_bind (wpR_mono h₁ (fun env s₂ h₂ => wpR_bind (toR (wpAny_enterFrame h₂.1 hroom
    (wpR_pure (And.intro rfl h₂.2))))) fun _ _ h' => h')) fun _ _ h' => h')
theorem codeR_call_plain {name : Str} {params : Arguments} {body : List Stmt} {scope : Scope} {pm cd doc : Value} {a : Addr} {o : Obj} {args : List Value} {binds : List (Str × Value)}
    (hroom : A.depth < recursionLimit) (ho : s.heap.get? a = some o) (hdata : o.data = .func (docDef name params body scope pm cd doc)) (hlim : s.heap.NoLimit) (hcd : s.heap.CodeRec cd name)
    (hbind : bindArgs (docDef name params body scope pm cd doc) ⟨args, []⟩ = pure binds) (hloc : ∀ x ∈ binds, scope.names.lookup x.1 = some .local)
    (h : ∀ h₁, Fr s.heap s.heap.objs.size h₁ (fun x => binds.reverse.lookup x) →
      wpR (model prog w) (A.deeper (envOf name scope s.heap.objs.size a cd)) (execs body (envOf name scope s.heap.objs.size a cd))
        (fun f s' => R (.ok (.ret (match f with | .ret v => v | _ => .none))) s')
        (fun e s' => wpR (model prog w) (A.deeper (envOf name scope s.heap.objs.size a cd)) (leaving (envOf name scope s.heap.objs.size a cd) e)
          (fun _ s'' => R (.error e) s'') (fun e' s'' => R (.error e') s'') s')
        { s with heap := h₁, toks := s.toks + binds.length })
    (hco : scope.isCoroutine = false) (hgen : scope.isGenerator = false) (hk : scope.kind = .function) (hcell : ∀ x ∈ scope.names, x.2 ≠ .cell) :
    codeR (model prog w) A (.call (.ref a) ⟨args, []⟩) R s := by
  refine codeR_call_function hroom ho hdata hco hgen rfl hcd ?_
  rw [hbind]
  refine wpR_pure (toR (wpAny_newFunctionEnv hcell hloc (fun h₁ hns hsb => ⟨hlim.fresh _ hsb, ?_⟩) hk))
  show codeR _ _ (.func body (envOf name scope s.heap.objs.size a cd)) _ _
  exact codeR_func (h h₁ ⟨hns, fun b o e => hsb.extBut b o (Nat.ne_of_lt (Heap.lt_size e)) (Heap.get?_push_of_some _ e), Nat.le_refl _⟩)
end
end Mine

namespace Mine

/-! ## pure data and how a heap bears it -/

/-- everything that stood stands -/
abbrev Kp (h h' : Heap) : Prop := ∀ b o, h.get? b = some o → h'.get? b = some o

inductive PV where
  | none
  | bool (b : Bool)
  | int (i : Int)
  | str (l : List Nat)
  | bytes (l : List UInt8)
  | obj (v : Value)
  | tup (xs : List PV)
  | lst (xs : List PV)
  | ref (a : Addr)
  | rng (a b c : Int)

mutual
def V (D : Addr → Prop) (h : Heap) : PV → Value → Prop
  | .none, v => v = .none
  | .bool b, v => v = .bool b
  | .int i, v => ∃ t, v = .int i t
  | .str l, v => ∃ t, v = .str ⟨l.toArray⟩ t
  | .bytes l, v => ∃ t, v = .bytes l.toArray t
  | .obj w, v => v = w
  | .tup xs, v => ∃ a items, v = .ref a ∧ IsTup h a items ∧ Vs D h xs items.toList
  | .lst xs, v => ∃ a items, v = .ref a ∧ ¬ D a ∧ h.IsList a items ∧ Vs D h xs items.toList
  | .ref a, v => v = .ref a
  | .rng a b c, v => ∃ r t u z, v = .ref r ∧ h.get? r = some { cls := .type "range", dict := none, data := .fields #[.int a t, .int b u, .int c z], slots := #[] }
def Vs (D : Addr → Prop) (h : Heap) : List PV → List Value → Prop
  | [], vs => vs = []
  | x :: xs, vs => ∃ v r, vs = v :: r ∧ V D h x v ∧ Vs D h xs r
end

section
variable {D : Addr → Prop} {h : Heap}
theorem V_none {v} : V D h .none v ↔ v = .none := by simp only [V]
theorem V_bool {b v} : V D h (.bool b) v ↔ v = .bool b := by simp only [V]
theorem V_int {i v} : V D h (.int i) v ↔ ∃ t, v = .int i t := by simp only [V]
theorem V_str {l v} : V D h (.str l) v ↔ ∃ t, v = .str ⟨l.toArray⟩ t := by simp only [V]
theorem V_bytes {l v} : V D h (.bytes l) v ↔ ∃ t, v = .bytes l.toArray t := by simp only [V]
theorem V_obj {w v} : V D h (.obj w) v ↔ v = w := by simp only [V]
theorem V_tup {xs v} : V D h (.tup xs) v ↔ ∃ a items, v = .ref a ∧ IsTup h a items ∧ Vs D h xs items.toList := by simp only [V]
theorem V_lst {xs v} : V D h (.lst xs) v ↔ ∃ a items, v = .ref a ∧ ¬ D a ∧ h.IsList a items ∧ Vs D h xs items.toList := by simp only [V]
theorem V_ref {a v} : V D h (.ref a) v ↔ v = .ref a := by simp only [V]
theorem V_rng {a b c v} : V D h (.rng a b c) v ↔ ∃ r t u z, v = .ref r ∧ h.get? r = some { cls := .type "range", dict := none, data := .fields #[.int a t, .int b u, .int c z], slots := #[] } := by simp only [V]
theorem Vs_nil {vs} : Vs D h [] vs ↔ vs = [] := by simp only [Vs]
theorem Vs_cons {x xs vs} : Vs D h (x :: xs) vs ↔ ∃ v r, vs = v :: r ∧ V D h x v ∧ Vs D h xs r := by simp only [Vs]

theorem V.int (i : Int) (t : Tok) : V D h (.int i) (.int i t) := V_int.mpr ⟨t, rfl⟩
theorem V.bool (b : Bool) : V D h (.bool b) (.bool b) := V_bool.mpr rfl
theorem V.none : V D h .none .none := V_none.mpr rfl
theorem V.bytes (l : List UInt8) (t : Tok) : V D h (.bytes l) (.bytes l.toArray t) := V_bytes.mpr ⟨t, rfl⟩
theorem V.str (l : List Nat) (t : Tok) : V D h (.str l) (.str ⟨l.toArray⟩ t) := V_str.mpr ⟨t, rfl⟩

theorem Vs.length : ∀ {xs : List PV} {vs : List Value}, Vs D h xs vs → vs.length = xs.length
  | [], vs, e => by rw [Vs_nil] at e; subst e; rfl
  | x :: xs, vs, e => by
    rw [Vs_cons] at e
    obtain ⟨v, r, rfl, _, e3⟩ := e
    simp [Vs.length e3]
theorem Vs.get : ∀ {xs : List PV} {vs : List Value} (i : Nat) {x : PV}, Vs D h xs vs → xs[i]? = some x → ∃ v, vs[i]? = some v ∧ V D h x v
  | [], vs, i, x, e, hx => by simp at hx
  | y :: xs, vs, i, x, e, hx => by
    rw [Vs_cons] at e
    obtain ⟨v, r, rfl, e2, e3⟩ := e
    cases i with
    | zero => simp at hx; subst hx; exact ⟨v, rfl, e2⟩
    | succ i => simp at hx; obtain ⟨v', h1, h2⟩ := Vs.get i e3 hx; exact ⟨v', by simpa using h1, h2⟩
theorem Vs.append : ∀ {xs ys : List PV} {vs us : List Value}, Vs D h xs vs → Vs D h ys us → Vs D h (xs ++ ys) (vs ++ us)
  | [], ys, vs, us, e, f => by rw [Vs_nil] at e; subst e; simpa using f
  | x :: xs, ys, vs, us, e, f => by
    rw [Vs_cons] at e
    obtain ⟨v, r, rfl, e2, e3⟩ := e
    rw [List.cons_append, Vs_cons]
    exact ⟨v, r ++ us, rfl, e2, Vs.append e3 f⟩
theorem Vs.take : ∀ (n : Nat) {xs : List PV} {vs : List Value}, Vs D h xs vs → Vs D h (xs.take n) (vs.take n)
  | 0, xs, vs, e => by simp [Vs_nil]
  | n + 1, [], vs, e => by rw [Vs_nil] at e; subst e; simp [Vs_nil]
  | n + 1, x :: xs, vs, e => by
    rw [Vs_cons] at e
    obtain ⟨v, r, rfl, e2, e3⟩ := e
    rw [List.take_succ_cons, List.take_succ_cons, Vs_cons]
    exact ⟨v, _, rfl, e2, Vs.take n e3⟩
theorem Vs.drop : ∀ (n : Nat) {xs : List PV} {vs : List Value}, Vs D h xs vs → Vs D h (xs.drop n) (vs.drop n)
  | 0, xs, vs, e => by simpa using e
  | n + 1, [], vs, e => by rw [Vs_nil] at e; subst e; simp [Vs_nil]
  | n + 1, x :: xs, vs, e => by
    rw [Vs_cons] at e
    obtain ⟨v, r, rfl, e2, e3⟩ := e
    simpa using Vs.drop n e3
theorem Vs.reverse {xs : List PV} {vs : List Value} (e : Vs D h xs vs) : Vs D h xs.reverse vs.reverse := by
  induction xs generalizing vs with
  | nil => rw [Vs_nil] at e; subst e; simp [Vs_nil]
  | cons x xs ih =>
    rw [Vs_cons] at e
    obtain ⟨v, r, rfl, e2, e3⟩ := e
    rw [List.reverse_cons, List.reverse_cons]
    exact (ih e3).append (Vs_cons.mpr ⟨v, [], rfl, e2, Vs_nil.mpr rfl⟩)
theorem Vs.ints : ∀ {ns : List Int} {vs : List Value}, Vs D h (ns.map PV.int) vs → IntsAre vs ns
  | [], vs, e => by
    simp only [List.map_nil, Vs_nil] at e; subst e; exact .nil
  | n :: ns, vs, e => by
    simp only [List.map_cons, Vs_cons] at e
    obtain ⟨v, r, rfl, e2, e3⟩ := e
    obtain ⟨t, rfl⟩ := V_int.mp e2
    exact .cons _ _ (Vs.ints e3)
theorem Vs.of_ints : ∀ {ns : List Int} {vs : List Value}, IntsAre vs ns → Vs D h (ns.map PV.int) vs
  | _, _, .nil => by simp [Vs_nil]
  | _, _, .cons _ _ e => by
    simp only [List.map_cons, Vs_cons]
    exact ⟨_, _, rfl, V.int _ _, Vs.of_ints e⟩
end

/-- an object whose data is one that a value's tree, or an iterator, reads -/
def DataOk (d : Data) : Prop := match d with
  | .seq _ _ => True
  | .fields _ => True
  | _ => False

/-- a node of a value's tree -/
def Node (D : Addr → Prop) (b : Addr) (o : Obj) : Prop :=
  (∃ xs n, o.data = .seq xs n ∧ (¬ D b ∨ o.cls = .type "tuple")) ∨ (o.cls = .type "range" ∧ ∃ vs, o.data = .fields vs)
theorem Node.ok {D : Addr → Prop} {b : Addr} {o : Obj} (x : Node D b o) : DataOk o.data ∧ (¬ D b ∨ o.cls = .type "tuple" ∨ o.cls = .type "range") := by
  rcases x with ⟨xs, n, hd, hc⟩ | ⟨hc, vs, hd⟩
  · exact ⟨by rw [hd]; trivial, hc.elim .inl fun c => .inr (.inl c)⟩
  · exact ⟨by rw [hd]; trivial, .inr (.inr hc)⟩

mutual
theorem V.move {D D' : Addr → Prop} {h h' : Heap}
    (hk : ∀ b o, h.get? b = some o → Node D b o → h'.get? b = some o)
    (hD : ∀ b o, h.get? b = some o → D' b → D b) : ∀ {x : PV} {v : Value}, V D h x v → V D' h' x v
  | .none, v, e => by rw [V_none] at *; exact e
  | .bool b, v, e => by rw [V_bool] at *; exact e
  | .int i, v, e => by rw [V_int] at *; exact e
  | .str l, v, e => by rw [V_str] at *; exact e
  | .bytes l, v, e => by rw [V_bytes] at *; exact e
  | .obj w, v, e => by rw [V_obj] at *; exact e
  | .ref k, v, e => by rw [V_ref] at *; exact e
  | .rng a b c, v, e => by
    rw [V_rng] at *
    obtain ⟨r, t, u, z, e1, e2⟩ := e
    exact ⟨r, t, u, z, e1, hk _ _ e2 (.inr ⟨rfl, _, rfl⟩)⟩
  | .tup xs, v, e => by
    rw [V_tup] at *
    obtain ⟨a, items, e1, ⟨o, ho, hc, n, hd⟩, e3⟩ := e
    exact ⟨a, items, e1, ⟨o, hk _ _ ho (.inl ⟨_, _, hd, .inr hc⟩), hc, n, hd⟩, Vs.move hk hD e3⟩
  | .lst xs, v, e => by
    rw [V_lst] at *
    obtain ⟨a, items, e1, e2, ⟨o, ho, hc, n, hd⟩, e3⟩ := e
    exact ⟨a, items, e1, fun d => e2 (hD _ _ ho d), ⟨o, hk _ _ ho (.inl ⟨_, _, hd, .inl e2⟩), hc, n, hd⟩, Vs.move hk hD e3⟩
theorem Vs.move {D D' : Addr → Prop} {h h' : Heap}
    (hk : ∀ b o, h.get? b = some o → Node D b o → h'.get? b = some o)
    (hD : ∀ b o, h.get? b = some o → D' b → D b) : ∀ {xs : List PV} {vs : List Value}, Vs D h xs vs → Vs D' h' xs vs
  | [], vs, e => by rw [Vs_nil] at *; exact e
  | x :: xs, vs, e => by
    rw [Vs_cons] at *
    obtain ⟨v, r, e1, e2, e3⟩ := e
    exact ⟨v, r, e1, V.move hk hD e2, Vs.move hk hD e3⟩
end
mutual
/-- growth alone -/
theorem V.grow {D : Addr → Prop} {h h' : Heap} (hk : Kp h h') : ∀ {x : PV} {v : Value}, V D h x v → V D h' x v
  | .none, v, e => by rw [V_none] at *; exact e
  | .bool b, v, e => by rw [V_bool] at *; exact e
  | .int i, v, e => by rw [V_int] at *; exact e
  | .str l, v, e => by rw [V_str] at *; exact e
  | .bytes l, v, e => by rw [V_bytes] at *; exact e
  | .obj w, v, e => by rw [V_obj] at *; exact e
  | .ref k, v, e => by rw [V_ref] at *; exact e
  | .rng a b c, v, e => by
    rw [V_rng] at *
    obtain ⟨r, t, u, z, e1, e2⟩ := e
    exact ⟨r, t, u, z, e1, hk _ _ e2⟩
  | .tup xs, v, e => by
    rw [V_tup] at *
    obtain ⟨a, items, e1, e2, e3⟩ := e
    exact ⟨a, items, e1, e2.keeps hk, Vs.grow hk e3⟩
  | .lst xs, v, e => by
    rw [V_lst] at *
    obtain ⟨a, items, e1, e2, ⟨o, ho, r⟩, e3⟩ := e
    exact ⟨a, items, e1, e2, ⟨o, hk _ _ ho, r⟩, Vs.grow hk e3⟩
theorem Vs.grow {D : Addr → Prop} {h h' : Heap} (hk : Kp h h') : ∀ {xs : List PV} {vs : List Value}, Vs D h xs vs → Vs D h' xs vs
  | [], vs, e => by rw [Vs_nil] at *; exact e
  | x :: xs, vs, e => by
    rw [Vs_cons] at *
    obtain ⟨v, r, e1, e2, e3⟩ := e
    exact ⟨v, r, e1, V.grow hk e2, Vs.grow hk e3⟩
end
mutual
/-- fewer owned addresses (among those that stand) -/
theorem V.less {D D' : Addr → Prop} {h : Heap} (hD : ∀ b o, h.get? b = some o → D' b → D b) : ∀ {x : PV} {v : Value}, V D h x v → V D' h x v
  | .none, v, e => by rw [V_none] at *; exact e
  | .bool b, v, e => by rw [V_bool] at *; exact e
  | .int i, v, e => by rw [V_int] at *; exact e
  | .str l, v, e => by rw [V_str] at *; exact e
  | .bytes l, v, e => by rw [V_bytes] at *; exact e
  | .obj w, v, e => by rw [V_obj] at *; exact e
  | .ref k, v, e => by rw [V_ref] at *; exact e
  | .rng a b c, v, e => by rw [V_rng] at *; exact e
  | .tup xs, v, e => by
    rw [V_tup] at *
    obtain ⟨a, items, e1, e2, e3⟩ := e
    exact ⟨a, items, e1, e2, Vs.less hD e3⟩
  | .lst xs, v, e => by
    rw [V_lst] at *
    obtain ⟨a, items, e1, e2, ⟨o, ho, r⟩, e3⟩ := e
    exact ⟨a, items, e1, fun d => e2 (hD _ _ ho d), ⟨o, ho, r⟩, Vs.less hD e3⟩
theorem Vs.less {D D' : Addr → Prop} {h : Heap} (hD : ∀ b o, h.get? b = some o → D' b → D b) : ∀ {xs : List PV} {vs : List Value}, Vs D h xs vs → Vs D' h xs vs
  | [], vs, e => by rw [Vs_nil] at *; exact e
  | x :: xs, vs, e => by
    rw [Vs_cons] at *
    obtain ⟨v, r, e1, e2, e3⟩ := e
    exact ⟨v, r, e1, V.less hD e2, Vs.less hD e3⟩
end
end Mine

namespace Mine

/-! ## states and judgements -/

inductive PO where
  | list (xs : List PV)
  | barr (l : List UInt8)

abbrev Loc := List (Str × PV)
abbrev Own := List (Addr × PO)

def POat (D : Addr → Prop) (h : Heap) (a : Addr) : PO → Prop
  | .list xs => ∃ items n, h.get? a = some { cls := .type "list", data := .seq items n } ∧ Vs D h xs items.toList
  | .barr l => h.get? a = some { cls := .type "bytearray", data := .bytearray l.toArray }

structure Cx where
  prog : Program
  w : World
  B : Heap
  gl : List (Str × PV)

def GloV (B : Heap) (x : Str) (v : Value) : Prop :=
  ∃ mg, B.Ns mainGlobals mg ∧ (mg x = some v ∨ (mg x = none ∧ ∃ mb, B.Ns builtinsNs mb ∧ mb x = some v))

structure Cx.Ok (Γ : Cx) : Prop where
  glob : ∀ x p, Γ.gl.lookup x = some p → ∃ v, GloV Γ.B x v ∧ ∀ D h, V D h p v
  nolimit : Γ.B.NoLimit

abbrev Cx.M (Γ : Cx) : Model := model Γ.prog Γ.w

structure Fm where
  L : Addr
  cl : List (Str × Addr)
  q : Str
  f : Option Addr
  cd : Value
  fr : Option Addr
  /-- what the callers own -/
  D : Addr → Prop

/-- owned: by the callers, or here -/
def Dm (F : Fm) (μ : Own) (b : Addr) : Prop := F.D b ∨ b ∈ μ.map (·.1)

abbrev Fm.env (F : Fm) (sc : Scope) : Env :=
  { scope := sc, locals := F.L, globals := mainGlobals, cells := F.cl, qual := F.q, func := F.f, code := F.cd, frame := F.fr, builtins := builtinsNs }

structure Lv (n : Nat) (A : Around) : Prop where
  handled : A.handled = none
  depth : A.depth ≤ 310 + 10 * n
  units : A.units ≤ 100 + 100 * n
  guards : A.guards = some []

structure Gr (s s' : Shared) : Prop where
  keep : Kp s.heap s'.heap
  gens : s'.gens = s.gens
  os : s'.os = s.os
theorem Gr.refl (s : Shared) : Gr s s := ⟨fun _ _ e => e, rfl, rfl⟩
theorem Gr.trans {s s' s'' : Shared} (a : Gr s s') (b : Gr s' s'') : Gr s s'' :=
  ⟨fun x o e => b.keep x o (a.keep x o e), b.gens.trans a.gens, b.os.trans a.os⟩
theorem Gr.toks {s : Shared} (n : Nat) : Gr s { s with toks := n } := ⟨fun _ _ e => e, rfl, rfl⟩
theorem Gr.heap {s : Shared} {h' : Heap} (n : Nat) (hk : Kp s.heap h') : Gr s { s with heap := h', toks := n } := ⟨hk, rfl, rfl⟩
theorem Kp.push (h : Heap) (o : Obj) : Kp h (h.push o) := fun _ _ e => Heap.get?_push_of_some o e
theorem Kp.trans {a b c : Heap} (x : Kp a b) (y : Kp b c) : Kp a c := fun p o e => y p o (x p o e)

structure St (Γ : Cx) (sc : Scope) (F : Fm) (σ : Loc) (μ : Own) (s : Shared) : Prop where
  ok : Γ.Ok
  base : Kp Γ.B s.heap
  ns : ∃ m, s.heap.Ns F.L m ∧ ∀ x v, σ.lookup x = some v → sc.names.lookup x = some .local → ∃ val, m x = some val ∧ V (Dm F μ) s.heap v val
  cel : ∀ x v, σ.lookup x = some v → (sc.names.lookup x = some .cell ∨ sc.names.lookup x = some .free) →
    ∃ c val, F.cl.lookup x = some c ∧ s.heap.IsCell c (some val) ∧ V (Dm F μ) s.heap v val
  own : ∀ a o, (a, o) ∈ μ → POat (Dm F μ) s.heap a o
  dal : ∀ b, F.D b → (s.heap.get? b).isSome

theorem Kp.alive {h h' : Heap} (x : Kp h h') : ∀ b, (h.get? b).isSome → (h'.get? b).isSome := fun b e => by
  obtain ⟨o, ho⟩ := Option.isSome_iff_exists.mp e
  rw [x b o ho]; rfl
theorem POat.grow {D : Addr → Prop} {h h' : Heap} {a : Addr} {o : PO} (hk : Kp h h') (x : POat D h a o) : POat D h' a o := by
  cases o with
  | list xs => obtain ⟨items, n, ho, e⟩ := x; exact ⟨items, n, hk _ _ ho, e.grow hk⟩
  | barr l => exact hk _ _ x

theorem St.grow {Γ sc F σ μ s s'} (x : St Γ sc F σ μ s) (g : Gr s s') : St Γ sc F σ μ s' where
  ok := x.ok
  base := x.base.trans g.keep
  ns := let ⟨m, hn, hv⟩ := x.ns; ⟨m, hn.keeps g.keep, fun y v a b => let ⟨val, e, e'⟩ := hv y v a b; ⟨val, e, e'.grow g.keep⟩⟩
  cel := fun y v a b => let ⟨c, val, e1, e2, e3⟩ := x.cel y v a b; ⟨c, val, e1, e2.keeps g.keep, e3.grow g.keep⟩
  own := fun a o hm => (x.own a o hm).grow g.keep
  dal := fun b hb => g.keep.alive b (x.dal b hb)

def Ev (Γ : Cx) (k : Nat) (sc : Scope) (σ : Loc) (μ : Own) (e : Expr) (v : PV) : Prop :=
  ∀ (A : Around) (n : Nat) (F : Fm) (s : Shared) (Q : Value → Shared → Prop) (E : Value → Shared → Prop), n + k ≤ 8 → Lv n A → St Γ sc F σ μ s →
    (∀ val s', Gr s s' → V (Dm F μ) s'.heap v val → Q val s') → wpR Γ.M A (eval e (F.env sc)) Q E s

/-- a test -/
def Tr (Γ : Cx) (k : Nat) (sc : Scope) (σ : Loc) (μ : Own) (e : Expr) (b : Bool) : Prop :=
  ∀ (A : Around) (n : Nat) (F : Fm) (s : Shared) (Q : Bool → Shared → Prop) (E : Value → Shared → Prop), n + k ≤ 8 → Lv n A → St Γ sc F σ μ s →
    (∀ s', Gr s s' → Q b s') → wpR Γ.M A (isTrue e (F.env sc) (eval e (F.env sc))) Q E s

/-- the arguments of a call -/
def Es (Γ : Cx) (k : Nat) (sc : Scope) (σ : Loc) (μ : Own) (pos : Pos) (es : List Expr) (vs : List PV) : Prop :=
  ∀ (A : Around) (n : Nat) (F : Fm) (s : Shared) (Q : List Value → Shared → Prop) (E : Value → Shared → Prop), n + k ≤ 8 → Lv n A → St Γ sc F σ μ s →
    (∀ vals s', Gr s s' → Vs (Dm F μ) s'.heap vs vals → Q vals s') → wpR Γ.M A (spliced (backTo pos (starEach es (F.env sc)))) Q E s

/-- what a call of a value gives: the answer's lists are new -/
def CallOk (Γ : Cx) (k : Nat) (f : Value) (args : List PV) (r : PV) : Prop :=
  ∀ (A : Around) (n : Nat) (D : Addr → Prop) (s : Shared) (vals : List Value) (Q : Value → Shared → Prop) (E : Value → Shared → Prop), n + k ≤ 8 → Lv n A → Γ.Ok → Kp Γ.B s.heap →
    Vs D s.heap args vals → (∀ b, D b → (s.heap.get? b).isSome) → (∀ val s', Gr s s' → V D s'.heap r val → Q val s') → wpR Γ.M A (call f vals) Q E s

/-! ## expressions -/

section
variable {Γ : Cx} {k : Nat} {sc : Scope} {σ : Loc} {μ : Own} {pos : Pos}

theorem Ev.mono {k' : Nat} {e v} (h : Ev Γ k sc σ μ e v) (hk : k ≤ k') : Ev Γ k' sc σ μ e v :=
  fun A n F s Q E hn => h A n F s Q E (by omega)

def isVar : Option NameKind → Bool
  | some .local | some .cell | some .free => true
  | _ => false

theorem Ev.name {x : Str} {v : PV} (h : σ.lookup x = some v) (hl : isVar (sc.names.lookup x) = true := by decide +kernel) (hk : sc.kind = .function := by kernel_rfl)
    (hd : (x == ("__debug__" : Str)) = false := by decide +kernel) (hc : (x == ("__classdict__" : Str)) = false := by decide +kernel) : Ev Γ k sc σ μ (.Name x pos) v := by
  intro A n F s Q E _ _ st hQ
  have hk' : (F.env sc).scope.kind = .function := hk
  refine toR (wpAny_Name ?_ hd)
  cases hn : sc.names.lookup x with
  | none => rw [hn] at hl; cases hl
  | some kd =>
    rw [hn] at hl
    have hkd : (F.env sc).kindOf x = some kd := hn
    cases kd with
    | «local» =>
      obtain ⟨m, hm, hv⟩ := st.ns
      obtain ⟨val, e, ev⟩ := hv x v h hn
      exact wpAny_loadName_local hk' hkd hm e (hQ _ _ (Gr.refl s) ev)
    | cell =>
      obtain ⟨c, val, e1, e2, e3⟩ := st.cel x v h (.inl hn)
      exact wpAny_loadName_cell hk' hkd e1 e2 (hQ _ _ (Gr.refl s) e3)
    | free =>
      obtain ⟨c, val, e1, e2, e3⟩ := st.cel x v h (.inr hn)
      exact wpAny_loadName_free hk' hkd e1 e2 (hQ _ _ (Gr.refl s) e3) hc
    | _ => cases hl

theorem Ev.glob {x : Str} {v : PV} (h : Γ.gl.lookup x = some v) (hl : sc.names.lookup x = some .globalImplicit := by kernel_rfl) (hk : sc.kind = .function := by kernel_rfl)
    (hd : (x == ("__debug__" : Str)) = false := by decide +kernel) : Ev Γ k sc σ μ (.Name x pos) v := by
  intro A n F s Q E _ _ st hQ
  obtain ⟨val, ⟨mg, hg, hx⟩, hv⟩ := st.ok.glob x v h
  have hq : Q val s := hQ _ _ (Gr.refl s) (hv _ _)
  refine toR (Name_function_global (env := F.env sc) hk hl ?_ hd)
  rcases hx with hx | ⟨hx, mb, hb, hy⟩
  · exact loadGlobal_global (env := F.env sc) (hg.keeps st.base) hx hq
  · exact loadGlobal_builtin (env := F.env sc) (hg.keeps st.base) hx (hb.keeps st.base) hy hq

theorem Ev.cint {i : Int} {kd : Nat} : Ev Γ k sc σ μ (.Constant (.int i) kd pos) (.int i) :=
  fun _ _ _ _ _ _ _ _ _ hQ => toR (wpAny_Constant_int (hQ _ _ (Gr.toks _) (V.int _ _)))
theorem Ev.cbool {b : Bool} {kd : Nat} : Ev Γ k sc σ μ (.Constant (.bool b) kd pos) (.bool b) :=
  fun _ _ _ _ _ _ _ _ _ hQ => toR (wpAny_Constant_bool (hQ _ _ (Gr.refl _) (V.bool _)))
theorem Ev.cnone {kd : Nat} : Ev Γ k sc σ μ (.Constant .none kd pos) .none :=
  fun _ _ _ _ _ _ _ _ _ hQ => toR (wpAny_Constant_none (hQ _ _ (Gr.refl _) V.none))
theorem Ev.cstr {x : Str} {kd : Nat} {l : List Nat} (e : x.cps.toList = l) : Ev Γ k sc σ μ (.Constant (.str x) kd pos) (.str l) := by
  intro _ _ _ _ _ _ _ _ _ hQ
  refine toR (wpAny_Constant_str (hQ _ _ (Gr.toks _) ?_))
  subst e; exact V_str.mpr ⟨_, rfl⟩
theorem Ev.cbytes {b : List UInt8} {kd : Nat} : Ev Γ k sc σ μ (.Constant (.bytes b) kd pos) (.bytes b) := by
  intro _ _ _ s _ _ _ _ _ hQ
  exact fun _ _ _ _ => hQ (.bytes b.toArray s.toks) { s with toks := s.toks + 1 } (Gr.toks _) (V.bytes _ _)

/-- two operands and an operation on values -/
def Op2 (Γ : Cx) (f : Value → Value → Sem Value) (a b r : PV) : Prop :=
  ∀ (A : Around) (n : Nat) (D : Addr → Prop) (s : Shared) (x y : Value) (Q : Value → Shared → Prop) (E : Value → Shared → Prop), n ≤ 8 → Lv n A → Γ.Ok → Kp Γ.B s.heap → V D s.heap a x → V D s.heap b y → (∀ b, D b → (s.heap.get? b).isSome) →
    (∀ val s', Gr s s' → V D s'.heap r val → Q val s') → wpAny Γ.M A (f x y) Q E s

theorem St.dom {Γ sc F σ μ s} (st : St Γ sc F σ μ s) : ∀ b, Dm F μ b → (s.heap.get? b).isSome := by
  intro b hb
  rcases hb with hb | hb
  · exact st.dal b hb
  obtain ⟨p, hp, rfl⟩ := List.mem_map.mp hb
  have := st.own p.1 p.2 hp
  cases hq : p.2 with
  | list xs => rw [hq] at this; obtain ⟨items, _, ho, _⟩ := this; rw [ho]; rfl
  | barr l =>
    rw [hq] at this
    have ho : s.heap.get? p.1 = some { cls := .type "bytearray", data := .bytearray l.toArray } := this
    rw [ho]; rfl

theorem Ev.bin {l r : Expr} {op : Operator} {a b c : PV} (hl : Ev Γ k sc σ μ l a) (hr : Ev Γ k sc σ μ r b) (ho : Op2 Γ (binaryOp op) a b c) : Ev Γ k sc σ μ (.BinOp l op r pos) c := by
  intro A n F s Q E hn hA st hQ
  refine wpR_BinOp (hl A n F s _ _ hn hA st fun x s₁ g₁ hx => ?_)
  refine hr A n F s₁ _ _ hn hA (st.grow g₁) fun y s₂ g₂ hy => ?_
  exact toR <| ho A n _ s₂ x y _ _ (by omega) hA st.ok ((st.grow g₁).grow g₂).base (hx.grow g₂.keep) hy ((st.grow g₁).grow g₂).dom fun v s₃ g₃ hv => hQ v s₃ ((g₁.trans g₂).trans g₃) hv

theorem Ev.cmp {l r : Expr} {op : CmpOp} {a b c : PV} (hl : Ev Γ k sc σ μ l a) (hr : Ev Γ k sc σ μ r b) (ho : Op2 Γ (compareOp op) a b c)
    (hm : behindInMarks op r = false := by kernel_rfl) : Ev Γ k sc σ μ (.Compare l [op] [r] pos) c := by
  intro A n F s Q E hn hA st hQ
  refine wpR_Compare1 (hl A n F s _ _ hn hA st fun x s₁ g₁ hx => ?_) hm
  refine hr A n F s₁ _ _ hn hA (st.grow g₁) fun y s₂ g₂ hy => ?_
  exact toR <| ho A n _ s₂ x y _ _ (by omega) hA st.ok ((st.grow g₁).grow g₂).base (hx.grow g₂.keep) hy ((st.grow g₁).grow g₂).dom fun v s₃ g₃ hv => hQ v s₃ ((g₁.trans g₂).trans g₃) hv

theorem Tr.cmp {l r : Expr} {op : CmpOp} {a b : PV} {c : Bool} (hl : Ev Γ k sc σ μ l a) (hr : Ev Γ k sc σ μ r b) (ho : Op2 Γ (compareOp op) a b (.bool c))
    (hm : behindInMarks op r = false := by kernel_rfl) : Tr Γ k sc σ μ (.Compare l [op] [r] pos) c := by
  intro A n F s Q E hn hA st hQ
  refine wpR_isTrue_Compare1 (hl A n F s _ _ hn hA st fun x s₁ g₁ hx => ?_) hm
  refine hr A n F s₁ _ _ hn hA (st.grow g₁) fun y s₂ g₂ hy => ?_
  refine toR (ho A n _ s₂ x y _ _ (by omega) hA st.ok ((st.grow g₁).grow g₂).base (hx.grow g₂.keep) hy ((st.grow g₁).grow g₂).dom fun v s₃ g₃ hv => ?_)
  rw [V_bool] at hv; subst hv
  exact toR (wpAny_truthy_bool (hQ s₃ ((g₁.trans g₂).trans g₃)))

/-- `a <= x <= b` -/
theorem Tr.cmp2 {l r t : Expr} {op op' : CmpOp} {a b d : PV} {c c' : Bool} (hl : Ev Γ k sc σ μ l a) (hr : Ev Γ k sc σ μ r b) (ho : Op2 Γ (compareOp op) a b (.bool c))
    (ht : c = true → Ev Γ k sc σ μ t d) (ho' : c = true → Op2 Γ (compareOp op') b d (.bool c'))
    (hm : ∀ env, markedEach [op, op'] [r, t] (evalEach [r, t] env) = [eval r env, eval t env] := by intro _; kernel_rfl) : Tr Γ k sc σ μ (.Compare l [op, op'] [r, t] pos) (c && c') := by
  intro A n F s Q E hn hA st hQ
  show wpR _ _ (do testChain pos (← eval l (F.env sc)) [op, op'] (markedEach [op, op'] [r, t] (evalEach [r, t] (F.env sc)))) Q E s
  rw [hm]
  refine wpR_bind (hl A n F s _ _ hn hA st fun x s₁ g₁ hx => ?_)
  show wpR _ _ (do
    let rv ← holding [x] (eval r (F.env sc))
    standAt pos
    let c ← holding [x, rv] (compareOp op x rv)
    release [x, rv] [c]
    if ← holding [c, rv] (truthy c) then testChain pos rv [op'] [eval t (F.env sc)] else pure false) Q E s₁
  refine wpR_bind (wpR_holding (hr A n F s₁ _ _ hn hA (st.grow g₁) fun y s₂ g₂ hy => wpR_bind (wpR_standAt (wpR_bind (wpR_holding ?_)))))
  refine toR (ho A n _ s₂ x y _ _ (by omega) hA st.ok ((st.grow g₁).grow g₂).base (hx.grow g₂.keep) hy ((st.grow g₁).grow g₂).dom fun v s₃ g₃ hv => ?_)
  rw [V_bool] at hv; subst hv
  refine wpR_bind (wpR_release ?_)
  refine wpR_bind (wpR_holding (toR (wpAny_truthy_bool ?_)))
  cases c with
  | false => exact wpR_pure (hQ s₃ ((g₁.trans g₂).trans g₃))
  | true =>
    simp only [if_true]
    show wpR _ _ (do
      let rv ← holding [y] (eval t (F.env sc))
      standAt pos
      let c ← operate [y, rv] (compareOp op' y rv)
      holding [c] (truthy c)) Q E s₃
    refine wpR_bind (wpR_holding (ht rfl A n F s₃ _ _ hn hA (((st.grow g₁).grow g₂).grow g₃) fun z s₄ g₄ hz => wpR_bind (wpR_standAt (wpR_bind ?_))))
    refine wpR_operate ?_
    refine toR (ho' rfl A n _ s₄ y z _ _ (by omega) hA st.ok ((((st.grow g₁).grow g₂).grow g₃).grow g₄).base ((hy.grow g₃.keep).grow g₄.keep) hz ((((st.grow g₁).grow g₂).grow g₃).grow g₄).dom fun v s₅ g₅ hv => ?_)
    rw [V_bool] at hv; subst hv
    exact wpR_holding (toR (wpAny_truthy_bool (hQ s₅ ((((g₁.trans g₂).trans g₃).trans g₄).trans g₅))))

/-- a value's truth -/
def Truth (Γ : Cx) (a : PV) (b : Bool) : Prop :=
  ∀ (A : Around) (n : Nat) (D : Addr → Prop) (s : Shared) (x : Value) (Q : Bool → Shared → Prop) (E : Value → Shared → Prop), n ≤ 8 → Lv n A → Kp Γ.B s.heap → V D s.heap a x → (∀ s', Gr s s' → Q b s') → wpAny Γ.M A (truthy x) Q E s

theorem Tr.val {e : Expr} {a : PV} {b : Bool} (h : Ev Γ k sc σ μ e a) (ht : Truth Γ a b)
    (he : ∀ env, isTrue e env (eval e env) = (do let v ← eval e env; standAt e.pos; holding [v] (truthy v)) := by intro _; kernel_rfl) : Tr Γ k sc σ μ e b := by
  intro A n F s Q E hn hA st hQ
  refine wpR_isTrue_value (h A n F s _ _ hn hA st fun x s₁ g₁ hx => ?_) (he _)
  exact toR (ht A n _ s₁ x _ _ (by omega) hA (st.grow g₁).base hx fun s₂ g₂ => hQ s₂ (g₁.trans g₂))
theorem Truth.bool {b : Bool} : Truth Γ (.bool b) b := by
  intro A n D s x Q E _ _ _ hx hQ
  rw [V_bool] at hx; subst hx
  exact wpAny_truthy_bool (hQ s (Gr.refl s))
theorem Tr.not {e : Expr} {b : Bool} (h : Tr Γ k sc σ μ e b) : Tr Γ k sc σ μ (.UnaryOp .Not e pos) (!b) := by
  intro A n F s Q E hn hA st hQ
  exact wpR_isTrue_Not (h A n F s _ _ hn hA st fun s₁ g₁ => hQ s₁ g₁)
theorem Tr.and2 {e f : Expr} {a b : Bool} (he : Tr Γ k sc σ μ e a) (hf : a = true → Tr Γ k sc σ μ f b) : Tr Γ k sc σ μ (.BoolOp .And [e, f] pos) (a && b) := by
  intro A n F s Q E hn hA st hQ
  refine wpR_isTrue_BoolOp (wpR_allTrue_And_cons (he A n F s _ _ hn hA st fun s₁ g₁ => ?_))
  cases a with
  | false => exact hQ s₁ g₁
  | true =>
    refine wpR_allTrue_And_cons (hf rfl A n F s₁ _ _ hn hA (st.grow g₁) fun s₂ g₂ => ?_)
    cases b with
    | false => exact hQ s₂ (g₁.trans g₂)
    | true => exact wpR_allTrue_And_nil (hQ s₂ (g₁.trans g₂))
theorem Tr.or2 {e f : Expr} {a b : Bool} (he : Tr Γ k sc σ μ e a) (hf : a = false → Tr Γ k sc σ μ f b) : Tr Γ k sc σ μ (.BoolOp .Or [e, f] pos) (a || b) := by
  intro A n F s Q E hn hA st hQ
  refine wpR_isTrue_BoolOp (wpR_allTrue_Or_cons (he A n F s _ _ hn hA st fun s₁ g₁ => ?_))
  cases a with
  | true => exact hQ s₁ g₁
  | false =>
    refine wpR_allTrue_Or_cons (hf rfl A n F s₁ _ _ hn hA (st.grow g₁) fun s₂ g₂ => ?_)
    cases b with
    | true => exact hQ s₂ (g₁.trans g₂)
    | false => exact wpR_allTrue_Or_nil (hQ s₂ (g₁.trans g₂))

theorem Ev.ifexp {t a b : Expr} {c : Bool} {v : PV} (ht : Tr Γ k sc σ μ t c) (ha : c = true → Ev Γ k sc σ μ a v) (hb : c = false → Ev Γ k sc σ μ b v) : Ev Γ k sc σ μ (.IfExp t a b pos) v := by
  intro A n F s Q E hn hA st hQ
  refine wpR_IfExp (ht A n F s _ _ hn hA st fun s₁ g₁ => ?_)
  cases c with
  | true => exact ha rfl A n F s₁ _ _ hn hA (st.grow g₁) fun v s₂ g₂ hv => hQ v s₂ (g₁.trans g₂) hv
  | false => exact hb rfl A n F s₁ _ _ hn hA (st.grow g₁) fun v s₂ g₂ hv => hQ v s₂ (g₁.trans g₂) hv

theorem Ev.neg {e : Expr} {i : Int} (h : Ev Γ k sc σ μ e (.int i)) : Ev Γ k sc σ μ (.UnaryOp .USub e pos) (.int (-i)) := by
  intro A n F s Q E hn hA st hQ
  refine wpR_UnaryOp (h A n F s _ _ hn hA st fun v s₁ g₁ hv => ?_)
  obtain ⟨t, rfl⟩ := V_int.mp hv
  exact toR <| neg_int (hQ _ _ (g₁.trans (Gr.toks _)) (V.int _ _))

theorem Es.nil : Es Γ k sc σ μ pos [] [] := fun _ _ _ s _ _ _ _ _ hQ => toR (wpAny_items_nil (hQ _ _ (Gr.refl s) (Vs_nil.mpr rfl)))
theorem Es.cons {e : Expr} {es : List Expr} {v : PV} {vs : List PV} (h : Ev Γ k sc σ μ e v) (hs : Es Γ k sc σ μ pos es vs)
    (he : ∀ env, starEach (e :: es) env = (false, eval e env) :: starEach es env := by intro _; kernel_rfl) : Es Γ k sc σ μ pos (e :: es) (v :: vs) := by
  intro A n F s Q E hn hA st hQ
  refine wpR_items_cons (h A n F s _ _ hn hA st fun x s₁ g₁ hx => ?_) (he _)
  exact hs A n F s₁ _ _ hn hA (st.grow g₁) fun xs s₂ g₂ hxs => hQ _ s₂ (g₁.trans g₂) (Vs_cons.mpr ⟨x, xs, rfl, hx.grow g₂.keep, hxs⟩)
end

/-! ## operations on ints -/
section
variable {Γ : Cx} {a b : Int}
theorem Op2.add : Op2 Γ (binaryOp .Add) (.int a) (.int b) (.int (a + b)) := by
  intro A n D s x y Q E _ _ _ _ hx hy _ hQ
  obtain ⟨t, rfl⟩ := V_int.mp hx; obtain ⟨u, rfl⟩ := V_int.mp hy
  exact PyProof.Rows.add_int (hQ _ _ (Gr.toks _) (V.int _ _))
theorem Op2.sub : Op2 Γ (binaryOp .Sub) (.int a) (.int b) (.int (a - b)) := by
  intro A n D s x y Q E _ _ _ _ hx hy _ hQ
  obtain ⟨t, rfl⟩ := V_int.mp hx; obtain ⟨u, rfl⟩ := V_int.mp hy
  exact PyProof.Rows.sub_int (hQ _ _ (Gr.toks _) (V.int _ _))
theorem Op2.mul (hm : IntMulOk a b) : Op2 Γ (binaryOp .Mult) (.int a) (.int b) (.int (a * b)) := by
  intro A n D s x y Q E _ _ _ _ hx hy _ hQ
  obtain ⟨t, rfl⟩ := V_int.mp hx; obtain ⟨u, rfl⟩ := V_int.mp hy
  exact PyProof.Rows.mul_int (hQ _ _ (Gr.toks _) (V.int _ _)) hm
theorem Op2.fdiv (hb : 0 < b) (hs : b < 2 ^ 64) : Op2 Γ (binaryOp .FloorDiv) (.int a) (.int b) (.int (a / b)) := by
  intro A n D s x y Q E _ _ _ _ hx hy _ hQ
  obtain ⟨t, rfl⟩ := V_int.mp hx; obtain ⟨u, rfl⟩ := V_int.mp hy
  refine PyProof.Rows.floordiv_int (by omega) ?_ (.inl (PyProof.noPylong_of_log2 ?_))
  · rw [Int.fdiv_eq_ediv_of_nonneg _ (by omega)]; exact hQ _ _ (Gr.toks _) (V.int _ _)
  · have : b.natAbs < 2 ^ 64 := by omega
    have h1 : b.natAbs.log2 < 64 := (Nat.log2_lt (by omega)).mpr this
    omega
theorem Op2.mod (hb : 0 < b) : Op2 Γ (binaryOp .Mod) (.int a) (.int b) (.int (a % b)) := by
  intro A n D s x y Q E _ _ _ _ hx hy _ hQ
  obtain ⟨t, rfl⟩ := V_int.mp hx; obtain ⟨u, rfl⟩ := V_int.mp hy
  refine PyProof.Rows.mod_int' (by omega) ?_
  rw [Int.fmod_eq_emod_of_nonneg _ (by omega)]; exact hQ _ _ (Gr.toks _) (V.int _ _)
theorem Op2.pow {m : Nat} (hm : m ≤ 1000000) (ha : a.natAbs < 2 ^ 64) (hb : b = (m : Int)) : Op2 Γ (binaryOp .Pow) (.int a) (.int b) (.int (a ^ m)) := by
  intro A n D s x y Q E _ _ _ _ hx hy _ hQ
  obtain ⟨t, rfl⟩ := V_int.mp hx; obtain ⟨u, rfl⟩ := V_int.mp hy
  subst hb
  refine PyProof.Rows.pow_int_small (by omega) (by omega) ha ?_
  exact hQ _ _ (Gr.toks _) (by simpa using V.int (a ^ m) _)
theorem Op2.lt : Op2 Γ (compareOp .Lt) (.int a) (.int b) (.bool (decide (a < b))) := by
  intro A n D s x y Q E _ _ _ _ hx hy _ hQ
  obtain ⟨t, rfl⟩ := V_int.mp hx; obtain ⟨u, rfl⟩ := V_int.mp hy
  exact PyProof.Rows.lt_int (hQ _ _ (Gr.refl _) (V.bool _))
theorem Op2.gt : Op2 Γ (compareOp .Gt) (.int a) (.int b) (.bool (decide (b < a))) := by
  intro A n D s x y Q E _ _ _ _ hx hy _ hQ
  obtain ⟨t, rfl⟩ := V_int.mp hx; obtain ⟨u, rfl⟩ := V_int.mp hy
  exact PyProof.Rows.gt_int (hQ _ _ (Gr.refl _) (V.bool _))
theorem Op2.eq : Op2 Γ (compareOp .Eq) (.int a) (.int b) (.bool (decide (a = b))) := by
  intro A n D s x y Q E _ _ _ _ hx hy _ hQ
  obtain ⟨t, rfl⟩ := V_int.mp hx; obtain ⟨u, rfl⟩ := V_int.mp hy
  refine PyProof.Rows.eq_int ?_
  have := hQ (.bool (decide (a = b))) s (Gr.refl _) (V.bool _)
  rwa [show (a == b) = decide (a = b) from by rw [Bool.eq_iff_iff]; simp]
theorem Op2.ne : Op2 Γ (compareOp .NotEq) (.int a) (.int b) (.bool (decide (a ≠ b))) := by
  intro A n D s x y Q E _ _ _ _ hx hy _ hQ
  obtain ⟨t, rfl⟩ := V_int.mp hx; obtain ⟨u, rfl⟩ := V_int.mp hy
  refine PyProof.Rows.ne_int ?_
  have := hQ (.bool (decide (a ≠ b))) s (Gr.refl _) (V.bool _)
  rwa [show (a != b) = decide (a ≠ b) from by rw [Bool.eq_iff_iff]; simp]
theorem Op2.le : Op2 Γ (compareOp .LtE) (.int a) (.int b) (.bool (decide (a ≤ b))) := by
  intro A n D s x y Q E _ _ _ _ hx hy _ hQ
  obtain ⟨t, rfl⟩ := V_int.mp hx; obtain ⟨u, rfl⟩ := V_int.mp hy
  exact PyProof.Rows.le_int (hQ _ _ (Gr.refl _) (V.bool _))
theorem Op2.ge : Op2 Γ (compareOp .GtE) (.int a) (.int b) (.bool (decide (b ≤ a))) := by
  intro A n D s x y Q E _ _ _ _ hx hy _ hQ
  obtain ⟨t, rfl⟩ := V_int.mp hx; obtain ⟨u, rfl⟩ := V_int.mp hy
  exact PyProof.Rows.ge_int (hQ _ _ (Gr.refl _) (V.bool _))
theorem Op2.iadd : Op2 Γ (inplaceOp .Add) (.int a) (.int b) (.int (a + b)) := by
  intro A n D s x y Q E _ _ _ _ hx hy _ hQ
  obtain ⟨t, rfl⟩ := V_int.mp hx; obtain ⟨u, rfl⟩ := V_int.mp hy
  exact PyProof.Rows.iadd_int (hQ _ _ (Gr.toks _) (V.int _ _))
theorem Op2.isub : Op2 Γ (inplaceOp .Sub) (.int a) (.int b) (.int (a - b)) := by
  intro A n D s x y Q E _ _ _ _ hx hy _ hQ
  obtain ⟨t, rfl⟩ := V_int.mp hx; obtain ⟨u, rfl⟩ := V_int.mp hy
  exact PyProof.Rows.isub_int (hQ _ _ (Gr.toks _) (V.int _ _))
theorem Op2.imul (hm : IntMulOk a b) : Op2 Γ (inplaceOp .Mult) (.int a) (.int b) (.int (a * b)) := by
  intro A n D s x y Q E _ _ _ _ hx hy _ hQ
  obtain ⟨t, rfl⟩ := V_int.mp hx; obtain ⟨u, rfl⟩ := V_int.mp hy
  exact PyProof.Rows.imul_int (hQ _ _ (Gr.toks _) (V.int _ _)) hm
theorem Op2.ifdiv (hb : 0 < b) (hs : b < 2 ^ 64) : Op2 Γ (inplaceOp .FloorDiv) (.int a) (.int b) (.int (a / b)) := by
  intro A n D s x y Q E _ _ _ _ hx hy _ hQ
  obtain ⟨t, rfl⟩ := V_int.mp hx; obtain ⟨u, rfl⟩ := V_int.mp hy
  refine PyProof.Rows.ifloordiv_int (by omega) ?_ (.inl (PyProof.noPylong_of_log2 ?_))
  · rw [Int.fdiv_eq_ediv_of_nonneg _ (by omega)]; exact hQ _ _ (Gr.toks _) (V.int _ _)
  · have : b.natAbs < 2 ^ 64 := by omega
    have h1 : b.natAbs.log2 < 64 := (Nat.log2_lt (by omega)).mpr this
    omega
end
end Mine

namespace Mine

/-! ## statements -/

structure Sx (Γ : Cx) (h₀ : Heap) (sc : Scope) (F : Fm) (σ : Loc) (μ : Own) (s : Shared) (cs : Scope := sc) : Prop extends St Γ sc F σ μ s where
  keep : Kp h₀ s.heap
  baseh : Kp Γ.B h₀
  newL : h₀.get? F.L = none
  cells : ∀ x, cs.names.lookup x = some .cell → ∃ c v, F.cl.lookup x = some c ∧ h₀.get? c = none ∧ s.heap.IsCell c v
  cellsAll : ∀ x c, F.cl.lookup x = some c → ∃ v, s.heap.IsCell c v
  cellsApart : ∀ x y c, cs.names.lookup x = some .cell → F.cl.lookup x = some c → F.cl.lookup y = some c → y = x
  ownNew : ∀ b, b ∈ μ.map (·.1) → h₀.get? b = none
  dold : ∀ b, F.D b → (h₀.get? b).isSome
  apart : (μ.map (·.1)).Nodup

inductive Fl where
  | next | brk | cont
  | ret (v : PV)

def FlV (D : Addr → Prop) (h : Heap) : Fl → Flow → Prop
  | .next, f => f = .next
  | .brk, f => f = .brk
  | .cont, f => f = .cont
  | .ret v, f => ∃ val, f = .ret val ∧ V D h v val

structure Sp (F : Fm) (μ μ' : Own) (s s' : Shared) : Prop where
  keep : ∀ b o, s.heap.get? b = some o → b ≠ F.L → (∀ x, F.cl.lookup x ≠ some b) → ¬ Dm F μ b → s'.heap.get? b = some o
  alive : ∀ b, (s.heap.get? b).isSome → (s'.heap.get? b).isSome
  dom : ∀ b, (s.heap.get? b).isSome → Dm F μ' b → Dm F μ b
  gens : s'.gens = s.gens
  os : s'.os = s.os

theorem Sp.refl (F : Fm) (μ : Own) (s : Shared) : Sp F μ μ s s := ⟨fun _ _ e _ _ _ => e, fun _ e => e, fun _ _ e => e, rfl, rfl⟩
theorem Sp.gr {F : Fm} {μ : Own} {s s' : Shared} (g : Gr s s') : Sp F μ μ s s' := ⟨fun b o e _ _ _ => g.keep b o e, g.keep.alive, fun _ _ e => e, g.gens, g.os⟩
theorem Sp.trans {F : Fm} {μ μ' μ'' : Own} {s s' s'' : Shared} (a : Sp F μ μ' s s') (b : Sp F μ' μ'' s' s'') : Sp F μ μ'' s s'' where
  keep := fun x o e h1 h2 h3 => b.keep x o (a.keep x o e h1 h2 h3) h1 h2 fun d => h3 (a.dom x (by rw [e]; rfl) d)
  alive := fun x e => b.alive x (a.alive x e)
  dom := fun x e d => a.dom x e (b.dom x (a.alive x e) d)
  gens := b.gens.trans a.gens
  os := b.os.trans a.os

def Xs (Γ : Cx) (k : Nat) (sc : Scope) (σ : Loc) (μ : Own) (sts : List Stmt) (P : Fl → Loc → Own → Prop) : Prop :=
  ∀ (A : Around) (n : Nat) (F : Fm) (h₀ : Heap) (s : Shared) (Q : Flow → Shared → Prop) (E : Value → Shared → Prop), n + k ≤ 8 → Lv n A → Sx Γ h₀ sc F σ μ s →
    (∀ fl σ' μ' f s', P fl σ' μ' → Sx Γ h₀ sc F σ' μ' s' → Sp F μ μ' s s' → FlV (Dm F μ') s'.heap fl f → Q f s') → wpR Γ.M A (execs sts (F.env sc)) Q E s
def X1 (Γ : Cx) (k : Nat) (sc : Scope) (σ : Loc) (μ : Own) (st : Stmt) (P : Fl → Loc → Own → Prop) : Prop :=
  ∀ (A : Around) (n : Nat) (F : Fm) (h₀ : Heap) (s : Shared) (Q : Flow → Shared → Prop) (E : Value → Shared → Prop), n + k ≤ 8 → Lv n A → Sx Γ h₀ sc F σ μ s →
    (∀ fl σ' μ' f s', P fl σ' μ' → Sx Γ h₀ sc F σ' μ' s' → Sp F μ μ' s s' → FlV (Dm F μ') s'.heap fl f → Q f s') → wpR Γ.M A (exec st (F.env sc)) Q E s

theorem Sx.grow {Γ h₀ sc F σ μ s s'} {cs : Scope} (x : Sx Γ h₀ sc F σ μ s cs) (g : Gr s s') : Sx Γ h₀ sc F σ μ s' cs :=
  { x.toSt.grow g with
    keep := x.keep.trans g.keep
    baseh := x.baseh
    newL := x.newL
    cells := fun y e => let ⟨c, v, a, b, d⟩ := x.cells y e; ⟨c, v, a, b, d.keeps g.keep⟩
    cellsAll := fun y c e => let ⟨v, d⟩ := x.cellsAll y c e; ⟨v, d.keeps g.keep⟩
    cellsApart := x.cellsApart
    ownNew := x.ownNew
    dold := x.dold
    apart := x.apart }

/-- what an update of an object that no tree reads leaves -/
theorem V.same {D : Addr → Prop} {h h' : Heap} {c : Addr} {o : Obj} (hs : Heap.SameBut c h h') (ho : h.get? c = some o) (hd : ¬ DataOk o.data) {x : PV} {v : Value} (e : V D h x v) : V D h' x v :=
  V.move (fun b o' hb hd' => (hs.2 b (fun q => by subst q; rw [ho] at hb; cases hb; exact hd hd'.ok.1)).trans hb) (fun _ _ _ d => d) e
theorem Vs.same {D : Addr → Prop} {h h' : Heap} {c : Addr} {o : Obj} (hs : Heap.SameBut c h h') (ho : h.get? c = some o) (hd : ¬ DataOk o.data) {x : List PV} {v : List Value} (e : Vs D h x v) : Vs D h' x v :=
  Vs.move (fun b o' hb hd' => (hs.2 b (fun q => by subst q; rw [ho] at hb; cases hb; exact hd hd'.ok.1)).trans hb) (fun _ _ _ d => d) e
theorem POat.same {D : Addr → Prop} {h h' : Heap} {c a : Addr} {o : Obj} {p : PO} (hs : Heap.SameBut c h h') (ho : h.get? c = some o) (hd : ¬ DataOk o.data) (hb : ∀ l n, o.data ≠ .bytearray l n) (e : POat D h a p) : POat D h' a p := by
  cases p with
  | list xs =>
    obtain ⟨items, n, ho', e⟩ := e
    refine ⟨items, n, (hs.2 a (fun q => ?_)).trans ho', e.same hs ho hd⟩
    subst q; rw [ho] at ho'; cases ho'; exact hd trivial
  | barr l =>
    refine (hs.2 a (fun q => ?_)).trans e
    subst q
    have e' : h.get? a = some { cls := .type "bytearray", data := .bytearray l.toArray } := e
    rw [ho] at e'; cases e'; exact hb _ _ rfl

section
variable {Γ : Cx} {k : Nat} {sc : Scope} {σ : Loc} {μ : Own} {pos : Pos} {P : Fl → Loc → Own → Prop} {A : Around} {F : Fm} {h₀ : Heap} {s : Shared} {E : Value → Shared → Prop}

theorem lookup_cons_ne {x y : Str} {v : PV} {σ : Loc} (h : y ≠ x) : ((x, v) :: σ : Loc).lookup y = σ.lookup y := by
  rw [List.lookup_cons]
  have : (y == x) = false := beq_eq_false_iff_ne.mpr h
  rw [this]
theorem lookup_cons_self {x : Str} {v : PV} {σ : Loc} : ((x, v) :: σ : Loc).lookup x = some v := by
  rw [List.lookup_cons]; simp

def isPlace : Option NameKind → Bool
  | some .local | some .cell => true
  | _ => false

theorem Sx.store {x : Str} {v : PV} {val : Value} {cs : Scope} {Q : Unit → Shared → Prop} (X : Sx Γ h₀ sc F σ μ s cs) (hv : V (Dm F μ) s.heap v val) (hl : isPlace (sc.names.lookup x) = true) (hk : sc.kind = .function)
    (hQ : ∀ s', Sx Γ h₀ sc F ((x, v) :: σ) μ s' cs → Sp F μ μ s s' → V (Dm F μ) s'.heap v val → Q () s') (hsame : sc.names.lookup x = cs.names.lookup x := by rfl) : wpAny Γ.M A (storeName (F.env sc) x val) Q E s := by
  obtain ⟨m, hn, hvs⟩ := X.ns
  obtain ⟨oL, es, ep, hoL, hdL, hkL, hfL⟩ := id hn
  have hnotL : ¬ DataOk oL.data := by rw [hdL]; exact id
  have hbL : ∀ l n, oL.data ≠ .bytearray l n := by rw [hdL]; intro _ _ q; cases q
  cases hx : sc.names.lookup x with
  | none => rw [hx] at hl; cases hl
  | some kd =>
    rw [hx] at hl
    have hkd : (F.env sc).kindOf x = some kd := hx
    cases kd with
    | «local» =>
      refine wpAny_storeName_local (env := F.env sc) hkd hn (fun h' hn' hs => ?_) (by show (sc.kind == .class || (sc.kind == .module && _)) = false; rw [hk]; rfl)
      have hne : ∀ b o, h₀.get? b = some o → b ≠ F.L := fun b o e q => by rw [q, X.newL] at e; cases e
      have hcell : ∀ c w, s.heap.IsCell c w → c ≠ F.L := fun c w ⟨o, ho, hd⟩ q => by subst q; rw [hoL] at ho; cases ho; rw [hdL] at hd; cases hd
      have hv' := hv.same hs hoL hnotL
      have halive : ∀ b, (s.heap.get? b).isSome → (h'.get? b).isSome := fun b e => by
        by_cases q : b = F.L
        · subst q; obtain ⟨o', _, _, ho', _⟩ := hn'; rw [ho']; rfl
        · rw [hs.2 b q]; exact e
      refine hQ _ ⟨⟨X.ok, fun b o e => (hs.2 b (hne b o (X.baseh b o e))).trans (X.base b o e), ⟨_, hn', fun y w a b => ?_⟩, fun y w a b => ?_, fun a o hm => (X.own a o hm).same hs hoL hnotL hbL, fun b hb => halive b (X.dal b hb)⟩,
        fun b o e => (hs.2 b (hne b o e)).trans (X.keep b o e), X.baseh, X.newL, fun y e => ?_, fun y c' e => ?_, X.cellsApart, X.ownNew, X.dold, X.apart⟩
        ⟨fun b o e h1 _ _ => (hs.2 b h1).trans e, fun b e => ?_, fun _ _ e => e, rfl, rfl⟩ hv'
      · by_cases q : y = x
        · subst q; rw [lookup_cons_self] at a; cases a; exact ⟨val, if_pos rfl, hv'⟩
        · rw [lookup_cons_ne q] at a
          obtain ⟨w', e1, e2⟩ := hvs y w a b
          exact ⟨w', by show (if y = x then some val else m y) = some w'; rw [if_neg q]; exact e1, e2.same hs hoL hnotL⟩
      · have q : y ≠ x := by rintro rfl; rw [hx] at b; rcases b with b | b <;> cases b
        rw [lookup_cons_ne q] at a
        obtain ⟨c, w', e1, e2, e3⟩ := X.cel y w a b
        exact ⟨c, w', e1, e2.sameBut hs (hcell _ _ e2), e3.same hs hoL hnotL⟩
      · obtain ⟨c, w, a1, a2, a3⟩ := X.cells y e
        exact ⟨c, w, a1, a2, a3.sameBut hs (hcell _ _ a3)⟩
      · obtain ⟨w, a3⟩ := X.cellsAll y c' e
        exact ⟨w, a3.sameBut hs (hcell _ _ a3)⟩
      · exact halive b e
    | cell =>
      obtain ⟨c, w, c1, c2, c3⟩ := X.cells x (hsame ▸ hx)
      obtain ⟨oc, hoc, hdc⟩ := id c3
      have hnotc : ¬ DataOk oc.data := by rw [hdc]; exact id
      have hbc : ∀ l n, oc.data ≠ .bytearray l n := by rw [hdc]; intro _ _ q; cases q
      refine wpAny_storeName_cell (env := F.env sc) hk hkd c1 c3 fun h' hc' hs => ?_
      have hLc : F.L ≠ c := fun q => by rw [q, hoc] at hoL; cases hoL; rw [hdL] at hdc; cases hdc
      have hne : ∀ b o, h₀.get? b = some o → b ≠ c := fun b o e q => by rw [q, c2] at e; cases e
      have hv' := hv.same hs hoc hnotc
      have halive : ∀ b, (s.heap.get? b).isSome → (h'.get? b).isSome := fun b e => by
        by_cases q : b = c
        · subst q; obtain ⟨o', ho', _⟩ := hc'; rw [ho']; rfl
        · rw [hs.2 b q]; exact e
      refine hQ _ ⟨⟨X.ok, fun b o e => (hs.2 b (hne b o (X.baseh b o e))).trans (X.base b o e), ⟨m, hn.sameBut hs hLc, fun y w a b => ?_⟩, fun y w a b => ?_, fun a o hm => (X.own a o hm).same hs hoc hnotc hbc, fun b hb => halive b (X.dal b hb)⟩,
        fun b o e => (hs.2 b (hne b o e)).trans (X.keep b o e), X.baseh, X.newL, fun y e => ?_, fun y c' e => ?_, X.cellsApart, X.ownNew, X.dold, X.apart⟩
        ⟨fun b o e _ h2 _ => (hs.2 b (fun q => h2 x (by rw [q]; exact c1))).trans e, fun b e => ?_, fun _ _ e => e, rfl, rfl⟩ hv'
      · have q : y ≠ x := by rintro rfl; rw [hx] at b; cases b
        rw [lookup_cons_ne q] at a
        obtain ⟨w', e1, e2⟩ := hvs y w a b
        exact ⟨w', e1, e2.same hs hoc hnotc⟩
      · by_cases q : y = x
        · subst q; rw [lookup_cons_self] at a; cases a; exact ⟨c, val, c1, hc', hv'⟩
        · rw [lookup_cons_ne q] at a
          obtain ⟨c', w', e1, e2, e3⟩ := X.cel y w a b
          have : c' ≠ c := fun z => q (X.cellsApart x y c (hsame ▸ hx) c1 (z ▸ e1))
          exact ⟨c', w', e1, e2.sameBut hs this, e3.same hs hoc hnotc⟩
      · by_cases q : y = x
        · subst q; exact ⟨c, _, c1, c2, hc'⟩
        · obtain ⟨c', w, a1, a2, a3⟩ := X.cells y e
          have : c' ≠ c := fun z => q (X.cellsApart x y c (hsame ▸ hx) c1 (z ▸ a1))
          exact ⟨c', w, a1, a2, a3.sameBut hs this⟩
      · by_cases q : c' = c
        · subst q; exact ⟨_, hc'⟩
        · obtain ⟨w, a3⟩ := X.cellsAll y c' e
          exact ⟨w, a3.sameBut hs q⟩
      · exact halive b e
    | _ => cases hl

theorem Xs.nil (h : P .next σ μ) : Xs Γ k sc σ μ [] P :=
  fun A n F h₀ s Q E _ _ X hQ => wpR_execs_nil (hQ .next σ μ _ s h X (Sp.refl F μ s) rfl)

theorem Xs.cons {st : Stmt} {rest : List Stmt} (h : X1 Γ k sc σ μ st (fun fl σ' μ' => match fl with | .next => Xs Γ k sc σ' μ' rest P | fl => P fl σ' μ')) : Xs Γ k sc σ μ (st :: rest) P := by
  intro A n F h₀ s Q E hn hA X hQ
  refine wpR_execs_cons (h A n F h₀ s _ _ hn hA X fun fl σ' μ' f s' hP X' sp hf => ?_)
  cases fl with
  | next =>
    have : f = .next := hf
    subst this
    exact hP A n F h₀ s' _ _ hn hA X' fun fl2 σ2 μ2 f2 s2 hP2 X2 sp2 hf2 => hQ fl2 σ2 μ2 f2 s2 hP2 X2 (sp.trans sp2) hf2
  | brk => have : f = .brk := hf; subst this; exact hQ _ _ _ _ _ hP X' sp rfl
  | cont => have : f = .cont := hf; subst this; exact hQ _ _ _ _ _ hP X' sp rfl
  | ret v =>
    obtain ⟨val, rfl, hv⟩ := hf
    exact hQ _ _ _ _ _ hP X' sp ⟨val, rfl, hv⟩

theorem St.less {σ' : Loc} (X : St Γ sc F σ μ s) (h : ∀ x v, σ'.lookup x = some v → σ.lookup x = some v) : St Γ sc F σ' μ s :=
  { X with
    ns := let ⟨m, hn, hv⟩ := X.ns; ⟨m, hn, fun x v a b => hv x v (h x v a) b⟩
    cel := fun x v a b => X.cel x v (h x v a) b }
theorem Ev.less {σ' : Loc} {e : Expr} {v : PV} (h : ∀ x v, σ'.lookup x = some v → σ.lookup x = some v) (he : Ev Γ k sc σ' μ e v) : Ev Γ k sc σ μ e v :=
  fun A n F s Q E hn hA st hQ => he A n F s Q E hn hA (st.less h) hQ
theorem Tr.less {σ' : Loc} {e : Expr} {b : Bool} (h : ∀ x v, σ'.lookup x = some v → σ.lookup x = some v) (he : Tr Γ k sc σ' μ e b) : Tr Γ k sc σ μ e b :=
  fun A n F s Q E hn hA st hQ => he A n F s Q E hn hA (st.less h) hQ
/-- a state that says less (fewer names) -/
theorem Sx.less {σ' : Loc} {cs : Scope} (X : Sx Γ h₀ sc F σ μ s cs) (h : ∀ x v, σ'.lookup x = some v → σ.lookup x = some v) : Sx Γ h₀ sc F σ' μ s cs :=
  { X with
    ns := let ⟨m, hn, hv⟩ := X.ns; ⟨m, hn, fun x v a b => hv x v (h x v a) b⟩
    cel := fun x v a b => X.cel x v (h x v a) b }
theorem Xs.less {σ' : Loc} {sts : List Stmt} (h : ∀ x v, σ'.lookup x = some v → σ.lookup x = some v) (hx : Xs Γ k sc σ' μ sts P) : Xs Γ k sc σ μ sts P :=
  fun A n F h₀ s Q E hn hA X hQ => hx A n F h₀ s Q E hn hA (X.less h) hQ
theorem X1.less {σ' : Loc} {st : Stmt} (h : ∀ x v, σ'.lookup x = some v → σ.lookup x = some v) (hx : X1 Γ k sc σ' μ st P) : X1 Γ k sc σ μ st P :=
  fun A n F h₀ s Q E hn hA X hQ => hx A n F h₀ s Q E hn hA (X.less h) hQ
theorem Xs.mono {P' : Fl → Loc → Own → Prop} {sts : List Stmt} (hx : Xs Γ k sc σ μ sts P') (h : ∀ fl σ' μ', P' fl σ' μ' → P fl σ' μ') : Xs Γ k sc σ μ sts P :=
  fun A n F h₀ s Q E hn hA X hQ => hx A n F h₀ s Q E hn hA X fun fl σ' μ' f s' hP => hQ fl σ' μ' f s' (h _ _ _ hP)
theorem X1.mono {P' : Fl → Loc → Own → Prop} {st : Stmt} (hx : X1 Γ k sc σ μ st P') (h : ∀ fl σ' μ', P' fl σ' μ' → P fl σ' μ') : X1 Γ k sc σ μ st P :=
  fun A n F h₀ s Q E hn hA X hQ => hx A n F h₀ s Q E hn hA X fun fl σ' μ' f s' hP => hQ fl σ' μ' f s' (h _ _ _ hP)

theorem X1.assign {x : Str} {p' : Pos} {e : Expr} {v : PV} (he : Ev Γ k sc σ μ e v) (h : P .next ((x, v) :: σ) μ) (hl : isPlace (sc.names.lookup x) = true := by decide +kernel) (hk : sc.kind = .function := by kernel_rfl)
    (hs : ∀ F : Fm, swapsWith e (some (.Name x p')) pos.line (F.env sc) = pure false := by intro _; kernel_rfl) : X1 Γ k sc σ μ (.Assign [.Name x p'] e pos) P := by
  intro A n F h₀ s Q E hn hA X hQ
  refine wpR_Assign_Name (he A n F s _ _ hn hA X.toSt fun val s₁ g hv => ?_) (hs F)
  exact toR ((X.grow g).store hv hl hk fun s₂ X₂ sp₂ _ => hQ .next _ μ _ s₂ h X₂ ((Sp.gr g).trans sp₂) rfl)

theorem X1.aug {x : Str} {p' : Pos} {op : Operator} {e : Expr} {a b c : PV} (ha : σ.lookup x = some a) (he : Ev Γ k sc σ μ e b) (ho : Op2 Γ (inplaceOp op) a b c) (h : P .next ((x, c) :: σ) μ)
    (hl : isPlace (sc.names.lookup x) = true := by decide +kernel) (hk : sc.kind = .function := by kernel_rfl) (hd : (x == ("__debug__" : Str)) = false := by decide +kernel) (hc : (x == ("__classdict__" : Str)) = false := by decide +kernel) :
    X1 Γ k sc σ μ (.AugAssign (.Name x p') op e pos) P := by
  intro A n F h₀ s Q E hn hA X hQ
  refine wpR_AugAssign_Name ?_
  have hld : ∀ (Q' : Value → Shared → Prop), (∀ val, V (Dm F μ) s.heap a val → Q' val s) → wpR Γ.M A (loadName (F.env sc) x) Q' E s := by
    intro Q' hq
    cases hx : sc.names.lookup x with
    | none => rw [hx] at hl; cases hl
    | some kd =>
      rw [hx] at hl
      have hkd : (F.env sc).kindOf x = some kd := hx
      cases kd with
      | «local» =>
        obtain ⟨m, hm, hv⟩ := X.ns
        obtain ⟨val, e, ev⟩ := hv x a ha hx
        exact toR (wpAny_loadName_local (env := F.env sc) hk hkd hm e (hq _ ev))
      | cell =>
        obtain ⟨c, val, e1, e2, e3⟩ := X.cel x a ha (.inl hx)
        exact toR (wpAny_loadName_cell (env := F.env sc) hk hkd e1 e2 (hq _ e3))
      | _ => cases hl
  refine hld _ fun va hva => he A n F s _ _ hn hA X.toSt fun vb s₁ g hvb => ?_
  refine toR (ho A n _ s₁ va vb _ _ (by omega) hA X.ok (X.grow g).base (hva.grow g.keep) hvb (X.grow g).toSt.dom fun vc s₂ g₂ hvc => ?_)
  exact toR (((X.grow g).grow g₂).store hvc hl hk fun s₃ X₃ sp₃ _ => hQ .next _ μ _ s₃ h X₃ ((Sp.gr (g.trans g₂)).trans sp₃) rfl)

theorem X1.ite {t : Expr} {body orelse : List Stmt} {c : Bool} (ht : Tr Γ k sc σ μ t c) (h1 : c = true → Xs Γ k sc σ μ body P) (h2 : c = false → Xs Γ k sc σ μ orelse P) : X1 Γ k sc σ μ (.If t body orelse pos) P := by
  intro A n F h₀ s Q E hn hA X hQ
  refine wpR_If (ht A n F s _ _ hn hA X.toSt fun s₁ g => ?_)
  cases c with
  | true => exact h1 rfl A n F h₀ s₁ _ _ hn hA (X.grow g) fun fl σ' μ' f s' hP X' sp hf => hQ fl σ' μ' f s' hP X' ((Sp.gr g).trans sp) hf
  | false => exact h2 rfl A n F h₀ s₁ _ _ hn hA (X.grow g) fun fl σ' μ' f s' hP X' sp hf => hQ fl σ' μ' f s' hP X' ((Sp.gr g).trans sp) hf

theorem X1.ret {e : Expr} {v : PV} (he : Ev Γ k sc σ μ e v) (h : P (.ret v) σ μ) : X1 Γ k sc σ μ (.Return (some e) pos) P := by
  intro A n F h₀ s Q E hn hA X hQ
  exact wpR_Return_some (he A n F s _ _ hn hA X.toSt fun val s₁ g hv => hQ (.ret v) σ μ _ s₁ h (X.grow g) (Sp.gr g) ⟨val, rfl, hv⟩)
theorem X1.brk (h : P .brk σ μ) : X1 Γ k sc σ μ (.Break pos) P :=
  fun A n F h₀ s Q E hn hA X hQ => toR (wpAny_Break (hQ .brk σ μ _ s h X (Sp.refl F μ s) rfl))

/-! ### while -/
def Wh (Γ : Cx) (k : Nat) (sc : Scope) (σ : Loc) (μ : Own) (test : Expr) (body orelse : List Stmt) (P : Fl → Loc → Own → Prop) : Prop :=
  ∀ (A : Around) (n : Nat) (F : Fm) (h₀ : Heap) (s : Shared) (R : Result → Shared → Prop), n + k ≤ 8 → Lv n A → Sx Γ h₀ sc F σ μ s →
    (∀ fl σ' μ' f s', P fl σ' μ' → Sx Γ h₀ sc F σ' μ' s' → Sp F μ μ' s s' → FlV (Dm F μ') s'.heap fl f → R (.ok f) s') → codeR Γ.M A (.whileLoop test body orelse (F.env sc)) R s
theorem X1.while {t : Expr} {body orelse : List Stmt} (h : Wh Γ k sc σ μ t body orelse P) : X1 Γ k sc σ μ (.While t body orelse pos) P := by
  intro A n F h₀ s Q E hn hA X hQ
  exact wpR_While (h A n F h₀ s _ hn hA X fun fl σ' μ' f s' hP X' sp hf => hQ fl σ' μ' f s' hP X' sp hf)
theorem Wh.step {t : Expr} {body orelse : List Stmt} {c : Bool} (ht : Tr Γ k sc σ μ t c)
    (h1 : c = true → Xs Γ k sc σ μ body (fun fl σ' μ' => match fl with | .next | .cont => Wh Γ k sc σ' μ' t body orelse P | .brk => P .next σ' μ' | .ret v => P (.ret v) σ' μ'))
    (h2 : c = false → Xs Γ k sc σ μ orelse P) : Wh Γ k sc σ μ t body orelse P := by
  intro A n F h₀ s R hn hA X hR
  refine codeR_while1 (ht A n F s _ _ hn hA X.toSt fun s₁ g => ?_)
  cases c with
  | true =>
    refine h1 rfl A n F h₀ s₁ _ _ hn hA (X.grow g) fun fl σ' μ' f s' hP X' sp hf => ?_
    have sp' := (Sp.gr g).trans sp
    cases fl with
    | next => have : f = .next := hf; subst this; exact hP A n F h₀ s' R hn hA X' fun fl2 σ2 μ2 f2 s2 hP2 X2 sp2 hf2 => hR fl2 σ2 μ2 f2 s2 hP2 X2 (sp'.trans sp2) hf2
    | cont => have : f = .cont := hf; subst this; exact hP A n F h₀ s' R hn hA X' fun fl2 σ2 μ2 f2 s2 hP2 X2 sp2 hf2 => hR fl2 σ2 μ2 f2 s2 hP2 X2 (sp'.trans sp2) hf2
    | brk => have : f = .brk := hf; subst this; exact hR .next σ' μ' _ s' hP X' sp' rfl
    | ret v => obtain ⟨val, rfl, hv⟩ := hf; exact hR (.ret v) σ' μ' _ s' hP X' sp' ⟨val, rfl, hv⟩
  | false => exact h2 rfl A n F h₀ s₁ _ _ hn hA (X.grow g) fun fl σ' μ' f s' hP X' sp hf => hR fl σ' μ' f s' hP X' ((Sp.gr g).trans sp) hf
theorem Wh.less {σ' : Loc} {t : Expr} {body orelse : List Stmt} (h : ∀ x v, σ'.lookup x = some v → σ.lookup x = some v) (hx : Wh Γ k sc σ' μ t body orelse P) : Wh Γ k sc σ μ t body orelse P :=
  fun A n F h₀ s R hn hA X hR => hx A n F h₀ s R hn hA (X.less h) hR
end
end Mine

namespace Mine

/-! ## calls -/

def KeepOk (Γ : Cx) (f : Value) : Prop := ∀ h, Kp Γ.B h → ∃ k, (k = Keeper.frame ∨ k = Keeper.machine ∨ k = Keeper.boundFrame) ∧ Looks Γ.M h (keeperOf f) k

theorem KeepOk.builtin {Γ : Cx} {id : String} : KeepOk Γ (.builtin id) := fun h _ => ⟨.machine, .inr (.inl rfl), Looks.of_pure rfl⟩
theorem KeepOk.type {Γ : Cx} {id : String} : KeepOk Γ (.type id) := fun h _ => ⟨.machine, .inr (.inl rfl), Looks.of_pure rfl⟩
theorem KeepOk.fn {Γ : Cx} {a : Addr} {o : Obj} {fd : FuncData} (ho : Γ.B.get? a = some o) (hd : o.data = .func fd) : KeepOk Γ (.ref a) := fun h hk =>
  ⟨.frame, .inl rfl, by
    obtain ⟨c, d, dt, sl⟩ := o
    simp only at hd
    subst hd
    exact (Looks.ld (part := none) (hk a _ ho)).andThen Looks.now⟩

theorem starEach_plain_any {env : Env} {pos : Pos} : ∀ (es : List Expr), es.any isStarred = false → (backTo pos (starEach es env)).any (·.1) = false
  | [], _ => rfl
  | e :: es, h => by
    rw [List.any_cons, Bool.or_eq_false_iff] at h
    have ih := starEach_plain_any (env := env) (pos := pos) es h.2
    have he := h.1
    cases e with
    | Starred v p => cases he
    | _ => exact ih

section
variable {Γ : Cx} {k : Nat} {sc : Scope} {σ : Loc} {μ : Own} {pos : Pos}

theorem Ev.call {x : Str} {p : Pos} {args : List Expr} {f : Value} {vs : List PV} {r : PV} (hf : Ev Γ k sc σ μ (.Name x p) (.obj f)) (hkp : KeepOk Γ f) (ha : Es Γ k sc σ μ pos args vs) (hc : CallOk Γ k f vs r)
    (hp : args.any isStarred = false := by kernel_rfl) : Ev Γ k sc σ μ (.Call (.Name x p) args [] pos) r := by
  intro A n F s Q E hn hA st hQ
  refine wpR_CallName (hf A n F s _ _ hn hA st fun fv s₁ g₁ hfv => ?_)
  rw [V_obj] at hfv; subst hfv
  refine wpR_callWith (P := fun h => Kp Γ.B h) (starEach_plain_any args hp) hkp ?_
  refine wpR_evalArgs hp (ha A n F s₁ _ _ hn hA (st.grow g₁) fun vals s₂ g₂ hvs => ?_)
  have st₂ := (st.grow g₁).grow g₂
  refine ⟨st₂.base, ?_⟩
  show wpR _ _ (PySem.call fv ([] ++ vals) []) Q E s₂
  exact hc A n (Dm F μ) s₂ vals Q E hn hA st.ok st₂.base hvs st₂.dom fun val s₃ g₃ hv => hQ val s₃ ((g₁.trans g₂).trans g₃) hv

theorem Lv.deeper {n : Nat} {A : Around} {env : Env} (h : Lv n A) : Lv (n + 1) (A.deeper env) :=
  ⟨h.handled, by have := h.depth; show A.depth + 1 ≤ _; omega, by have := h.units; show A.units + 3 ≤ _; omega, h.guards⟩

theorem lookup_zip_V {D : Addr → Prop} {h : Heap} : ∀ (names : List Str) (args : List PV) (vals : List Value) (x : Str) (v : PV), names.Nodup → Vs D h args vals → (names.zip args).lookup x = some v →
    ∃ val, (names.zip vals).reverse.lookup x = some val ∧ V D h v val := by
  intro names args vals x v hnd hvs hl
  have key : ∀ (names : List Str) (args : List PV) (vals : List Value), Vs D h args vals → (names.zip args).lookup x = some v → ∃ val, (names.zip vals).lookup x = some val ∧ V D h v val := by
    intro names
    induction names with
    | nil => intro args vals _ hl; simp at hl
    | cons y ys ih =>
      intro args vals hvs hl
      cases args with
      | nil => simp at hl
      | cons a as =>
        rw [Vs_cons] at hvs
        obtain ⟨w, r, rfl, h1, h2⟩ := hvs
        rw [List.zip_cons_cons, List.lookup_cons] at hl ⊢
        cases hxy : (x == y) with
        | true => rw [hxy] at hl; simp at hl; subst hl; exact ⟨w, rfl, h1⟩
        | false => rw [hxy] at hl; exact ih as r h2 hl
  obtain ⟨val, h1, h2⟩ := key names args vals hvs hl
  refine ⟨val, ?_, h2⟩
  have rev : ∀ (l : List (Str × Value)), (l.map (·.1)).Nodup → l.reverse.lookup x = l.lookup x := by
    intro l
    induction l with
    | nil => intro _; rfl
    | cons p l ih =>
      intro hn
      obtain ⟨a, b⟩ := p
      simp only [List.map_cons, List.nodup_cons] at hn
      rw [List.reverse_cons, List.lookup_append, ih hn.2, List.lookup_cons]
      cases hxa : (x == a) with
      | true =>
        have hx := beq_iff_eq.mp hxa
        subst hx
        have : l.lookup x = none := by
          rw [List.lookup_eq_none_iff]
          intro p hp
          have : p.1 ≠ x := fun q => hn.1 (List.mem_map.mpr ⟨p, hp, q⟩)
          exact beq_eq_false_iff_ne.mpr this.symm |> fun h => by simpa using h
        rw [this, List.lookup_cons]; simp
      | false =>
        rw [List.lookup_cons, hxa]; simp
  rw [rev _ ?_]
  · exact h1
  · have : ∀ (ns : List Str) (vs : List Value), ((ns.zip vs).map (·.1)).Sublist ns := by
      intro ns
      induction ns with
      | nil => intro vs; simp
      | cons n ns ih =>
        intro vs
        cases vs with
        | nil => simp
        | cons v vs => simpa using ih vs
    exact hnd.sublist (this _ _)

/-- a call of a plain def of the text -/
theorem CallOk.fn {a : Addr} {o : Obj} {name : Str} {params : Arguments} {body : List Stmt} {scope : Scope} {pm cd doc : Value} {args : List PV} {r : PV}
    (ho : Γ.B.get? a = some o) (hd : o.data = .func (docDef name params body scope pm cd doc)) (hcd : Γ.B.CodeRec cd name)
    (hbind : ∀ vals : List Value, vals.length = args.length → bindArgs (docDef name params body scope pm cd doc) ⟨vals, []⟩ = pure ((params.args.map (·.arg)).zip vals))
    (hbody : Xs Γ k scope ((params.args.map (·.arg)).zip args) [] body (fun fl _ μ' => fl = .ret r))
    (hnd : (params.args.map (·.arg)).Nodup := by decide +kernel)
    (hloc : (params.args.map (·.arg)).all (fun x => decide (scope.names.lookup x = some .local)) = true := by decide +kernel)
    (hco : scope.isCoroutine = false := by kernel_rfl) (hgen : scope.isGenerator = false := by kernel_rfl) (hk : scope.kind = .function := by kernel_rfl)
    (hcell : (scope.names.all fun x => decide (x.2 ≠ .cell)) = true := by decide +kernel) : CallOk Γ (k + 1) (.ref a) args r := by
  intro A n D s vals Q E hn hA ok hB hvs hD hQ
  have hcell' : ∀ x ∈ scope.names, x.2 ≠ .cell := fun x hx => of_decide_eq_true (List.all_eq_true.mp hcell x hx)
  have hlen := hvs.length
  refine wpR_call (codeR_call_plain (binds := (params.args.map (·.arg)).zip vals) (by have := hA.depth; show _ < 1000; omega) (hB a o ho) hd (ok.nolimit.keeps hB) (hcd.keeps hB) (hbind vals hlen) ?_ (fun h₁ F₁ => ?_) hco hgen hk hcell')
  · intro x hx
    have := List.of_mem_zip hx
    exact of_decide_eq_true (List.all_eq_true.mp hloc x.1 this.1)
  · let F : Fm := ⟨s.heap.objs.size, [], name ++ ".<locals>.", some a, cd, some s.heap.objs.size, D⟩
    have hkeep : Kp s.heap h₁ := F₁.keep
    have hL : s.heap.get? s.heap.objs.size = none := by
      cases q : s.heap.get? s.heap.objs.size with
      | none => rfl
      | some o' => exact absurd (Heap.lt_size q) (Nat.lt_irrefl _)
    have X : Sx Γ s.heap scope F ((params.args.map (·.arg)).zip args) [] { s with heap := h₁, toks := s.toks + ((params.args.map (·.arg)).zip vals).length } := by
      have hvs' : Vs (Dm F []) h₁ args vals := (hvs.grow hkeep).less fun b o _ hb => by
        rcases hb with hb | hb
        · exact hb
        · simp at hb
      refine ⟨⟨ok, hB.trans hkeep, ⟨_, F₁.ns, fun x v h1 h2 => lookup_zip_V _ _ _ x v hnd hvs' h1⟩, fun x v h1 h2 => ?_, fun _ _ hm => (nomatch hm), fun b hb => hkeep.alive b (hD b hb)⟩,
        hkeep, hB, hL, fun x hx => ?_, fun x c h1 => (nomatch h1), fun x y c _ h1 => (nomatch h1), fun b hb => (nomatch hb), hD, List.nodup_nil⟩
      · exfalso
        have hx : x ∈ (params.args.map (·.arg)) := by
          obtain ⟨⟨a', b'⟩, hm, he⟩ : ∃ p ∈ (params.args.map (·.arg)).zip args, p.1 = x := by
            have := List.lookup_isSome_iff.mp (show (((params.args.map (·.arg)).zip args).lookup x).isSome from by rw [h1]; rfl)
            obtain ⟨p, hp, hpx⟩ := this
            exact ⟨p, hp, (beq_iff_eq.mp hpx).symm⟩
          have := List.of_mem_zip hm
          simp only at he; subst he; exact this.1
        have := of_decide_eq_true (List.all_eq_true.mp hloc x hx)
        rw [this] at h2
        rcases h2 with h2 | h2 <;> cases h2
      · exfalso
        have hm : (x, NameKind.cell) ∈ scope.names := by
          have := List.lookup_eq_some_iff.mp hx
          obtain ⟨l₁, l₂, he, _⟩ := this
          rw [he]; simp
        exact hcell' _ hm rfl
    refine hbody (A.deeper (F.env scope)) (n + 1) F s.heap _ _ _ (by omega) hA.deeper X fun fl σ' μ' f s' hP X' sp hf => ?_
    subst hP
    obtain ⟨val, rfl, hv⟩ := hf
    refine hQ val s' ⟨X'.keep, sp.gens, sp.os⟩ (hv.less fun b o _ hb => .inl hb)
end
end Mine

namespace Mine

/-! ## iteration -/

def isTupE : Expr → Bool
  | .Tuple _ _ _ => true
  | _ => false
/-- an iterator; nd: its target must be a tuple -/
structure Iter (Γ : Cx) (A : Around) (it : Addr) (wr : List Addr) (J : (Addr → Prop) → List PV → Heap → Prop) (nd : Bool := false) : Prop where
  move : ∀ D D' xs h h', (∀ b o, h.get? b = some o → DataOk o.data → (¬ D b ∨ o.cls = .type "tuple" ∨ o.cls = .type "range") → h'.get? b = some o) → (∀ b o, h.get? b = some o → D' b → D b) → J D xs h → J D' xs h'
  wrs : ∀ D xs h, J D xs h → ∀ b ∈ wr, ¬ D b ∧ ∃ o vs, h.get? b = some o ∧ o.data = .fields vs ∧ o.cls ≠ .type "range"
  item : ∀ (D : Addr → Prop) x xs (s : Shared) target (Q : Value → Shared → Prop) (E : Value → Shared → Prop), J D (x :: xs) s.heap → (∀ b, D b → (s.heap.get? b).isSome) → (nd = true → isTupE target = true) →
    (∀ v h' tk, V D h' x v → J D xs h' → (∀ b o, b ∉ wr → s.heap.get? b = some o → h'.get? b = some o) → Q v { s with heap := h', toks := tk }) →
    wpAny Γ.M A (pyNext (.ref it)) (fun r s₁ => match r with | some v => wpAny Γ.M A (letOwnedTupleGo target (.ref it) v) (fun _ s₂ => Q v s₂) E s₁ | none => False) E s
  done : ∀ D (s : Shared) (Q : Shared → Prop) (E : Value → Shared → Prop), J D [] s.heap →
    (∀ h' tk, (∀ b o, b ∉ wr → s.heap.get? b = some o → h'.get? b = some o) → Q { s with heap := h', toks := tk }) → wpAny Γ.M A (pyNext (.ref it)) (fun r s₁ => r = none ∧ Q s₁) E s
  self : ∀ D xs (s : Shared) (Q : Value → Shared → Prop) (E : Value → Shared → Prop), J D xs s.heap → Q (.ref it) s → wpAny Γ.M A (pyIter (.ref it)) Q E s

def IterOk (Γ : Cx) (p : PV) (xs : List PV) : Prop :=
  ∀ (A : Around) (n : Nat) (D : Addr → Prop) (s : Shared) (v : Value) (Q : Value → Shared → Prop) (E : Value → Shared → Prop), n ≤ 8 → Lv n A → Kp Γ.B s.heap → V D s.heap p v → (∀ b, D b → (s.heap.get? b).isSome) →
    (∀ it wr J s', Iter Γ A it wr J → J D xs s'.heap → Gr s s' → (∀ b ∈ wr, s.heap.get? b = none) → Q (.ref it) s') → wpAny Γ.M A (pyIter v) Q E s

theorem letOwned_other {M : Model} {A : Around} {E : Value → Shared → Prop} {s : Shared} {target : Expr} {it : Addr} {v : Value} {o : Obj} {n : String} {vs : Array Value} {Q : Unit → Shared → Prop}
    (ho : s.heap.get? it = some o) (hc : o.cls = .type n) (hd : o.data = .fields vs)
    (hn : ["enumerate", "zip", "dict_itemiterator", "dict_reverseitemiterator", "odict_iterator", "itertools.zip_longest", "itertools.pairwise"].contains n = false) (h : Q () s) :
    wpAny M A (letOwnedTupleGo target (.ref it) v) Q E s := by
  have key : ∀ a, wpAny M A (do
      let o ← load it
      match o.cls, o.data with
      | .type n, .fields vs =>
        if ["enumerate", "zip", "dict_itemiterator", "dict_reverseitemiterator", "odict_iterator", "itertools.zip_longest", "itertools.pairwise"].contains n && vs[0]? == some (rawInt a) then
          rule "for.unpacks-the-owned-tuple"
          updateField it 0 .none
      | _, _ => pure ()) Q E s := by
    intro a
    refine wpAny_bind (wpAny_load ho ?_)
    rw [hc, hd]
    dsimp only
    rw [hn]
    exact wpAny_pure h
  unfold letOwnedTupleGo
  split
  · cases v with
    | ref a => exact key a
    | _ => exact wpAny_pure h
  · cases v with
    | ref a => exact key a
    | _ => exact wpAny_pure h
  · exact wpAny_pure h

def JList (it : Addr) (D : Addr → Prop) (xs : List PV) (h : Heap) : Prop :=
  ∃ l i items, ¬ D it ∧ ¬ D l ∧ l ≠ it ∧ h.IsListIter it l i ∧ h.IsList l items ∧ Vs D h xs (items.toList.drop i)
def JTup (it : Addr) (D : Addr → Prop) (xs : List PV) (h : Heap) : Prop :=
  ∃ l i items, ¬ D it ∧ l ≠ it ∧ h.IsTupleIter it l i ∧ h.IsTuple l items ∧ Vs D h xs (items.toList.drop i)
def rngItems (a c : Int) : Nat → List PV
  | 0 => []
  | n + 1 => .int a :: rngItems (a + c) c n
def JRng (it : Addr) (D : Addr → Prop) (xs : List PV) (h : Heap) : Prop :=
  ∃ a c n, ¬ D it ∧ IsRangeIter h it a ((n : Nat) : Int) c ∧ xs = rngItems a c n

theorem Vs.move' {D D' : Addr → Prop} {h h' : Heap}
    (hk : ∀ b o, h.get? b = some o → DataOk o.data → (¬ D b ∨ o.cls = .type "tuple" ∨ o.cls = .type "range") → h'.get? b = some o)
    (hD : ∀ b o, h.get? b = some o → D' b → D b) {xs : List PV} {vs : List Value} (e : Vs D h xs vs) : Vs D' h' xs vs :=
  Vs.move (fun b o hb hn => hk b o hb hn.ok.1 hn.ok.2) hD e

theorem dropStep {xs : List PV} {x : PV} {items : Array Value} {i : Nat} {D : Addr → Prop} {h : Heap} (e : Vs D h (x :: xs) (items.toList.drop i)) :
    ∃ v, items[i]? = some v ∧ V D h x v ∧ Vs D h xs (items.toList.drop (i + 1)) := by
  rw [Vs_cons] at e
  obtain ⟨v, r, h1, h2, h3⟩ := e
  refine ⟨v, ?_, h2, ?_⟩
  · have : (items.toList.drop i)[0]? = some v := by rw [h1]; rfl
    rw [List.getElem?_drop] at this
    simpa using this
  · have : items.toList.drop (i + 1) = r := by
      have : (items.toList.drop i).drop 1 = r := by rw [h1]; rfl
      rwa [List.drop_drop] at this
    rw [this]; exact h3
theorem dropEnd {items : Array Value} {i : Nat} {D : Addr → Prop} {h : Heap} (e : Vs D h [] (items.toList.drop i)) : items[i]? = none := by
  rw [Vs_nil] at e
  have : (items.toList.drop i)[0]? = none := by rw [e]; rfl
  rw [List.getElem?_drop] at this
  simpa using this

theorem Iter.list {Γ : Cx} {A : Around} (hh : A.handled = none) (it : Addr) : Iter Γ A it [it] (JList it) where
  move := by
    rintro D D' xs h h' hk hD ⟨l, i, items, h1, h2, h3, h4, h5, h6⟩
    have k1 : ∀ o, h.get? it = some o → h'.get? it = some o := fun o ho => by
      obtain ⟨o', ho', hc, hd⟩ := h4
      rw [ho] at ho'; cases ho'
      exact hk it o ho (by rw [hd]; trivial) (.inl h1)
    have k2 : ∀ o, h.get? l = some o → h'.get? l = some o := fun o ho => by
      obtain ⟨o', ho', hc, n, hd⟩ := h5
      rw [ho] at ho'; cases ho'
      exact hk l o ho (by rw [hd]; trivial) (.inl h2)
    have a1 : ¬ D' it := fun d => by obtain ⟨o', ho', _⟩ := h4; exact h1 (hD it o' ho' d)
    have a2 : ¬ D' l := fun d => by obtain ⟨o', ho', _⟩ := h5; exact h2 (hD l o' ho' d)
    obtain ⟨o, ho, r⟩ := h4
    obtain ⟨ol, hol, rl⟩ := h5
    exact ⟨l, i, items, a1, a2, h3, ⟨o, k1 o ho, r⟩, ⟨ol, k2 ol hol, rl⟩, h6.move' hk hD⟩
  wrs := by
    rintro D xs h ⟨l, i, items, h1, h2, h3, ⟨o, ho, hc, hd⟩, h5, h6⟩ b hb
    rw [List.mem_singleton] at hb; subst hb
    exact ⟨h1, o, _, ho, hd, by rw [hc]; decide⟩
  item := by
    rintro D x xs s target Q E ⟨l, i, items, h1, h2, h3, h4, h5, h6⟩ hal _ hQ
    obtain ⟨v, e1, e2, e3⟩ := dropStep h6
    refine wpAny_pyNext_list_item h4 h5 e1 fun h' hi' hs' => ?_
    obtain ⟨o, ho, hc, hd⟩ := id h4
    have hk : ∀ b o', s.heap.get? b = some o' → Node D b o' → h'.get? b = some o' := fun b o' hb hn => (hs'.2 b (fun q => by
      subst q; rw [ho] at hb; cases hb
      rcases hn with ⟨_, _, hn, _⟩ | ⟨hn, _⟩
      · rw [hd] at hn; cases hn
      · rw [hc] at hn; exact absurd hn (by decide))).trans hb
    obtain ⟨o2, ho2, hc2, hd2⟩ := id hi'
    refine letOwned_other ho2 hc2 hd2 (by decide) (hQ v h' _ (e2.move hk fun _ _ _ d => d) ⟨l, i + 1, items, h1, h2, h3, hi', ?_, e3.move hk fun _ _ _ d => d⟩ fun b o' hb e => (hs'.2 b (by simpa using hb)).trans e)
    obtain ⟨ol, hol, rl⟩ := h5
    exact ⟨ol, (hs'.2 l h3).trans hol, rl⟩
  done := by
    rintro D s Q E ⟨l, i, items, h1, h2, h3, h4, h5, h6⟩ hQ
    exact wpAny_pyNext_list_end hh h4 h5 (dropEnd h6) fun h' he => ⟨rfl, hQ h' _ fun b o hb e => he b o (by simpa using hb) e⟩
  self := by
    rintro D xs s Q E ⟨l, i, items, h1, h2, h3, h4, h5, h6⟩ hQ
    exact wpAny_pyIter_listiter h4 hQ

theorem Iter.tup {Γ : Cx} {A : Around} (hh : A.handled = none) (it : Addr) : Iter Γ A it [it] (JTup it) where
  move := by
    rintro D D' xs h h' hk hD ⟨l, i, items, h1, h3, h4, h5, h6⟩
    have k1 : ∀ o, h.get? it = some o → h'.get? it = some o := fun o ho => by
      obtain ⟨o', ho', hc, hd⟩ := h4
      rw [ho] at ho'; cases ho'
      exact hk it o ho (by rw [hd]; trivial) (.inl h1)
    have k2 : ∀ o, h.get? l = some o → h'.get? l = some o := fun o ho => by
      obtain ⟨o', ho', hc, n, hd⟩ := h5
      rw [ho] at ho'; cases ho'
      exact hk l o ho (by rw [hd]; trivial) (.inr (.inl hc))
    have a1 : ¬ D' it := fun d => by obtain ⟨o', ho', _⟩ := h4; exact h1 (hD it o' ho' d)
    obtain ⟨o, ho, r⟩ := h4
    obtain ⟨ol, hol, rl⟩ := h5
    exact ⟨l, i, items, a1, h3, ⟨o, k1 o ho, r⟩, ⟨ol, k2 ol hol, rl⟩, h6.move' hk hD⟩
  wrs := by
    rintro D xs h ⟨l, i, items, h1, h3, ⟨o, ho, hc, hd⟩, h5, h6⟩ b hb
    rw [List.mem_singleton] at hb; subst hb
    exact ⟨h1, o, _, ho, hd, by rw [hc]; decide⟩
  item := by
    rintro D x xs s target Q E ⟨l, i, items, h1, h3, h4, h5, h6⟩ hal _ hQ
    obtain ⟨v, e1, e2, e3⟩ := dropStep h6
    refine wpAny_pyNext_tuple_item h4 h5 e1 fun h' hi' hs' => ?_
    obtain ⟨o, ho, hc, hd⟩ := id h4
    have hk : ∀ b o', s.heap.get? b = some o' → Node D b o' → h'.get? b = some o' := fun b o' hb hn => (hs'.2 b (fun q => by
      subst q; rw [ho] at hb; cases hb
      rcases hn with ⟨_, _, hn, _⟩ | ⟨hn, _⟩
      · rw [hd] at hn; cases hn
      · rw [hc] at hn; exact absurd hn (by decide))).trans hb
    obtain ⟨o2, ho2, hc2, hd2⟩ := id hi'
    refine letOwned_other ho2 hc2 hd2 (by decide) (hQ v h' _ (e2.move hk fun _ _ _ d => d) ⟨l, i + 1, items, h1, h3, hi', ?_, e3.move hk fun _ _ _ d => d⟩ fun b o' hb e => (hs'.2 b (by simpa using hb)).trans e)
    obtain ⟨ol, hol, rl⟩ := h5
    exact ⟨ol, (hs'.2 l h3).trans hol, rl⟩
  done := by
    rintro D s Q E ⟨l, i, items, h1, h3, h4, h5, h6⟩ hQ
    exact wpAny_pyNext_tuple_end hh h4 h5 (dropEnd h6) fun h' he => ⟨rfl, hQ h' _ fun b o hb e => he b o (by simpa using hb) e⟩
  self := by
    rintro D xs s Q E ⟨l, i, items, h1, h3, h4, h5, h6⟩ hQ
    exact wpAny_pyIter_tupleiter h4 hQ

theorem Iter.rng {Γ : Cx} {A : Around} (hh : A.handled = none) (it : Addr) : Iter Γ A it [it] (JRng it) where
  move := by
    rintro D D' xs h h' hk hD ⟨a, c, n, h1, h2, h3⟩
    exact ⟨a, c, n, fun d => h1 (hD it _ h2 d), hk it _ h2 trivial (.inl h1), h3⟩
  wrs := by
    rintro D xs h ⟨a, c, n, h1, h2, h3⟩ b hb
    rw [List.mem_singleton] at hb; subst hb
    exact ⟨h1, _, _, h2, rfl, by show Value.type "range_iterator" ≠ Value.type "range"; decide⟩
  item := by
    rintro D x xs s target Q E ⟨a, c, n, h1, h2, h3⟩ hal _ hQ
    cases n with
    | zero => cases h3
    | succ n =>
      cases h3
      refine wpAny_pyNext_range_item h2 (by omega) fun h' hi' hs' => ?_
      refine letOwned_other (n := "range_iterator") hi' rfl rfl (by decide) (hQ _ h' _ (V.int _ _) ⟨a + c, c, n, h1, ?_, rfl⟩ fun b o' hb e => (hs'.2 b (by simpa using hb)).trans e)
      have e : ((n + 1 : Nat) : Int) - 1 = (n : Int) := by omega
      rw [e] at hi'
      exact hi'
  done := by
    rintro D s Q E ⟨a, c, n, h1, h2, h3⟩ hQ
    cases n with
    | zero => exact wpAny_pyNext_range_end hh h2 (by omega) fun h' he => ⟨rfl, hQ h' _ fun b o hb e => he b o (by simpa using hb) e⟩
    | succ n => cases h3
  self := by
    rintro D xs s Q E ⟨a, c, n, h1, h2, h3⟩ hQ
    exact wpAny_pyIter_rangeiter h2 hQ

theorem fresh_addr (h : Heap) : h.get? h.objs.size = none := by
  cases q : h.get? h.objs.size with
  | none => rfl
  | some o' => exact absurd (Heap.lt_size q) (Nat.lt_irrefl _)
theorem not_dom {D : Addr → Prop} {h : Heap} (hD : ∀ b, D b → (h.get? b).isSome) : ¬ D h.objs.size := fun d => by
  have := hD _ d; rw [fresh_addr] at this; cases this

theorem IterOk.lst {Γ : Cx} {xs : List PV} : IterOk Γ (.lst xs) xs := by
  intro A n D s v Q E _ hA hB hv hD hQ
  obtain ⟨l, items, rfl, h1, h2, h3⟩ := V_lst.mp hv
  refine wpAny_pyIter_list h2 (hQ _ _ (JList s.heap.objs.size) _ (Iter.list hA.handled _) ?_ (Gr.heap _ (Kp.push _ _)) fun b hb => by rw [List.mem_singleton] at hb; subst hb; exact fresh_addr _)
  have hlt : l ≠ s.heap.objs.size := by obtain ⟨o, ho, _⟩ := h2; exact Nat.ne_of_lt (Heap.lt_size ho)
  refine ⟨l, 0, items, not_dom hD, h1, hlt, ⟨_, Heap.get?_push_size _ rfl, rfl, rfl⟩, h2.push _, ?_⟩
  simpa using h3.grow (Kp.push _ _)
theorem IterOk.tup {Γ : Cx} {xs : List PV} : IterOk Γ (.tup xs) xs := by
  intro A n D s v Q E _ hA hB hv hD hQ
  obtain ⟨l, items, rfl, h2, h3⟩ := V_tup.mp hv
  have h2' : s.heap.IsTuple l items := h2
  refine wpAny_pyIter_tuple h2' (hQ _ _ (JTup s.heap.objs.size) _ (Iter.tup hA.handled _) ?_ (Gr.heap _ (Kp.push _ _)) fun b hb => by rw [List.mem_singleton] at hb; subst hb; exact fresh_addr _)
  have hlt : l ≠ s.heap.objs.size := by obtain ⟨o, ho, _⟩ := h2; exact Nat.ne_of_lt (Heap.lt_size ho)
  refine ⟨l, 0, items, not_dom hD, hlt, ⟨_, Heap.get?_push_size _ rfl, rfl, rfl⟩, IsTup.keeps h2 (Kp.push _ _), ?_⟩
  simpa using h3.grow (Kp.push _ _)
theorem IterOk.rng {Γ : Cx} {a b c : Int} (hs : Builtin.Range.small a b c = true) (n : Nat) (hn : Builtin.Range.rangeSize a b c = (n : Int)) : IterOk Γ (.rng a b c) (rngItems a c n) := by
  intro A m D s v Q E _ hA hB hv hD hQ
  obtain ⟨r, t, u, z, rfl, h1⟩ := V_rng.mp hv
  refine wpAny_pyIter_range h1 hs (hQ _ _ (JRng s.heap.objs.size) _ (Iter.rng hA.handled _) ?_ (Gr.heap _ (Kp.push _ _)) fun b hb => by rw [List.mem_singleton] at hb; subst hb; exact fresh_addr _)
  refine ⟨a, c, n, not_dom hD, ?_, rfl⟩
  rw [← hn]
  exact Heap.get?_push_size _ rfl

/-! ## for -/

/-- as Sp, but for what an iterator writes -/
structure SpW (F : Fm) (wr : List Addr) (μ μ' : Own) (s s' : Shared) : Prop where
  keep : ∀ b o, b ∉ wr → s.heap.get? b = some o → b ≠ F.L → (∀ x, F.cl.lookup x ≠ some b) → ¬ Dm F μ b → s'.heap.get? b = some o
  alive : ∀ b, b ∉ wr → (s.heap.get? b).isSome → (s'.heap.get? b).isSome
  dom : ∀ b, b ∉ wr → (s.heap.get? b).isSome → Dm F μ' b → Dm F μ b
  gens : s'.gens = s.gens
  os : s'.os = s.os
theorem SpW.trans {F : Fm} {wr : List Addr} {μ μ' μ'' : Own} {s s' s'' : Shared} (a : SpW F wr μ μ' s s') (b : SpW F wr μ' μ'' s' s'') : SpW F wr μ μ'' s s'' where
  keep := fun x o hw e h1 h2 h3 => b.keep x o hw (a.keep x o hw e h1 h2 h3) h1 h2 fun d => h3 (a.dom x hw (by rw [e]; rfl) d)
  alive := fun x hw e => b.alive x hw (a.alive x hw e)
  dom := fun x hw e d => a.dom x hw e (b.dom x hw (a.alive x hw e) d)
  gens := b.gens.trans a.gens
  os := b.os.trans a.os
theorem Sp.toW {F : Fm} {wr : List Addr} {μ μ' : Own} {s s' : Shared} (a : Sp F μ μ' s s') : SpW F wr μ μ' s s' :=
  ⟨fun b o _ e h1 h2 h3 => a.keep b o e h1 h2 h3, fun b _ e => a.alive b e, fun b _ e d => a.dom b e d, a.gens, a.os⟩
theorem SpW.wr {F : Fm} {wr : List Addr} {μ : Own} {s : Shared} {h' : Heap} {tk : Nat} (hk : ∀ b o, b ∉ wr → s.heap.get? b = some o → h'.get? b = some o) : SpW F wr μ μ s { s with heap := h', toks := tk } :=
  ⟨fun b o hw e _ _ _ => hk b o hw e, fun b hw e => by obtain ⟨o, ho⟩ := Option.isSome_iff_exists.mp e; show (h'.get? b).isSome; rw [hk b o hw ho]; rfl, fun _ _ _ d => d, rfl, rfl⟩

section
variable {Γ : Cx} {k : Nat} {sc : Scope} {σ : Loc} {μ : Own} {pos : Pos} {P : Fl → Loc → Own → Prop} {F : Fm} {h₀ : Heap} {s : Shared}

/-- what a statement keeps for trees and iterators -/
theorem Sx.hk {σ' : Loc} {μ' : Own} {s' : Shared} {cs : Scope} (X : Sx Γ h₀ sc F σ μ s cs) (X' : Sx Γ h₀ sc F σ' μ' s' cs) (sp : Sp F μ μ' s s') :
    ∀ b o, s.heap.get? b = some o → DataOk o.data → (¬ Dm F μ b ∨ o.cls = .type "tuple" ∨ o.cls = .type "range") → s'.heap.get? b = some o := by
  intro b o hb hd hc
  by_cases hFD : F.D b
  · obtain ⟨o', ho'⟩ := Option.isSome_iff_exists.mp (X.dold b hFD)
    have := X.keep b o' ho'
    rw [hb] at this; cases this
    exact X'.keep b o ho'
  · have hn : ¬ Dm F μ b := by
      rcases hc with hc | hc
      · exact hc
      · rintro (q | q)
        · exact hFD q
        · obtain ⟨p, hp, rfl⟩ := List.mem_map.mp q
          have := X.own p.1 p.2 hp
          cases hq : p.2 with
          | list xs =>
            rw [hq] at this; obtain ⟨items, n, ho', _⟩ := this
            rw [hb] at ho'; cases ho'
            dsimp only at hc; rcases hc with hc | hc <;> exact absurd hc (by decide)
          | barr l =>
            rw [hq] at this
            have ho' : s.heap.get? p.1 = some { cls := .type "bytearray", data := .bytearray l.toArray } := this
            rw [hb] at ho'; cases ho'
            dsimp only at hc; rcases hc with hc | hc <;> exact absurd hc (by decide)
    refine sp.keep b o hb (fun q => ?_) (fun x q => ?_) hn
    · obtain ⟨m, ⟨oL, es, ep, hoL, hdL, _⟩, _⟩ := X.ns
      rw [q, hoL] at hb; cases hb; rw [hdL] at hd; exact hd
    · obtain ⟨v, oc, hoc, hdc⟩ := X.cellsAll x b q
      rw [hoc] at hb; cases hb; rw [hdc] at hd; exact hd
theorem Sx.step {σ' : Loc} {μ' : Own} {s' : Shared} {cs : Scope} (X : Sx Γ h₀ sc F σ μ s cs) (X' : Sx Γ h₀ sc F σ' μ' s' cs) (sp : Sp F μ μ' s s') {x : PV} {v : Value} (hv : V (Dm F μ) s.heap x v) : V (Dm F μ') s'.heap x v :=
  hv.move (fun b o hb hn => X.hk X' sp b o hb hn.ok.1 hn.ok.2) fun b o hb d => sp.dom b (by rw [hb]; rfl) d

/-- what an iterator's step leaves -/
theorem Sx.wr {wr : List Addr} {h' : Heap} {tk : Nat} {cs : Scope} (X : Sx Γ h₀ sc F σ μ s cs) (hk : ∀ b o, b ∉ wr → s.heap.get? b = some o → h'.get? b = some o)
    (hw : ∀ b ∈ wr, ¬ Dm F μ b ∧ ∃ o vs, s.heap.get? b = some o ∧ o.data = .fields vs ∧ o.cls ≠ .type "range") (hn : ∀ b ∈ wr, h₀.get? b = none) : Sx Γ h₀ sc F σ μ { s with heap := h', toks := tk } cs := by
  have hnode : ∀ b o, s.heap.get? b = some o → Node (Dm F μ) b o → h'.get? b = some o := fun b o hb hn => hk b o (fun q => by
    obtain ⟨_, o', vs, ho', hd', hc'⟩ := hw b q
    rw [hb] at ho'; cases ho'
    rcases hn with ⟨_, _, hn, _⟩ | ⟨hn, _⟩
    · rw [hd'] at hn; cases hn
    · exact hc' hn) hb
  have hv : ∀ {x v}, V (Dm F μ) s.heap x v → V (Dm F μ) h' x v := fun e => e.move hnode fun _ _ _ d => d
  have hvs : ∀ {x v}, Vs (Dm F μ) s.heap x v → Vs (Dm F μ) h' x v := fun e => e.move hnode fun _ _ _ d => d
  have hold : ∀ b o, h₀.get? b = some o → h'.get? b = some o := fun b o e => hk b o (fun q => by rw [hn b q] at e; cases e) (X.keep b o e)
  have hcell : ∀ c v, s.heap.IsCell c v → h'.IsCell c v := fun c v ⟨o, ho, hd⟩ => ⟨o, hk c o (fun q => by
    obtain ⟨_, o', vs, ho', hd', _⟩ := hw c q
    rw [ho] at ho'; cases ho'; rw [hd] at hd'; cases hd') ho, hd⟩
  obtain ⟨m, hm, hmv⟩ := X.ns
  have hm' : h'.Ns F.L m := by
    obtain ⟨o, es, ep, ho, hd, r⟩ := hm
    exact ⟨o, es, ep, hk _ o (fun q => by
      obtain ⟨_, o', vs, ho', hd', _⟩ := hw _ q
      rw [ho] at ho'; cases ho'; rw [hd] at hd'; cases hd') ho, hd, r⟩
  refine ⟨⟨X.ok, fun b o e => hold b o (X.baseh b o e), ⟨m, hm', fun x v a b => let ⟨val, e1, e2⟩ := hmv x v a b; ⟨val, e1, hv e2⟩⟩, fun x v a b => let ⟨c, val, e1, e2, e3⟩ := X.cel x v a b; ⟨c, val, e1, hcell _ _ e2, hv e3⟩, fun a o hm => ?_, fun b hb => ?_⟩,
    hold, X.baseh, X.newL, fun x e => let ⟨c, v, a1, a2, a3⟩ := X.cells x e; ⟨c, v, a1, a2, hcell _ _ a3⟩, fun x c e => let ⟨v, a3⟩ := X.cellsAll x c e; ⟨v, hcell _ _ a3⟩, X.cellsApart, X.ownNew, X.dold, X.apart⟩
  · have hnw : a ∉ wr := fun q => (hw a q).1 (.inr (List.mem_map.mpr ⟨_, hm, rfl⟩))
    have := X.own a o hm
    cases o with
    | list xs => obtain ⟨items, n, ho, e⟩ := this; exact ⟨items, n, hk a _ hnw ho, hvs e⟩
    | barr l => exact hk a _ hnw this
  · obtain ⟨o, ho⟩ := Option.isSome_iff_exists.mp (X.dold b hb)
    show (h'.get? b).isSome
    rw [hold b o ho]; rfl

/-- a target takes a value -/
def As (Γ : Cx) (k : Nat) (sc : Scope) (σ : Loc) (μ : Own) (target : Expr) (v : PV) (σ' : Loc) (cs : Scope := sc) : Prop :=
  ∀ (A : Around) (n : Nat) (F : Fm) (h₀ : Heap) (s : Shared) (val : Value) (Q : Unit → Shared → Prop) (E : Value → Shared → Prop), n + k ≤ 8 → Lv n A → Sx Γ h₀ sc F σ μ s cs → V (Dm F μ) s.heap v val →
    (∀ s', Sx Γ h₀ sc F σ' μ s' cs → Sp F μ μ s s' → Q () s') → wpAny Γ.M A (assign target (F.env sc) val) Q E s
theorem As.name {x : Str} {v : PV} {cs : Scope} (hl : isPlace (sc.names.lookup x) = true := by decide +kernel) (hk : sc.kind = .function := by kernel_rfl) (hs : sc.names.lookup x = cs.names.lookup x := by first | exact rfl | kernel_rfl) : As Γ k sc σ μ (.Name x pos) v ((x, v) :: σ) cs :=
  fun A n F h₀ s val Q E hn hA X hv hQ => wpAny_assign_Name (X.store hv hl hk (fun s' X' sp _ => hQ s' X' sp) hs)

def Fo (Γ : Cx) (k : Nat) (sc : Scope) (σ : Loc) (μ : Own) (target : Expr) (body orelse : List Stmt) (xs : List PV) (P : Fl → Loc → Own → Prop) : Prop :=
  ∀ (A : Around) (n : Nat) (F : Fm) (h₀ : Heap) (s : Shared) (R : Result → Shared → Prop) (it : Addr) (wr : List Addr) (J : (Addr → Prop) → List PV → Heap → Prop), n + k ≤ 8 → Lv n A → Sx Γ h₀ sc F σ μ s →
    ∀ nd : Bool, Iter Γ A it wr J nd → (nd = true → isTupE target = true) → J (Dm F μ) xs s.heap → (∀ b ∈ wr, h₀.get? b = none) →
    (∀ fl σ' μ' f s', P fl σ' μ' → Sx Γ h₀ sc F σ' μ' s' → SpW F wr μ μ' s s' → FlV (Dm F μ') s'.heap fl f → R (.ok f) s') → codeR Γ.M A (.forLoop target (.ref it) body orelse (F.env sc)) R s

/-- an expression that is walked -/
def EvI (Γ : Cx) (k : Nat) (sc : Scope) (σ : Loc) (μ : Own) (iter : Expr) (xs : List PV) (nd : Bool) : Prop :=
  ∀ (A : Around) (n : Nat) (F : Fm) (s : Shared) (Q : Value → Shared → Prop) (E : Value → Shared → Prop), n + k ≤ 8 → Lv n A → St Γ sc F σ μ s →
    (∀ it wr J s', Iter Γ A it wr J nd → J (Dm F μ) xs s'.heap → Gr s s' → (∀ b ∈ wr, s.heap.get? b = none) → Q (.ref it) s') → wpR Γ.M A (eval iter (F.env sc)) (fun v s₁ => wpR Γ.M A (pyIter v) Q E s₁) E s
theorem EvI.of {iter : Expr} {p : PV} {xs : List PV} (he : Ev Γ k sc σ μ iter p) (hi : IterOk Γ p xs) : EvI Γ k sc σ μ iter xs false := by
  intro A n F s Q E hn hA st hQ
  refine he A n F s _ _ hn hA st fun v s₁ g₁ hv => ?_
  have st₁ := st.grow g₁
  refine toR (hi A n (Dm F μ) s₁ v _ _ (by omega) hA st₁.base hv st₁.dom fun it wr J s₂ hI hJ g₂ hw => hQ it wr J s₂ hI hJ (g₁.trans g₂) fun b hb => ?_)
  cases q : s.heap.get? b with
  | none => rfl
  | some o => have := g₁.keep b o q; rw [hw b hb] at this; cases this
theorem X1.forI {target iter : Expr} {body orelse : List Stmt} {xs : List PV} {nd : Bool} (he : EvI Γ k sc σ μ iter xs nd) (h : Fo Γ k sc σ μ target body orelse xs P)
    (hnd : nd = true → isTupE target = true := by first | exact (fun h => nomatch h) | exact (fun _ => rfl))
    (hs : ∀ env x, foldedSetIterable iter env x = pure x := by intro _ _; kernel_rfl) : X1 Γ k sc σ μ (.For target iter body orelse pos) P := by
  intro A n F h₀ s Q E hn hA X hQ
  refine wpR_For (he A n F s _ _ hn hA X.toSt fun it wr J s₂ hI hJ g hw => ?_) (hs _)
  have X₂ := X.grow g
  refine h A n F h₀ s₂ _ it wr J hn hA X₂ nd hI hnd hJ (fun b hb => ?_) fun fl σ' μ' f s' hP X' sp hf => ?_
  · cases q : h₀.get? b with
    | none => rfl
    | some o => have := X.keep b o q; rw [hw b hb] at this; cases this
  · have hnw : ∀ b, (s.heap.get? b).isSome → b ∉ wr := fun b hb q => by rw [hw b q] at hb; cases hb
    refine hQ fl σ' μ' f s' hP X' ⟨fun b o e h1 h2 h3 => ?_, fun b e => ?_, fun b e d => ?_, sp.gens.trans g.gens, sp.os.trans g.os⟩ hf
    · exact sp.keep b o (hnw b (by rw [e]; rfl)) (g.keep b o e) h1 h2 h3
    · exact sp.alive b (hnw b e) (g.keep.alive b e)
    · exact sp.dom b (hnw b e) (g.keep.alive b e) d
theorem X1.for {target iter : Expr} {body orelse : List Stmt} {p : PV} {xs : List PV} (he : Ev Γ k sc σ μ iter p) (hi : IterOk Γ p xs) (h : Fo Γ k sc σ μ target body orelse xs P)
    (hs : ∀ env x, foldedSetIterable iter env x = pure x := by intro _ _; kernel_rfl) : X1 Γ k sc σ μ (.For target iter body orelse pos) P :=
  X1.forI (EvI.of he hi) h (fun h => nomatch h) hs

theorem Fo.nil {target : Expr} {body orelse : List Stmt} (h : Xs Γ k sc σ μ orelse P) : Fo Γ k sc σ μ target body orelse [] P := by
  intro A n F h₀ s R it wr J hn hA X nd hI hnd hJ hw hR
  refine codeR_for1 (toR (wpAny_mono (hI.done (Dm F μ) s (fun s₁ => wpR Γ.M A (execs orelse (F.env sc)) (fun f s₃ => R (.ok f) s₃) (noted Γ.M A (F.env sc) fun e s' => R (.error e) s') s₁) _ hJ fun h' tk hk => ?_) (fun r s₁ hr => ?_) fun _ _ e => e))
  · have X' := X.wr (tk := tk) hk (hI.wrs _ _ _ hJ) hw
    exact h A n F h₀ _ _ _ hn hA X' fun fl σ' μ' f s' hP X'' sp hf => hR fl σ' μ' f s' hP X'' ((SpW.wr hk).trans sp.toW) hf
  · obtain ⟨rfl, hr⟩ := hr; exact hr

theorem Fo.cons {target : Expr} {body orelse : List Stmt} {x : PV} {xs : List PV} {σ₁ : Loc} (ha : As Γ k sc σ μ target x σ₁)
    (h : Xs Γ k sc σ₁ μ body (fun fl σ' μ' => match fl with | .next | .cont => Fo Γ k sc σ' μ' target body orelse xs P | .brk => P .next σ' μ' | .ret v => P (.ret v) σ' μ')) : Fo Γ k sc σ μ target body orelse (x :: xs) P := by
  intro A n F h₀ s R it wr J hn hA X nd hI hnd hJ hw hR
  refine codeR_for1 (toR (wpAny_mono (hI.item (Dm F μ) x xs s target (fun v s₁ => wpR Γ.M A (assign target (F.env sc) v) (fun _ s₂ => wpR Γ.M A (execs body (F.env sc)) (fun f s₃ => match f with
          | .next | .cont => codeR Γ.M A (.forLoop target (.ref it) body orelse (F.env sc)) R s₃
          | .brk => R (.ok .next) s₃
          | .ret v => R (.ok (.ret v)) s₃) (noted Γ.M A (F.env sc) fun e s' => R (.error e) s') s₂) (noted Γ.M A (F.env sc) fun e s' => R (.error e) s') s₁) _ hJ X.toSt.dom hnd fun v h' tk hv hJ' hk => ?_) (fun r s₁ hr => ?_) fun _ _ e => e))
  · have X' := X.wr (tk := tk) hk (hI.wrs _ _ _ hJ) hw
    refine toR (ha A n F h₀ _ v _ _ hn hA X' hv fun s₂ X₂ sp₂ => ?_)
    refine h A n F h₀ s₂ _ _ hn hA X₂ fun fl σ' μ' f s' hP X'' sp hf => ?_
    have spa := sp₂.trans sp
    have spW : SpW F wr μ μ' s s' := (SpW.wr hk).trans spa.toW
    have next : Fo Γ k sc σ' μ' target body orelse xs P → codeR Γ.M A (.forLoop target (.ref it) body orelse (F.env sc)) R s' := fun hfo =>
      hfo A n F h₀ s' R it wr J hn hA X'' nd hI hnd (hI.move _ _ _ _ _ (X'.hk X'' spa) (fun b o hb d => spa.dom b (by rw [hb]; rfl) d) hJ') hw
        fun fl2 σ2 μ2 f2 s2 hP2 X2 sp2 hf2 => hR fl2 σ2 μ2 f2 s2 hP2 X2 (spW.trans sp2) hf2
    cases fl with
    | next => have : f = .next := hf; subst this; exact next hP
    | cont => have : f = .cont := hf; subst this; exact next hP
    | brk => have : f = .brk := hf; subst this; exact hR .next σ' μ' _ s' hP X'' spW rfl
    | ret v => obtain ⟨val, rfl, hv⟩ := hf; exact hR (.ret v) σ' μ' _ s' hP X'' spW ⟨val, rfl, hv⟩
  · cases r with
    | none => exact hr.elim
    | some v => exact toR (wpAny_mono hr (fun _ _ e => e) fun _ _ e => e)
theorem Fo.less {σ' : Loc} {target : Expr} {body orelse : List Stmt} {xs : List PV} (h : ∀ x v, σ'.lookup x = some v → σ.lookup x = some v) (hx : Fo Γ k sc σ' μ target body orelse xs P) : Fo Γ k sc σ μ target body orelse xs P :=
  fun A n F h₀ s R it wr J hn hA X => hx A n F h₀ s R it wr J hn hA (X.less h)
end
end Mine

namespace Mine

section
variable {Γ : Cx} {k : Nat} {sc : Scope} {σ : Loc} {μ : Own} {pos : Pos}

theorem V.newList {D : Addr → Prop} {h : Heap} {xs : List PV} {vs : List Value} (hD : ∀ b, D b → (h.get? b).isSome) (e : Vs D h xs vs) :
    V D (h.push { cls := .type "list", data := .seq vs.toArray }) (.lst xs) (.ref h.objs.size) :=
  V_lst.mpr ⟨_, vs.toArray, rfl, not_dom hD, ⟨_, Heap.get?_push_size _ rfl, rfl, _, rfl⟩, by simpa using e.grow (Kp.push _ _)⟩
theorem V.newTup {D : Addr → Prop} {h : Heap} {xs : List PV} {vs : List Value} (e : Vs D h xs vs) :
    V D (h.push { cls := .type "tuple", data := .seq vs.toArray }) (.tup xs) (.ref h.objs.size) :=
  V_tup.mpr ⟨_, vs.toArray, rfl, ⟨_, Heap.get?_push_size _ rfl, rfl, _, rfl⟩, by simpa using e.grow (Kp.push _ _)⟩

theorem Ev.tuple {es : List Expr} {vs : List PV} {kd : Nat} (h : Es Γ k sc σ μ pos es vs) (hs : vs.length ≤ 1000) : Ev Γ k sc σ μ (.Tuple es kd pos) (.tup vs) := by
  intro A n F s Q E hn hA st hQ
  refine wpR_Tuple (h A n F s _ _ hn hA st fun vals s₁ g₁ hv => ⟨?_, hQ _ _ (g₁.trans (Gr.heap _ (Kp.push _ _))) (V.newTup hv)⟩)
  have := hv.length; rw [sizeLine_eq]; omega
theorem Ev.list {es : List Expr} {vs : List PV} (h : Es Γ k sc σ μ pos es vs) (hs : vs.length ≤ 1000) : Ev Γ k sc σ μ (.List es pos) (.lst vs) := by
  intro A n F s Q E hn hA st hQ
  refine wpR_List (h A n F s _ _ hn hA st fun vals s₁ g₁ hv => ⟨?_, hQ _ _ (g₁.trans (Gr.heap _ (Kp.push _ _))) (V.newList (st.grow g₁).dom hv)⟩)
  have := hv.length; rw [sizeLine_eq]; omega

/-! ### items -/
def HasItem (Γ : Cx) (a : PV) : Prop := ∀ (D : Addr → Prop) (s : Shared) (v : Value), V D s.heap a v → ∃ T id, s.TypeIs v T ∧ typeLookup (.type T) "__getitem__" = pure (some (.builtin id))
theorem HasItem.lst {xs : List PV} : HasItem Γ (.lst xs) := fun D s v hv => by
  obtain ⟨a, items, rfl, _, h, _⟩ := V_lst.mp hv
  exact ⟨_, _, h.typeIs, slot_list_getitem.lookup⟩
theorem HasItem.tup {xs : List PV} : HasItem Γ (.tup xs) := fun D s v hv => by
  obtain ⟨a, items, rfl, h, _⟩ := V_tup.mp hv
  exact ⟨_, _, h.typeIs, F.slot_tuple_getitem.lookup⟩
theorem HasItem.bytes {l : List UInt8} : HasItem Γ (.bytes l) := fun D s v hv => by
  obtain ⟨t, rfl⟩ := V_bytes.mp hv
  exact ⟨_, _, typeIs_bytes s _ _, FB.slot_bytes_getitem.lookup⟩
theorem HasItem.str {l : List Nat} : HasItem Γ (.str l) := fun D s v hv => by
  obtain ⟨t, rfl⟩ := V_str.mp hv
  exact ⟨_, _, typeIs_str s _ _, F.slot_str_getitem.lookup⟩

theorem Ev.sub {value slice : Expr} {a i r : PV} (hv : Ev Γ k sc σ μ value a) (hi : Ev Γ k sc σ μ slice i) (ho : Op2 Γ getItem a i r) (hT : HasItem Γ a)
    (hs : ∀ o i, subscripted slice false o i = operate [o, i] (getItem o i) := by intro _ _; kernel_rfl) : Ev Γ k sc σ μ (.Subscript value slice pos) r := by
  intro A n F s Q E hn hA st hQ
  refine wpR_Subscript (hv A n F s _ _ hn hA st fun o s₁ g₁ ho₁ => hi A n F s₁ _ _ hn hA (st.grow g₁) fun iv s₂ g₂ hi₂ => ?_)
  obtain ⟨T, id, hT, hl⟩ := hT _ s₂ o (ho₁.grow g₂.keep)
  have st₂ := (st.grow g₁).grow g₂
  exact toR <| tail_any hT hl (ho A n _ s₂ o iv _ _ (by omega) hA st.ok st₂.base (ho₁.grow g₂.keep) hi₂ st₂.dom fun v s₃ g₃ hv => hQ v s₃ ((g₁.trans g₂).trans g₃) hv) (hs o iv)

theorem Op2.item {xs : List PV} {i : Int} {r : PV} (h0 : 0 ≤ i) (hx : xs[i.toNat]? = some r) (hl : xs.length < 2 ^ 62) : Op2 Γ getItem (.lst xs) (.int i) r := by
  intro A n D s x y Q E _ _ _ _ hv hy _ hQ
  obtain ⟨a, items, rfl, _, h, hvs⟩ := V_lst.mp hv
  obtain ⟨t, rfl⟩ := V_int.mp hy
  obtain ⟨v, e1, e2⟩ := hvs.get _ hx
  have hlt : i.toNat < xs.length := (List.getElem?_eq_some_iff.mp hx).1
  exact wpAny_getItem_list h h0 (by omega) (by simpa using e1) (hQ _ _ (Gr.refl _) e2)
theorem Op2.itemNeg {xs : List PV} {i : Int} {r : PV} (h0 : i < 0) (h1 : -(xs.length : Int) ≤ i) (hx : xs[(i + xs.length).toNat]? = some r) (hl : xs.length < 2 ^ 62) : Op2 Γ getItem (.lst xs) (.int i) r := by
  intro A n D s x y Q E _ _ _ _ hv hy _ hQ
  obtain ⟨a, items, rfl, _, h, hvs⟩ := V_lst.mp hv
  obtain ⟨t, rfl⟩ := V_int.mp hy
  obtain ⟨v, e1, e2⟩ := hvs.get _ hx
  have hlen : items.size = xs.length := by simpa using hvs.length
  exact wpAny_getItem_list_neg h h0 (by omega) (by omega) (by rw [hlen]; simpa using e1) (hQ _ _ (Gr.refl _) e2)

/-! ### slices -/
def Pt (Γ : Cx) (k : Nat) (sc : Scope) (σ : Loc) (μ : Own) : Option Expr → Option Int → Prop
  | none, o => o = none
  | some e, o => ∃ i, o = some i ∧ Ev Γ k sc σ μ e (.int i)
theorem Pt.none : Pt Γ k sc σ μ none none := rfl
theorem Pt.some {e : Expr} {i : Int} (h : Ev Γ k sc σ μ e (.int i)) : Pt Γ k sc σ μ (some e) (some i) := ⟨i, rfl, h⟩
theorem Pt.run {o : Option Expr} {p : Option Int} (h : Pt Γ k sc σ μ o p) {A : Around} {n : Nat} {F : Fm} {s : Shared} {Q : Value → Shared → Prop} {E : Value → Shared → Prop} (hn : n + k ≤ 8) (hA : Lv n A) (st : St Γ sc F σ μ s)
    (hQ : ∀ v s', Gr s s' → IsPart v p → Q v s') : wpR Γ.M A (evalPart o (F.env sc)) Q E s := by
  cases o with
  | none => have : p = .none := h; subst this; exact wpR_pure (hQ _ _ (Gr.refl _) .none)
  | some e =>
    obtain ⟨i, rfl, h⟩ := h
    refine h A n F s _ _ hn hA st fun v s' g hv => ?_
    obtain ⟨t, rfl⟩ := V_int.mp hv
    exact hQ _ _ g (.int _ _)

def SliceOk (Γ : Cx) (a : PV) (lo hi st : Option Int) (r : PV) : Prop :=
  ∀ (A : Around) (n : Nat) (D : Addr → Prop) (s : Shared) (x : Value) (sl : Addr) (vl vu vs : Value) (Q : Value → Shared → Prop) (E : Value → Shared → Prop), n ≤ 8 → Lv n A → V D s.heap a x → (∀ b, D b → (s.heap.get? b).isSome) →
    s.heap.IsSliceOf sl vl vu vs → IsPart vl lo → IsPart vu hi → IsPart vs st →
    (∀ val s', Gr s s' → V D s'.heap r val → Q val s') → wpAny Γ.M A (getItem x (.ref sl)) Q E s

theorem IsPart.flat {v : Value} {p : Option Int} (h : IsPart v p) : True := trivial

theorem Ev.slice {value : Expr} {lower upper : Option Expr} {p : Pos} {a r : PV} {lo hi : Option Int} (hv : Ev Γ k sc σ μ value a) (hl : Pt Γ k sc σ μ lower lo) (hu : Pt Γ k sc σ μ upper hi) (ho : SliceOk Γ a lo hi none r) (hT : HasItem Γ a) :
    Ev Γ k sc σ μ (.Subscript value (.Slice lower upper none p) pos) r := by
  intro A n F s Q E hn hA st hQ
  refine wpR_Subscript (hv A n F s _ _ hn hA st fun o s₁ g₁ ho₁ => wpR_Slice (hl.run hn hA (st.grow g₁) fun vl s₂ g₂ pl => hu.run hn hA ((st.grow g₁).grow g₂) fun vu s₃ g₃ pu => wpR_pure ?_))
  have g : Gr s₁ { s₃ with heap := s₃.heap.push { cls := .type "slice", data := .fields #[vl, vu, .none] } } := (g₂.trans g₃).trans (Gr.heap _ (Kp.push _ _))
  have st₃ := (st.grow g₁).grow g
  have ho₃ := ho₁.grow g.keep
  obtain ⟨T, id, hT, hl⟩ := hT _ _ o ho₃
  exact toR <| tail_any hT hl (ho A n _ _ o _ vl vu .none _ _ (by omega) hA ho₃ st₃.dom (Heap.IsSliceOf.new ..) pl pu .none fun v s₄ g₄ hv => hQ v s₄ ((g₁.trans g).trans g₄) hv) rfl
theorem Ev.slice3 {value step : Expr} {lower upper : Option Expr} {p : Pos} {a r : PV} {lo hi : Option Int} {c : Int} (hv : Ev Γ k sc σ μ value a) (hl : Pt Γ k sc σ μ lower lo) (hu : Pt Γ k sc σ μ upper hi) (hc : Ev Γ k sc σ μ step (.int c)) (ho : SliceOk Γ a lo hi (some c) r) (hT : HasItem Γ a) :
    Ev Γ k sc σ μ (.Subscript value (.Slice lower upper (some step) p) pos) r := by
  intro A n F s Q E hn hA st hQ
  refine wpR_Subscript (hv A n F s _ _ hn hA st fun o s₁ g₁ ho₁ => wpR_Slice (hl.run hn hA (st.grow g₁) fun vl s₂ g₂ pl => hu.run hn hA ((st.grow g₁).grow g₂) fun vu s₃ g₃ pu =>
    (Pt.some hc).run hn hA (((st.grow g₁).grow g₂).grow g₃) fun vs s₄ g₄ ps => ?_))
  have g : Gr s₁ { s₄ with heap := s₄.heap.push { cls := .type "slice", data := .fields #[vl, vu, vs] } } := ((g₂.trans g₃).trans g₄).trans (Gr.heap _ (Kp.push _ _))
  have st₃ := (st.grow g₁).grow g
  have ho₃ := ho₁.grow g.keep
  obtain ⟨T, id, hT, hl⟩ := hT _ _ o ho₃
  exact toR <| tail_any hT hl (ho A n _ _ o _ vl vu vs _ _ (by omega) hA ho₃ st₃.dom (Heap.IsSliceOf.new ..) pl pu ps fun v s₄ g₄ hv => hQ v s₄ ((g₁.trans g).trans g₄) hv) rfl

/-! ### built-ins of ints and lists -/
theorem CallOk.len_lst {xs : List PV} (h : xs.length < 2 ^ 62) : CallOk Γ k (.builtin "len") [.lst xs] (.int xs.length) := by
  intro A n D s vals Q E _ _ _ _ hvs _ hQ
  rw [Vs_cons] at hvs
  obtain ⟨v, r, rfl, hv, hr⟩ := hvs
  rw [Vs_nil] at hr; subst hr
  obtain ⟨a, items, rfl, _, hl, he⟩ := V_lst.mp hv
  have hlen : items.size = xs.length := by simpa using he.length
  refine toR (PyProof.Rows.len_list hl (by omega) (hQ _ _ (Gr.toks _) ?_))
  rw [hlen]; exact V.int _ _
theorem CallOk.len_bytes {l : List UInt8} (h : l.length ≤ 1099511627776) : CallOk Γ k (.builtin "len") [.bytes l] (.int l.length) := by
  intro A n D s vals Q E _ _ _ _ hvs _ hQ
  rw [Vs_cons] at hvs
  obtain ⟨v, r, rfl, hv, hr⟩ := hvs
  rw [Vs_nil] at hr; subst hr
  obtain ⟨t, rfl⟩ := V_bytes.mp hv
  exact toR <| PySem.W.len_bytes (by simpa using h) (hQ _ _ (Gr.toks _) (by simpa using V.int _ _))
theorem CallOk.abs {i : Int} : CallOk Γ k (.builtin "abs") [.int i] (.int (if i < 0 then -i else i)) := by
  intro A n D s vals Q E _ _ _ _ hvs _ hQ
  rw [Vs_cons] at hvs
  obtain ⟨v, r, rfl, hv, hr⟩ := hvs
  rw [Vs_nil] at hr; subst hr
  obtain ⟨t, rfl⟩ := V_int.mp hv
  exact toR <| PyProof.Rows.call_abs_int fun u tk => hQ _ _ (Gr.toks _) (V.int _ _)
theorem CallOk.range1 {b : Int} : CallOk Γ k (.type "range") [.int b] (.rng 0 b 1) := by
  intro A n D s vals Q E _ _ _ _ hvs _ hQ
  rw [Vs_cons] at hvs
  obtain ⟨v, r, rfl, hv, hr⟩ := hvs
  rw [Vs_nil] at hr; subst hr
  obtain ⟨t, rfl⟩ := V_int.mp hv
  exact toR <| PySem.call_range_1 (hQ _ _ (Gr.heap _ (Kp.push _ _)) (V_rng.mpr ⟨_, _, _, _, rfl, Heap.get?_push_size _ rfl⟩))
theorem CallOk.range2 {a b : Int} : CallOk Γ k (.type "range") [.int a, .int b] (.rng a b 1) := by
  intro A n D s vals Q E _ _ _ _ hvs _ hQ
  rw [Vs_cons] at hvs
  obtain ⟨v, r, rfl, hv, hr⟩ := hvs
  rw [Vs_cons] at hr
  obtain ⟨v2, r2, rfl, hv2, hr2⟩ := hr
  rw [Vs_nil] at hr2; subst hr2
  obtain ⟨t, rfl⟩ := V_int.mp hv
  obtain ⟨u, rfl⟩ := V_int.mp hv2
  exact toR <| PySem.call_range_2 (hQ _ _ (Gr.heap _ (Kp.push _ _)) (V_rng.mpr ⟨_, _, _, _, rfl, Heap.get?_push_size _ rfl⟩))
theorem CallOk.range3 {a b c : Int} (hc : c ≠ 0) (hs : c.natAbs < 1000) : CallOk Γ k (.type "range") [.int a, .int b, .int c] (.rng a b c) := by
  intro A n D s vals Q E _ _ _ _ hvs _ hQ
  rw [Vs_cons] at hvs
  obtain ⟨v, r, rfl, hv, hr⟩ := hvs
  rw [Vs_cons] at hr
  obtain ⟨v2, r2, rfl, hv2, hr2⟩ := hr
  rw [Vs_cons] at hr2
  obtain ⟨v3, r3, rfl, hv3, hr3⟩ := hr2
  rw [Vs_nil] at hr3; subst hr3
  obtain ⟨t, rfl⟩ := V_int.mp hv
  obtain ⟨u, rfl⟩ := V_int.mp hv2
  obtain ⟨z, rfl⟩ := V_int.mp hv3
  exact toR <| call_range_3 hc (hQ _ _ (Gr.heap _ (Kp.push _ _)) (V_rng.mpr ⟨_, _, _, _, rfl, Heap.get?_push_size _ rfl⟩)) (.inl (PyProof.noPylong_small (by omega)))
theorem CallOk.list_lst {xs : List PV} (h : xs.length ≤ 1000000) : CallOk Γ k (.type "list") [.lst xs] (.lst xs) := by
  intro A n D s vals Q E _ _ _ _ hvs hD hQ
  rw [Vs_cons] at hvs
  obtain ⟨v, r, rfl, hv, hr⟩ := hvs
  rw [Vs_nil] at hr; subst hr
  obtain ⟨a, items, rfl, _, ⟨o, ho, hc, m, hd⟩, he⟩ := V_lst.mp hv
  have hlen : items.size = xs.length := by simpa using he.length
  refine toR (PySem.call_list_seq (hsz := by rw [sizeLine_eq]; omega) a (.inl rfl) ho hc hd fun h' c' hk hD' => hQ _ _ (Gr.heap _ hk) ?_)
  exact V_lst.mpr ⟨_, items, rfl, not_dom hD, ⟨_, hD', rfl, _, rfl⟩, he.grow hk⟩

theorem Truth.lst {xs : List PV} (h : xs.length < 2 ^ 62) : Truth Γ (.lst xs) (!xs.isEmpty) := by
  intro A n D s x Q E _ _ _ hx hQ
  obtain ⟨a, items, rfl, _, hl, he⟩ := V_lst.mp hx
  have hlen : items.size = xs.length := by simpa using he.length
  refine wpAny_truthy_list hl (by omega) ?_
  have e : items.isEmpty = xs.isEmpty := by
    unfold Array.isEmpty
    rw [hlen]; cases xs <;> simp
  rw [e]; exact hQ _ (Gr.toks _)
end

/-! ### saying less -/
def Sub (σ : Loc) : Loc → Prop
  | [] => True
  | (x, v) :: r => σ.lookup x = some v ∧ Sub σ r
theorem Sub.to {σ : Loc} : ∀ {σ' : Loc}, Sub σ σ' → ∀ x v, σ'.lookup x = some v → σ.lookup x = some v
  | [], _, x, v, e => nomatch e
  | (y, w) :: r, h, x, v, e => by
    rw [List.lookup_cons] at e
    cases q : (x == y) with
    | true => rw [q] at e; cases e; rw [beq_iff_eq.mp q]; exact h.1
    | false => rw [q] at e; exact Sub.to h.2 x v e
theorem Wh.sub {Γ : Cx} {k : Nat} {sc : Scope} {σ σ' : Loc} {μ : Own} {P : Fl → Loc → Own → Prop} {t : Expr} {body orelse : List Stmt} (h : Sub σ σ') (hx : Wh Γ k sc σ' μ t body orelse P) : Wh Γ k sc σ μ t body orelse P := Wh.less h.to hx
theorem Fo.sub {Γ : Cx} {k : Nat} {sc : Scope} {σ σ' : Loc} {μ : Own} {P : Fl → Loc → Own → Prop} {t : Expr} {body orelse : List Stmt} {xs : List PV} (h : Sub σ σ') (hx : Fo Γ k sc σ' μ t body orelse xs P) : Fo Γ k sc σ μ t body orelse xs P := Fo.less h.to hx
theorem Xs.sub {Γ : Cx} {k : Nat} {sc : Scope} {σ σ' : Loc} {μ : Own} {P : Fl → Loc → Own → Prop} {sts : List Stmt} (h : Sub σ σ') (hx : Xs Γ k sc σ' μ sts P) : Xs Γ k sc σ μ sts P := Xs.less h.to hx

def fnAt (p : Program) (i : Nat) : Arguments × List Stmt × Scope := match p.main.body[i]? with
  | some (.FunctionDef _ a b _ _ _ s _ _ _) => (a, b, s)
  | _ => (⟨[], [], none, [], [], none, []⟩, [], default)

/-- a plain def of the text at a written address of the top's heap -/
structure DefAt (Γ : Cx) (a : Addr) (name : Str) (d : Arguments × List Stmt × Scope) : Prop where
  out : ∃ o pm cd doc, Γ.B.get? a = some o ∧ o.data = .func (docDef name d.1 d.2.1 d.2.2 pm cd doc) ∧ Γ.B.CodeRec cd name
theorem DefAt.keep {Γ : Cx} {a : Addr} {name : Str} {d} (h : DefAt Γ a name d) : KeepOk Γ (.ref a) := by
  obtain ⟨o, pm, cd, doc, h1, h2, h3⟩ := h.out
  exact KeepOk.fn h1 h2
theorem DefAt.call {Γ : Cx} {k : Nat} {a : Addr} {name : Str} {params : Arguments} {body : List Stmt} {scope : Scope} {args : List PV} {r : PV} (h : DefAt Γ a name (params, body, scope))
    (hbody : Xs Γ k scope ((params.args.map (·.arg)).zip args) [] body (fun fl _ μ' => fl = .ret r))
    (hbind : ∀ (pm cd doc : Value) (vals : List Value), vals.length = args.length → bindArgs (docDef name params body scope pm cd doc) ⟨vals, []⟩ = pure ((params.args.map (·.arg)).zip vals))
    (hnd : (params.args.map (·.arg)).Nodup := by decide +kernel)
    (hloc : (params.args.map (·.arg)).all (fun x => decide (scope.names.lookup x = some .local)) = true := by decide +kernel)
    (hco : scope.isCoroutine = false := by kernel_rfl) (hgen : scope.isGenerator = false := by kernel_rfl) (hk : scope.kind = .function := by kernel_rfl)
    (hcell : (scope.names.all fun x => decide (x.2 ≠ .cell)) = true := by decide +kernel) : CallOk Γ (k + 1) (.ref a) args r := by
  obtain ⟨o, pm, cd, doc, h1, h2, h3⟩ := h.out
  exact CallOk.fn h1 h2 h3 (hbind pm cd doc) hbody hnd hloc hco hgen hk hcell
theorem CallOk.mono {Γ : Cx} {k k' : Nat} {f : Value} {args : List PV} {r : PV} (h : CallOk Γ k f args r) (hk : k ≤ k') : CallOk Γ k' f args r :=
  fun A n D s vals Q E hn => h A n D s vals Q E (by omega)
/-- a statement, by the state behind it -/
theorem Xs.cut {Γ : Cx} {k : Nat} {sc : Scope} {σ : Loc} {μ : Own} {P : Fl → Loc → Own → Prop} {st : Stmt} {rest : List Stmt} (σ₁ : Loc) (μ₁ : Own)
    (h : X1 Γ k sc σ μ st (fun fl σ' μ' => fl = .next ∧ Sub σ' σ₁ ∧ μ' = μ₁)) (hr : Xs Γ k sc σ₁ μ₁ rest P) : Xs Γ k sc σ μ (st :: rest) P := by
  refine Xs.cons (h.mono fun fl σ' μ' hh => ?_)
  obtain ⟨rfl, h1, rfl⟩ := hh
  exact hr.sub h1

/-! ### from the head -/
theorem DefAt.of {p : Program} {loose : List Str} {mean : ExcName → Option Value} {mg mb : Str → Option Value} {B : Heap} (T : Top p loose mean mg mb B) (i j : Nat) (name : Str) (pgm : Program)
    (hd : ((recsOf p)[i]?.map fun d => (d.name, d.params, d.body, d.scope)) = some (name, fnAt pgm j)) : ∃ a, mg name = some (.ref a) ∧ ∀ Γ : Cx, Γ.B = B → DefAt Γ a name (fnAt pgm j) := by
  cases hr : (recsOf p)[i]? with
  | none => rw [hr] at hd; cases hd
  | some d =>
    rw [hr] at hd
    obtain ⟨a, o, pm, cd, doc, h1, h2, h3, h4⟩ := T.fn d (List.mem_of_getElem? hr)
    simp only [Option.map_some, Option.some.injEq, Prod.mk.injEq] at hd
    obtain ⟨e1, e2⟩ := hd
    subst e1
    refine ⟨a, h1, fun Γ hB => ⟨o, pm, cd, doc, by rw [hB]; exact h2, ?_, by rw [hB]; exact h4⟩⟩
    rw [← e2]
    exact h3
theorem GloV.fn {p : Program} {loose : List Str} {mean : ExcName → Option Value} {mg mb : Str → Option Value} {B : Heap} (T : Top p loose mean mg mb B) {x : Str} {v : Value} (h : mg x = some v) : GloV B x v := ⟨mg, T.g, .inl h⟩
theorem GloV.bi {p : Program} {loose : List Str} {mean : ExcName → Option Value} {mg mb : Str → Option Value} {B : Heap} (T : Top p loose mean mg mb B) {K : Frag} (X : K.In B) {x : Str} {v : Value} (e : nsIn K mainGlobals x = some none) (hv : bootBuiltins x = some v) (hn : x ≠ "__name__") : GloV B x v :=
  ⟨mg, T.g, .inr ⟨mg_none_of X T.g e, mb, T.b, (T.builtins x hn).trans hv⟩⟩
theorem GloV.top {p : Program} {loose : List Str} {mean : ExcName → Option Value} {mg mb : Str → Option Value} {B : Heap} (T : Top p loose mean mg mb B) {K : Frag} (X : K.In B) {x : Str} {v : Value} (e : nsIn K mainGlobals x = some (some v)) : GloV B x v := ⟨mg, T.g, .inl (mg_of X T.g e)⟩

def GlOk (B : Heap) : List (Str × PV) → Prop
  | [] => True
  | (x, p) :: r => (∃ v, GloV B x v ∧ ∀ D h, V D h p v) ∧ GlOk B r
theorem GlOk.to {B : Heap} : ∀ {l : List (Str × PV)}, GlOk B l → ∀ x p, l.lookup x = some p → ∃ v, GloV B x v ∧ ∀ D h, V D h p v
  | [], _, _, _, e => nomatch e
  | (y, q) :: r, h, x, p, e => by
    rw [List.lookup_cons] at e
    cases c : (x == y) with
    | true => rw [c] at e; cases e; rw [beq_iff_eq.mp c]; exact h.1
    | false => rw [c] at e; exact GlOk.to h.2 x p e
theorem GlOk.one {B : Heap} {x : Str} {v : Value} (h : GloV B x v) : ∃ v', GloV B x v' ∧ ∀ D h, V D h (.obj v) v' := ⟨v, h, fun _ _ => V_obj.mpr rfl⟩
theorem GlOk.bytes {B : Heap} {x : Str} {l : List UInt8} {t : Tok} (h : GloV B x (.bytes l.toArray t)) : ∃ v', GloV B x v' ∧ ∀ D h, V D h (.bytes l) v' := ⟨_, h, fun _ _ => V.bytes _ _⟩

theorem Lv.caller {env : Env} : Lv 0 (callerA.deeper env) := ⟨rfl, by show 1 + 300 + 1 ≤ 310 + 10 * 0; decide, by show 4 + 3 ≤ 100 + 100 * 0; decide, rfl⟩

/-- the law's call: from its body's judgement to the head's goal -/
theorem law_runs {Γ : Cx} {k : Nat} {sc : Scope} {body : List Stmt} {ns : List Int} {l a : Addr} {vs : List Value} {cd : Value} {name : Str} {s₁ : Shared} {h₁ : Heap} {tk : Nat} {m : Str → Option Value} {x : Str}
    {Q : Flow → Shared → Prop} {E : Value → Shared → Prop}
    (ok : Γ.Ok) (hB : Γ.B = s₁.heap) (hk : k ≤ 8) (hl : s₁.heap.IsList l vs.toArray) (hi : IntsAre vs ns)
    (F : Fr s₁.heap s₁.heap.objs.size h₁ m) (hm : m x = some (.ref l)) (hx : sc.names.lookup x = some .local) (hc : (sc.names.all fun x => decide (x.2 ≠ .cell)) = true)
    (hb : Xs Γ k sc [(x, .lst (ns.map .int))] [] body (fun fl _ _ => fl = .ret (.bool true)))
    (hQ : ∀ s', Kp s₁.heap s'.heap → s'.gens = s₁.gens → s'.os = s₁.os → Q (.ret (.bool true)) s') :
    wpR Γ.M (callerA.deeper (envOf name sc s₁.heap.objs.size a cd)) (execs body (envOf name sc s₁.heap.objs.size a cd)) Q E { s₁ with heap := h₁, toks := tk } := by
  let Fm' : Fm := ⟨s₁.heap.objs.size, [], name ++ ".<locals>.", some a, cd, some s₁.heap.objs.size, fun _ => False⟩
  have X : Sx Γ s₁.heap sc Fm' [(x, .lst (ns.map .int))] [] { s₁ with heap := h₁, toks := tk } := by
    have hkeep : Kp s₁.heap h₁ := F.keep
    have hl' : h₁.IsList l vs.toArray := let ⟨o, ho, r⟩ := hl; ⟨o, hkeep _ _ ho, r⟩
    refine ⟨⟨ok, by rw [hB]; exact hkeep, ⟨m, F.ns, fun y v h1 h2 => ?_⟩, fun y v h1 h2 => ?_, fun _ _ h => (nomatch h), fun b hb => hb.elim⟩, hkeep, by rw [hB]; exact fun _ _ e => e, fresh_addr _, fun y hy => ?_, fun y c h => (nomatch h), fun y z c _ h => (nomatch h), fun b h => (nomatch h), fun b h => h.elim, List.nodup_nil⟩
    · rw [List.lookup_cons] at h1
      cases q : (y == x) with
      | true =>
        rw [q] at h1; cases h1; rw [beq_iff_eq.mp q]
        exact ⟨_, hm, V_lst.mpr ⟨l, vs.toArray, rfl, (fun d => d.elim id fun q => (nomatch q)), hl', by simpa using Vs.of_ints hi⟩⟩
      | false => rw [q] at h1; cases h1
    · exfalso
      rw [List.lookup_cons] at h1
      cases q : (y == x) with
      | true => rw [beq_iff_eq.mp q, hx] at h2; rcases h2 with h2 | h2 <;> cases h2
      | false => rw [q] at h1; cases h1
    · exfalso
      obtain ⟨l₁, l₂, he, _⟩ := List.lookup_eq_some_iff.mp hy
      have := of_decide_eq_true (List.all_eq_true.mp hc (y, .cell) (by rw [he]; simp))
      exact this rfl
  refine hb _ 0 Fm' s₁.heap _ Q E (by omega) Lv.caller X fun fl σ' μ' f s' hP X' sp hf => ?_
  subst hP
  obtain ⟨val, rfl, hv⟩ := hf
  rw [V_bool] at hv; subst hv
  exact hQ s' X'.keep sp.gens sp.os

theorem IterOk.upTo {Γ : Cx} {b : Int} {n : Nat} (h0 : b = (n : Int)) (h1 : n < 2 ^ 62) : IterOk Γ (.rng 0 b 1) (rngItems ((0 : Nat) : Int) 1 n) := by
  subst h0
  refine IterOk.rng (small_one (by decide) (by decide) (by omega) (by omega)) n ?_
  rw [rangeSize_one]; split <;> omega
end Mine

set_option maxRecDepth 100000
namespace Mine

/-! ## built-ins that touch bytearrays, over quiet contexts -/

section
variable {prog : Program} {w : World} {A : Around} {s : Shared} {R : Result → Shared → Prop}

theorem codeR_builtin {id : String} {args : Args} {b : Builtin} (hq : QuietC (.builtin id args) = true) (hb : entryFor table id = some b)
    (h : wpR (model prog w) (A.under (.builtin id args)) (b args)
      (fun fin s' => match fin with | .done f => R (.ok f) s' | .again c' => c'.quiet = true ∧ codeR (model prog w) A c' R s') (fun e s' => R (.error e) s') s) :
    codeR (model prog w) A (.builtin id args) R s := by
  refine codeR_of_tree hq ?_
  show wpR _ _ (match entryFor table id with | some b => b args | none => unsupported ((withoutEnding? id "#data").getD id)) _ _ s
  rw [hb]; exact h

theorem codeR_call_builtin {id : String} {args : Args} {b : Builtin} (hqc : QuietC (.builtin id args) = true) (hq : plainId id = true) (hb : entryFor table id = some b)
    (h : wpAny (model prog w) A.in1 (checkBuiltinCall id args) (fun _ s₁ => wpR (model prog w) A.in1 (b args)
      (fun fin s' => match fin with | .done f => R (.ok f) s' | .again c' => c'.quiet = true ∧ codeR (model prog w) A c' R s') (fun e s' => R (.error e) s') s₁)
      (fun e s' => R (.error e) s') s) : codeR (model prog w) A (.call (.builtin id) args) R s := by
  refine codeR_of_tree rfl ?_
  show wpR _ A.in1 (do checkBuiltinCall id args; again (.builtin id args)) _ _ s
  refine wpR_bind (toR (wpAny_mono h (fun _ s₁ h₁ => wpR_pure (And.intro (plainId_quiet hq args) (codeR_builtin hqc hb ?_))) fun _ _ h' => h'))
  rw [Around.under_plainId hq args]; exact h₁

theorem wpR_callSpecial?_slot {M : Model} {E : Value → Shared → Prop} {self : Value} {T : String} {name : Str} {id : String} {args : List Value} {kw : List (Str × Value)}
    {Q : Option Value → Shared → Prop} (hT : s.TypeIs self T) (h : Slot T name id)
    (hc : wpR M A (call (.builtin id) (self :: args) kw) (fun v => Q (some v)) E s) : wpR M A (callSpecial? self name args kw) Q E s := by
  simp only [callSpecial?]
  refine wpR_bind (toR (wpAny_specialOf hT h.lookup ?_))
  simp only [h.bind]
  exact wpR_holding (wpR_bind (wpR_pure (wpR_bind (wpR_mono hc (fun v s' h' => wpR_pure h') fun _ _ h' => h'))))

/-- making an object of a type: new, then init -/
theorem callTypeR {E : Value → Shared → Prop} {T newId initId : String} {Bi : Builtin} {args : List Value} {Q Q₁ : Value → Shared → Prop} (ft : TypeCalled T newId initId)
    (hct : checkTypeCall T ⟨args, []⟩ = pure ()) (entryI : entryFor table initId = some Bi) (hqi : ∀ as, QuietC (.builtin initId as) = true)
    (hnew : codeR (model prog w) A.in1 (.call (.builtin newId) ⟨.type T :: args, []⟩) (wants Q₁ E) s)
    (hnext : ∀ obj s₁, Q₁ obj s₁ → s₁.TypeIs obj T ∧ argsOk initId ⟨obj :: args, []⟩ ∧
      wpR (model prog w) A.in1.in1 (Bi ⟨obj :: args, []⟩)
        (fun fin s' => match fin with | .done f => wants (fun r s₂ => r = .none ∧ Q obj s₂) E (.ok f) s' | .again c' => c'.quiet = true ∧ codeR (model prog w) A.in1 c' (wants (fun r s₂ => r = .none ∧ Q obj s₂) E) s')
        (fun e s' => wants (fun r s₂ => r = .none ∧ Q obj s₂) E (.error e) s') s₁) :
    wpR (model prog w) A (call (.type T) args) Q E s := by
  obtain ⟨c, tl, hmro⟩ := ft.mro
  have hmade := ft.made
  have hsub := ft.sub
  refine wpR_call (codeR_of_tree rfl ?_)
  show wpR _ _ (callAny (.type T) _) _ _ _
  refine wpR_pure ⟨Code.quiet_builtin _ (by decide +kernel), codeR_builtin (by kernel_rfl) F.entry_type_call ?_⟩
  rw [Around.under_plain (weight_type_call_type T args []) rfl]
  have h1 := ft.notType
  have h2 := ft.canCreate
  unfold Builtin.«type.__call__»
  dsimp only
  simp only [h1, Bool.false_eq_true, if_false, h2]
  refine wpR_bind (toR (wpAny_of_eq hct ?_))
  refine wpR_bind (toR (wpAny_of_eq hmro ?_))
  simp only [List.isEmpty_cons, Bool.false_eq_true, if_false]
  refine wpR_bind (toR (wpAny_of_eq hmade ?_))
  refine wpR_bind (wpR_pure ?_)
  refine wpR_bind (wpR_holding (wpR_call (codeR_mono hnew fun r s₁ hr => ?_)))
  cases r with
  | error e => exact hr
  | ok fl =>
    cases fl with
    | ret obj =>
      obtain ⟨hT, hok, hsi⟩ := hnext _ _ hr
      refine wpR_bind (toR (wpAny_isInstance hT hsub ?_))
      simp only [Bool.not_true, Bool.false_eq_true, if_false]
      refine wpR_bind (wpR_holding (wpR_callSpecial?_slot hT ft.init (wpR_call (codeR_mono (codeR_call_builtin (hqi _) ft.init.plain entryI (ft.init.check _ _ _ _ _ _ _ _ hT hok hsi)) fun r₂ s₂ hr₂ => ?_))))
      cases r₂ with
      | error e => exact hr₂
      | ok fl₂ =>
        cases fl₂ with
        | ret r =>
          obtain ⟨rfl, hq⟩ := hr₂
          exact wpR_pure hq
        | _ => exact hr₂.elim
    | _ => exact hr.elim
end

namespace F
theorem ba_mro : mroOf (.type "bytearray") = pure [.type "bytearray", .type "object"] := by rw [mroOf_type]; kernel_rfl
theorem ba_lookup_new : typeLookup (.type "bytearray") "__new__" = pure (some (.builtin "bytearray.__new__")) := by rw [typeLookup_type, builtinLookup_eq_fast]; kernel_rfl
theorem ba_slot_init : Slot "bytearray" "__init__" "bytearray.__init__" :=
  .of (owner := "bytearray") (n := "__init__") (by rw [typeLookup_type, builtinLookup_eq_fast]; kernel_rfl) (by decide +kernel) (by decide +kernel) (by decide +kernel)
    (by first | exact .inl (by decide +kernel) | exact .inr (by decide +kernel)) (by rw [isSubtype_type]; kernel_rfl)
theorem ba_called : TypeCalled "bytearray" "bytearray.__new__" "bytearray.__init__" :=
  ⟨by decide +kernel, by decide +kernel, ⟨_, _, ba_mro⟩, madeBy_type ba_mro ba_lookup_new (by decide +kernel), by decide +kernel, by rw [isSubtype_type]; kernel_rfl, ba_slot_init⟩
theorem ba_typeCall : checkTypeCall "bytearray" ⟨[], []⟩ = pure () := by kernel_rfl
theorem ba_newCall : checkBuiltinCall "bytearray.__new__" ⟨[.type "bytearray"], []⟩ = pure () := by kernel_rfl
theorem ba_plain_new : plainId "bytearray.__new__" = true := by decide +kernel
theorem ba_entry_new : entryFor table "bytearray.__new__" = some Builtin.«list.__new__» :=
  entryFor_alias (id' := "list.__new__") (by kernel_rfl) (by first | rfl | decide +kernel) (by decide +kernel) (by kernel_rfl)
theorem ba_entry_init : entryFor table "bytearray.__init__" = some Builtin.«bytearray.__init__» := by first | exact entryFor_of_fast (by kernel_rfl) | exact entryFor_of_tree (by kernel_rfl)
theorem ba_entry_append : entryFor table "bytearray.append" = some Builtin.«bytearray.append» := by first | exact entryFor_of_fast (by kernel_rfl) | exact entryFor_of_tree (by kernel_rfl)
theorem ba_entry_extend : entryFor table "bytearray.extend" = some Builtin.«bytearray.extend» := by first | exact entryFor_of_fast (by kernel_rfl) | exact entryFor_of_tree (by kernel_rfl)
theorem ba_slot_append : Slot "bytearray" "append" "bytearray.append" :=
  .of (owner := "bytearray") (n := "append") (by rw [typeLookup_type, builtinLookup_eq_fast]; kernel_rfl) (by decide +kernel) (by decide +kernel) (by decide +kernel)
    (by first | exact .inl (by decide +kernel) | exact .inr (by decide +kernel)) (by rw [isSubtype_type]; kernel_rfl)
theorem ba_slot_extend : Slot "bytearray" "extend" "bytearray.extend" :=
  .of (owner := "bytearray") (n := "extend") (by rw [typeLookup_type, builtinLookup_eq_fast]; kernel_rfl) (by decide +kernel) (by decide +kernel) (by decide +kernel)
    (by first | exact .inl (by decide +kernel) | exact .inr (by decide +kernel)) (by rw [isSubtype_type]; kernel_rfl)
theorem ba_plainAttrs : PlainAttrs "bytearray" :=
  ⟨⟨"bytearray.__getattribute__", by rw [typeLookup_type, builtinLookup_eq_fast]; kernel_rfl, by decide +kernel⟩, by rw [typeLookup_type, builtinLookup_eq_fast]; kernel_rfl⟩
theorem ba_type_append : typeOf (.builtin "bytearray.append") = pure (.type "method_descriptor") := by show builtinType _ = _; rw [builtinType_eq_fast]; kernel_rfl
theorem ba_type_extend : typeOf (.builtin "bytearray.extend") = pure (.type "method_descriptor") := by show builtinType _ = _; rw [builtinType_eq_fast]; kernel_rfl
theorem ba_owner : Manifest.owners.lookup (String.ofList ['y', 'a', 'r', 'r', 'a', 'e', 't', 'y', 'b'].reverse) = some Manifest.sig_bytearray := by kernel_rfl
theorem ba_args_init (a : Value) : argsOk "bytearray.__init__" ⟨[a], []⟩ := by
  unfold argsOk; rw [signature?_of (id := "bytearray.__init__") (n := ['_', '_', 't', 'i', 'n', 'i', '_', '_']) (o := ['y', 'a', 'r', 'r', 'a', 'e', 't', 'y', 'b']) (by kernel_rfl) ba_owner]; kernel_rfl
theorem ba_args_append (a b : Value) : argsOk "bytearray.append" ⟨[a, b], []⟩ := by
  unfold argsOk; rw [signature?_of (id := "bytearray.append") (n := ['d', 'n', 'e', 'p', 'p', 'a']) (o := ['y', 'a', 'r', 'r', 'a', 'e', 't', 'y', 'b']) (by kernel_rfl) ba_owner]; kernel_rfl
theorem ba_args_extend (a b : Value) : argsOk "bytearray.extend" ⟨[a, b], []⟩ := by
  unfold argsOk; rw [signature?_of (id := "bytearray.extend") (n := ['d', 'n', 'e', 't', 'x', 'e']) (o := ['y', 'a', 'r', 'r', 'a', 'e', 't', 'y', 'b']) (by kernel_rfl) ba_owner]; kernel_rfl
theorem ba_release : typeLookup (.type "bytearray") "__release_buffer__" = pure (some (.builtin "bytearray.__release_buffer__")) := by rw [typeLookup_type, builtinLookup_eq_fast]; kernel_rfl
theorem ba_buffer : typeLookup (.type "bytearray") "__buffer__" = pure (some (.builtin "bytearray.__buffer__")) := by rw [typeLookup_type, builtinLookup_eq_fast]; kernel_rfl
theorem ba_no_bytes : typeLookup (.type "bytearray") "__bytes__" = pure none := by rw [typeLookup_type, builtinLookup_eq_fast]; kernel_rfl
theorem ba_no_index : typeLookup (.type "bytearray") "__index__" = pure none := by rw [typeLookup_type, builtinLookup_eq_fast]; kernel_rfl
theorem ba_sub : isSubtype (.type "bytearray") (.type "bytearray") = pure true := by rw [isSubtype_type]; kernel_rfl
theorem ba_bind : Builtin.Bytes.bindOptional "bytearray.__init__" "bytearray" ["source", "encoding", "errors"] [] [] = pure [none, none, none] := by kernel_rfl
theorem b_release : typeLookup (.type "bytes") "__release_buffer__" = pure none := by rw [typeLookup_type, builtinLookup_eq_fast]; kernel_rfl
theorem b_buffer : typeLookup (.type "bytes") "__buffer__" = pure (some (.builtin "bytes.__buffer__")) := by rw [typeLookup_type, builtinLookup_eq_fast]; kernel_rfl
end F
set_option maxRecDepth 1000000 in
set_option maxHeartbeats 4000000 in
theorem owner_ba_new : ("bytearray.__new__".splitOn ".__new__").headD "" = "bytearray" := by simp +decide [String.splitOn, String.splitOnAux]

abbrev baObj (l : List UInt8) : Obj := { cls := .type "bytearray", data := .bytearray l.toArray }

section
variable {prog : Program} {w : World} {A : Around} {E : Value → Shared → Prop} {s : Shared}

theorem typeIs_ba {a : Addr} {l : List UInt8} (h : s.heap.get? a = some (baObj l)) : s.TypeIs (.ref a) "bytearray" := ⟨_, h, rfl⟩

theorem wpAny_slotIsOwn {v : Value} {T : String} {name id : String} {Q : Bool → Shared → Prop} {M : Model} (hT : s.TypeIs v T) (hl : typeLookup (.type T) (Str.ofString name) = pure (some (.builtin id)))
    (he : id.endsWith ("." ++ name) = true) (hsub : isSubtype (.type T) (.type (id.dropRight (name.length + 1))) = pure true) (h : Q true s) : wpAny M A (Builtin.Bytes.slotIsOwn v name) Q E s := by
  unfold Builtin.Bytes.slotIsOwn
  refine wpAny_bind (wpAny_specialOf hT hl ?_)
  simp only [he, Bool.not_true, Bool.false_eq_true, if_false]
  exact wpAny_isInstance hT hsub h
theorem wpAny_slotIsOwn_none {v : Value} {T : String} {name : String} {Q : Bool → Shared → Prop} {M : Model} (hT : s.TypeIs v T) (hl : typeLookup (.type T) (Str.ofString name) = pure none)
    (h : Q true s) : wpAny M A (Builtin.Bytes.slotIsOwn v name) Q E s := by
  unfold Builtin.Bytes.slotIsOwn
  exact wpAny_bind (wpAny_specialOf hT hl (wpAny_pure h))
theorem wpAny_ownRelease_ba {M : Model} {v : Value} {Q : Bool → Shared → Prop} (hT : s.TypeIs v "bytearray") (h : Q false s) : wpAny M A (Builtin.Bytes.ownRelease v) Q E s := by
  unfold Builtin.Bytes.ownRelease
  exact wpAny_bind (wpAny_slotIsOwn hT F.ba_release (by decide +kernel) (by rw [isSubtype_type]; kernel_rfl) (wpAny_pure h))
theorem wpAny_ownRelease_b {M : Model} {v : Value} {Q : Bool → Shared → Prop} (hT : s.TypeIs v "bytes") (h : Q false s) : wpAny M A (Builtin.Bytes.ownRelease v) Q E s := by
  unfold Builtin.Bytes.ownRelease
  exact wpAny_bind (wpAny_slotIsOwn_none hT F.b_release (wpAny_pure h))
theorem wpAny_payload_ba {M : Model} {a : Addr} {l : List UInt8} {Q : Array UInt8 → Shared → Prop} (ha : s.heap.get? a = some (baObj l)) (h : Q l.toArray s) : wpAny M A (Builtin.Bytes.payload (.ref a)) Q E s := by
  unfold Builtin.Bytes.payload Builtin.Bytes.payload?
  refine wpAny_bind (wpAny_bind (wpAny_load ha ?_))
  exact wpAny_pure (wpAny_pure h)
theorem wpAny_write {M : Model} {a : Addr} {l l' : List UInt8} {f : Array UInt8 → Array UInt8} {Q : Unit → Shared → Prop} (ha : s.heap.get? a = some (baObj l)) (hf : f l.toArray = l'.toArray) (hz : l'.length ≤ sizeLine)
    (h : ∀ h', Heap.SameBut a s.heap h' → h'.get? a = some (baObj l') → Q () { s with heap := h' }) : wpAny M A (Builtin.Bytes.write (.ref a) f) Q E s := by
  show wpAny _ _ (updateBytearray a f) _ _ _
  unfold updateBytearray
  refine wpAny_bind (wpAny_load ha ?_)
  show wpAny _ _ (update a (Obj.mapBytearray f) >>= fun _ => lookBehind a) _ _ _
  refine wpAny_bind (wpAny_update ha ?_)
  have h2 : (s.heap.update a (Obj.mapBytearray f)).get? a = some (baObj l') := by
    have := Heap.get?_update_self (Obj.mapBytearray f) ha rfl
    rw [this]
    show some ({ cls := .type "bytearray", data := .bytearray (f l.toArray) } : Obj) = _
    rw [hf]
  refine wpAny_lookBehind h2 ?_ (h _ (Heap.SameBut.update ..) h2)
  show (if l'.toArray.size > sizeLine then some "bytearray:memory" else none) = none
  rw [if_neg]
  rw [List.size_toArray]; omega
theorem wpR_checkNone {M : Model} {a : Addr} {l : List UInt8} {Q : Bool → Shared → Prop} (hg : A.guards = some []) (ha : s.heap.get? a = some (baObj l)) (h : Q false s) :
    wpR M A (Builtin.Bytes.exported (.ref a) <||> (do return (← Builtin.Bytes.exportsOf (.ref a)) > 0)) Q E s := by
  refine wpR_bind (wpR_exported hg rfl ?_)
  show wpR M A (Builtin.Bytes.exportsOf (.ref a) >>= _) Q E s
  refine wpR_bind ?_
  unfold Builtin.Bytes.exportsOf
  refine wpR_bind (toR (wpAny_load ha ?_))
  exact wpR_pure (wpR_pure h)
theorem wpR_checkResize {M : Model} {a : Addr} {l : List UInt8} {Q : Unit → Shared → Prop} (hg : A.guards = some []) (ha : s.heap.get? a = some (baObj l)) (h : Q () s) : wpR M A (Builtin.Bytes.checkResize (.ref a)) Q E s := by
  unfold Builtin.Bytes.checkResize
  refine wpR_bind (wpR_checkNone hg ha ?_)
  exact wpR_pure h

theorem code_ba_new {Q₁ : Value → Shared → Prop}
    (h : Q₁ (.ref s.heap.objs.size) { s with heap := s.heap.push (baObj []) }) :
    codeAny (model prog w) A (.call (.builtin "bytearray.__new__") ⟨[.type "bytearray"], []⟩) (wants Q₁ E) s := by
  refine codeAny_of_tree ?_
  show wpAny _ A.in1 (do checkBuiltinCall "bytearray.__new__" ⟨[.type "bytearray"], []⟩; again (.builtin "bytearray.__new__" ⟨[.type "bytearray"], []⟩)) _ _ s
  refine wpAny_bind (wpAny_of_eq F.ba_newCall (wpAny_pure ⟨plainId_quiet F.ba_plain_new _, codeAny_builtin_stack F.ba_entry_new rfl fun p st => ?_⟩))
  rw [Around.under_plainId F.ba_plain_new _]
  have hsub := F.ba_sub
  have hown := owner_ba_new
  obtain ⟨hp, g, d, tk, os⟩ := s
  simp only [hown]
  wp_walk
  exact h

theorem ba_init {a : Addr} {Q : Fin → Shared → Prop} (hg : A.guards = some []) (ha : s.heap.get? a = some (baObj []))
    (h : ∀ h', Heap.SameBut a s.heap h' → h'.get? a = some (baObj []) → Q (.done (.ret .none)) { s with heap := h' }) : wpR (model prog w) A (Builtin.«bytearray.__init__» ⟨[.ref a], []⟩) Q E s := by
  unfold Builtin.«bytearray.__init__»
  refine wpR_bind (toR (wpAny_ownRelease_ba (typeIs_ba ha) ?_))
  simp only [Bool.false_eq_true, if_false]
  refine wpR_bind (toR (wpAny_of_eq F.ba_bind ?_))
  refine wpR_bind (toR (wpAny_of_eq (a := ()) rfl ?_))
  refine wpR_bind (toR (wpAny_of_eq (a := ()) rfl ?_))
  refine wpR_bind (wpR_checkNone hg ha ?_)
  simp only [Bool.false_eq_true, if_false]
  refine wpR_bind (toR (wpAny_write (l' := []) ha rfl (Nat.zero_le _) fun h' hs ha' => ?_))
  exact wpR_bind (wpR_pure (wpR_pure (h h' hs ha')))

/-- bytearray() -/
theorem call_ba {Q : Value → Shared → Prop} (hg : A.guards = some []) (h : ∀ h', Kp s.heap h' → h'.get? s.heap.objs.size = some (baObj []) → Q (.ref s.heap.objs.size) { s with heap := h' }) : wpR (model prog w) A (call (.type "bytearray") []) Q E s := by
  refine callTypeR (Q₁ := fun obj s₁ => obj = .ref s.heap.objs.size ∧ s₁ = { s with heap := s.heap.push (baObj []) }) F.ba_called F.ba_typeCall F.ba_entry_init (fun as => by kernel_rfl) (codeToR (code_ba_new ⟨rfl, rfl⟩)) fun obj s₁ h₁ => ?_
  obtain ⟨rfl, rfl⟩ := h₁
  have ha : (s.heap.push (baObj [])).get? s.heap.objs.size = some (baObj []) := Heap.get?_push_size _ rfl
  refine ⟨typeIs_ba (s := { s with heap := s.heap.push (baObj []) }) ha, F.ba_args_init _, ba_init (s := { s with heap := s.heap.push (baObj []) }) hg ha fun h' hs ha' => ⟨rfl, h h' (fun b o e => (hs.2 b (Nat.ne_of_lt (Heap.lt_size e))).trans (Kp.push _ _ b o e)) ha'⟩⟩
end
end Mine

set_option maxRecDepth 100000
namespace Mine

/-! ## owned objects -/

section
variable {Γ : Cx} {k : Nat} {sc : Scope} {σ : Loc} {μ μ₁ μ₂ : Own} {pos : Pos} {P : Fl → Loc → Own → Prop} {A : Around} {F : Fm} {h₀ : Heap} {s : Shared} {a : Addr} {o o' : PO}

/-- a new object comes under the frame -/
theorem Sx.own' {s' : Shared} {cs : Scope} (X : Sx Γ h₀ sc F σ μ s cs) (g : Gr s s') (ha : s.heap.get? a = none) (ho : POat (Dm F ((a, o) :: μ)) s'.heap a o) : Sx Γ h₀ sc F σ ((a, o) :: μ) s' cs ∧ Sp F μ ((a, o) :: μ) s s' := by
  have hD : ∀ b o', s.heap.get? b = some o' → Dm F ((a, o) :: μ) b → Dm F μ b := by
    intro b o' hb d
    rcases d with d | d
    · exact .inl d
    · rw [List.map_cons, List.mem_cons] at d
      rcases d with d | d
      · dsimp only at d; subst d; rw [ha] at hb; cases hb
      · exact .inr d
  have hv : ∀ {x v}, V (Dm F μ) s.heap x v → V (Dm F ((a, o) :: μ)) s'.heap x v := fun e => e.move (fun b o hb _ => g.keep b o hb) hD
  have hvs : ∀ {x v}, Vs (Dm F μ) s.heap x v → Vs (Dm F ((a, o) :: μ)) s'.heap x v := fun e => e.move (fun b o hb _ => g.keep b o hb) hD
  have hnot : a ∉ μ.map (·.1) := fun d => by have := X.toSt.dom a (.inr d); rw [ha] at this; cases this
  refine ⟨⟨⟨X.ok, X.base.trans g.keep, ?_, fun x v p q => ?_, fun b q hm => ?_, fun b hb => g.keep.alive b (X.dal b hb)⟩, X.keep.trans g.keep, X.baseh, X.newL, fun y e => let ⟨c, v, p, q, d⟩ := X.cells y e; ⟨c, v, p, q, d.keeps g.keep⟩,
    fun y c e => let ⟨v, d⟩ := X.cellsAll y c e; ⟨v, d.keeps g.keep⟩, X.cellsApart, fun b hb => ?_, X.dold, ?_⟩, fun b o' e _ _ _ => g.keep b o' e, fun b e => g.keep.alive b e, fun b e d => ?_, g.gens, g.os⟩
  · obtain ⟨m, hn, hm⟩ := X.ns
    exact ⟨m, hn.keeps g.keep, fun x v p q => let ⟨val, e1, e2⟩ := hm x v p q; ⟨val, e1, hv e2⟩⟩
  · obtain ⟨c, val, e1, e2, e3⟩ := X.cel x v p q
    exact ⟨c, val, e1, e2.keeps g.keep, hv e3⟩
  · rcases List.mem_cons.mp hm with hm | hm
    · cases hm; exact ho
    · have := X.own b q hm
      cases q with
      | list xs => obtain ⟨items, n, ho, e⟩ := this; exact ⟨items, n, g.keep _ _ ho, hvs e⟩
      | barr l => exact g.keep _ _ this
  · rw [List.map_cons, List.mem_cons] at hb
    rcases hb with hb | hb
    · dsimp only at hb; subst hb
      cases q : h₀.get? b with
      | none => rfl
      | some o' => have := X.keep b o' q; rw [ha] at this; cases this
    · exact X.ownNew b hb
  · rw [List.map_cons, List.nodup_cons]; exact ⟨hnot, X.apart⟩
  · obtain ⟨o', ho'⟩ := Option.isSome_iff_exists.mp e
    exact hD b o' ho' d

theorem mem_own (o' : PO) (b : Addr) : b ∈ (μ₁ ++ (a, o') :: μ₂).map (·.1) ↔ b ∈ (μ₁ ++ (a, o) :: μ₂).map (·.1) := by simp
theorem Dm_own : Dm F (μ₁ ++ (a, o') :: μ₂) = Dm F (μ₁ ++ (a, o) :: μ₂) := by
  funext b; unfold Dm; rw [propext (mem_own (o := o) o' b)]

/-- an owned object is changed -/
theorem Sx.upd {h' : Heap} {tk : Nat} {cs : Scope} (X : Sx Γ h₀ sc F σ (μ₁ ++ (a, o) :: μ₂) s cs) (hs : Heap.SameBut a s.heap h') (ho : POat (Dm F (μ₁ ++ (a, o) :: μ₂)) h' a o') :
    Sx Γ h₀ sc F σ (μ₁ ++ (a, o') :: μ₂) { s with heap := h', toks := tk } cs ∧ Sp F (μ₁ ++ (a, o) :: μ₂) (μ₁ ++ (a, o') :: μ₂) s { s with heap := h', toks := tk } := by
  have hDa : Dm F (μ₁ ++ (a, o) :: μ₂) a := .inr (by simp)
  have hao := X.own a o (by simp)
  obtain ⟨oa, hoa, hda⟩ : ∃ oa, s.heap.get? a = some oa ∧ ((∃ xs n, oa.data = .seq xs n ∧ oa.cls = .type "list") ∨ ∃ l n, oa.data = .bytearray l n) := by
    cases o with
    | list xs => obtain ⟨items, n, h, _⟩ := hao; exact ⟨_, h, .inl ⟨_, _, rfl, rfl⟩⟩
    | barr l => exact ⟨_, hao, .inr ⟨_, _, rfl⟩⟩
  have hnode : ∀ b o', s.heap.get? b = some o' → Node (Dm F (μ₁ ++ (a, o) :: μ₂)) b o' → h'.get? b = some o' := fun b o' hb hn => (hs.2 b (fun q => by
    subst q
    rw [hoa] at hb; cases hb
    rcases hn with ⟨_, _, hn, hn'⟩ | ⟨hn, _, hn'⟩
    · rcases hn' with hn' | hn'
      · exact hn' hDa
      · rcases hda with ⟨_, _, _, hc⟩ | ⟨_, _, hd⟩
        · rw [hc] at hn'; exact absurd hn' (by decide)
        · rw [hd] at hn; cases hn
    · rcases hda with ⟨_, _, hd, _⟩ | ⟨_, _, hd⟩ <;> (rw [hd] at hn'; cases hn'))).trans hb
  have hv : ∀ {x v}, V (Dm F (μ₁ ++ (a, o) :: μ₂)) s.heap x v → V (Dm F (μ₁ ++ (a, o) :: μ₂)) h' x v := fun e => e.move hnode fun _ _ _ d => d
  have hvs : ∀ {x v}, Vs (Dm F (μ₁ ++ (a, o) :: μ₂)) s.heap x v → Vs (Dm F (μ₁ ++ (a, o) :: μ₂)) h' x v := fun e => e.move hnode fun _ _ _ d => d
  have hnew := X.ownNew a (by simp)
  have hold : ∀ b o', h₀.get? b = some o' → h'.get? b = some o' := fun b o' e => (hs.2 b (fun q => by subst q; rw [hnew] at e; cases e)).trans (X.keep b o' e)
  have hcell : ∀ c v, s.heap.IsCell c v → h'.IsCell c v := fun c v ⟨oc, hoc, hd⟩ => ⟨oc, (hs.2 c (fun q => by
    subst q; rw [hoa] at hoc; cases hoc
    rcases hda with ⟨_, _, hd', _⟩ | ⟨_, _, hd'⟩ <;> (rw [hd'] at hd; cases hd))).trans hoc, hd⟩
  have hnd : (μ₁ ++ (a, o) :: μ₂).map (·.1) = (μ₁ ++ (a, o') :: μ₂).map (·.1) := by simp
  have halive : ∀ b, (s.heap.get? b).isSome → (h'.get? b).isSome := fun b e => by
    by_cases q : b = a
    · subst q
      cases o' with
      | list xs => obtain ⟨items, n, h, _⟩ := ho; rw [h]; rfl
      | barr l => have h : h'.get? b = some (baObj l) := ho; rw [h]; rfl
    · rw [hs.2 b q]; exact e
  have hEq := Dm_own (F := F) (μ₁ := μ₁) (μ₂ := μ₂) (a := a) (o := o) (o' := o')
  have ap := X.apart
  refine ⟨⟨⟨X.ok, fun b o' e => hold b o' (X.baseh b o' e), ?_, fun x v p q => ?_, fun b q hm => ?_, fun b hb => halive b (X.dal b hb)⟩, hold, X.baseh, X.newL, fun x e => let ⟨c, v, a1, a2, a3⟩ := X.cells x e; ⟨c, v, a1, a2, hcell _ _ a3⟩,
    fun x c e => let ⟨v, a3⟩ := X.cellsAll x c e; ⟨v, hcell _ _ a3⟩, X.cellsApart, fun b hb => X.ownNew b (by rw [hnd]; exact hb), X.dold, by rw [← hnd]; exact ap⟩, fun b o' e _ _ h3 => ?_, halive, fun b _ d => by rw [hEq] at d; exact d, rfl, rfl⟩
  · obtain ⟨m, hn, hm⟩ := X.ns
    rw [hEq]
    refine ⟨m, ?_, fun x v p q => let ⟨val, e1, e2⟩ := hm x v p q; ⟨val, e1, hv e2⟩⟩
    obtain ⟨oL, es, ep, hoL, hdL, r⟩ := hn
    refine ⟨oL, es, ep, (hs.2 _ (fun q => ?_)).trans hoL, hdL, r⟩
    rw [q, hoa] at hoL; cases hoL
    rcases hda with ⟨_, _, hd', _⟩ | ⟨_, _, hd'⟩ <;> (rw [hd'] at hdL; cases hdL)
  · obtain ⟨c, val, e1, e2, e3⟩ := X.cel x v p q
    rw [hEq]
    exact ⟨c, val, e1, hcell _ _ e2, hv e3⟩
  · rw [hEq]
    have hother : b ≠ a → (b, q) ∈ μ₁ ++ (a, o) :: μ₂ → POat (Dm F (μ₁ ++ (a, o) :: μ₂)) h' b q := fun hba hm => by
      have := X.own b q hm
      cases q with
      | list xs => obtain ⟨items, n, h, e⟩ := this; exact ⟨items, n, (hs.2 b hba).trans h, hvs e⟩
      | barr l => exact (hs.2 b hba).trans this
    have ap' : (List.map (·.1) μ₁ ++ a :: List.map (·.1) μ₂).Nodup := by simpa using ap
    rw [List.nodup_append] at ap'
    obtain ⟨n1, n2, n3⟩ := ap'
    rw [List.nodup_cons] at n2
    rcases List.mem_append.mp hm with hm | hm
    · have hb1 : b ∈ List.map (·.1) μ₁ := List.mem_map.mpr ⟨_, hm, rfl⟩
      exact hother (fun q => n3 b hb1 a List.mem_cons_self q) (List.mem_append.mpr (.inl hm))
    · rcases List.mem_cons.mp hm with hm | hm
      · cases hm; exact ho
      · have hb2 : b ∈ List.map (·.1) μ₂ := List.mem_map.mpr ⟨_, hm, rfl⟩
        exact hother (fun q => n2.1 (q ▸ hb2)) (List.mem_append.mpr (.inr (List.mem_cons_of_mem _ hm)))
  · exact (hs.2 b (fun q => h3 (q ▸ hDa))).trans e

/-- an owned list is done with: it is a plain value -/
theorem Dm_less (b : Addr) (d : Dm F (μ₁ ++ μ₂) b) : Dm F (μ₁ ++ (a, o) :: μ₂) b := by
  rcases d with d | d
  · exact .inl d
  · refine .inr ?_
    simp only [List.map_append, List.mem_append, List.map_cons, List.mem_cons] at d ⊢
    rcases d with d | d
    · exact .inl d
    · exact .inr (.inr d)
theorem Sx.notOwn (X : Sx Γ h₀ sc F σ (μ₁ ++ (a, o) :: μ₂) s) : ¬ Dm F (μ₁ ++ μ₂) a := by
  rintro (d | d)
  · have := X.dold a d; rw [X.ownNew a (by simp)] at this; cases this
  · have ap' : (List.map (·.1) μ₁ ++ a :: List.map (·.1) μ₂).Nodup := by simpa using X.apart
    rw [List.nodup_append] at ap'
    obtain ⟨n1, n2, n3⟩ := ap'
    rw [List.nodup_cons] at n2
    rw [List.map_append, List.mem_append] at d
    rcases d with d | d
    · exact n3 a d a List.mem_cons_self rfl
    · exact n2.1 d
theorem Sx.drop (X : Sx Γ h₀ sc F σ (μ₁ ++ (a, o) :: μ₂) s) : Sx Γ h₀ sc F σ (μ₁ ++ μ₂) s where
  ok := X.ok
  base := X.base
  ns := let ⟨m, hn, hm⟩ := X.ns; ⟨m, hn, fun x v p q => let ⟨val, e1, e2⟩ := hm x v p q; ⟨val, e1, e2.less fun b _ _ d => Dm_less b d⟩⟩
  cel := fun x v p q => let ⟨c, val, e1, e2, e3⟩ := X.cel x v p q; ⟨c, val, e1, e2, e3.less fun b _ _ d => Dm_less b d⟩
  own := fun b q hm => by
    have := X.own b q (by rcases List.mem_append.mp hm with hm | hm <;> simp [hm])
    cases q with
    | list xs => obtain ⟨items, n, h, e⟩ := this; exact ⟨items, n, h, e.less fun b _ _ d => Dm_less b d⟩
    | barr l => exact this
  dal := X.dal
  keep := X.keep
  baseh := X.baseh
  newL := X.newL
  cells := X.cells
  cellsAll := X.cellsAll
  cellsApart := X.cellsApart
  ownNew := fun b hb => X.ownNew b (by simp only [List.map_append, List.mem_append, List.map_cons, List.mem_cons] at hb ⊢; rcases hb with hb | hb <;> simp [hb])
  dold := X.dold
  apart := by
    have ap' : (List.map (·.1) μ₁ ++ a :: List.map (·.1) μ₂).Nodup := by simpa using X.apart
    rw [List.map_append]
    exact ap'.sublist (List.Sublist.append (List.Sublist.refl _) (List.sublist_cons_self _ _))
theorem Sp.drop : Sp F (μ₁ ++ (a, o) :: μ₂) (μ₁ ++ μ₂) s s := ⟨fun _ _ e _ _ _ => e, fun _ e => e, fun b _ d => Dm_less b d, rfl, rfl⟩

theorem Sx.set {x : Str} {v : PV} (X : Sx Γ h₀ sc F σ μ s)
    (h1 : sc.names.lookup x = some .local → ∀ m, s.heap.Ns F.L m → (∀ y w, σ.lookup y = some w → sc.names.lookup y = some .local → ∃ val, m y = some val ∧ V (Dm F μ) s.heap w val) → ∃ val, m x = some val ∧ V (Dm F μ) s.heap v val)
    (h2 : (sc.names.lookup x = some .cell ∨ sc.names.lookup x = some .free) → ∃ c val, F.cl.lookup x = some c ∧ s.heap.IsCell c (some val) ∧ V (Dm F μ) s.heap v val) : Sx Γ h₀ sc F ((x, v) :: σ) μ s :=
  { X with
    ns := by
      obtain ⟨m, hn, hm⟩ := X.ns
      refine ⟨m, hn, fun y w p q => ?_⟩
      by_cases e : y = x
      · subst e; rw [lookup_cons_self] at p; cases p; exact h1 q m hn hm
      · rw [lookup_cons_ne e] at p; exact hm y w p q
    cel := fun y w p q => by
      by_cases e : y = x
      · subst e; rw [lookup_cons_self] at p; cases p; exact h2 q
      · rw [lookup_cons_ne e] at p; exact X.cel y w p q }
theorem Sx.freeze {x : Str} {xs : List PV} (X : Sx Γ h₀ sc F σ (μ₁ ++ (a, .list xs) :: μ₂) s) (hx : σ.lookup x = some (.ref a)) : Sx Γ h₀ sc F ((x, .lst xs) :: σ) (μ₁ ++ μ₂) s := by
  have hv : V (Dm F (μ₁ ++ μ₂)) s.heap (.lst xs) (.ref a) := by
    obtain ⟨items, n, h, e⟩ := X.own a (.list xs) (by simp)
    exact V_lst.mpr ⟨a, items, rfl, X.notOwn, ⟨_, h, rfl, n, rfl⟩, e.less fun b _ _ d => Dm_less b d⟩
  refine X.drop.set (fun hl m hn hm => ?_) (fun hl => ?_)
  · obtain ⟨val, e1, e2⟩ := hm x _ hx hl
    rw [V_ref] at e2; subst e2
    exact ⟨_, e1, hv⟩
  · obtain ⟨c, val, e1, e2, e3⟩ := X.drop.cel x _ hx hl
    rw [V_ref] at e3; subst e3
    exact ⟨c, _, e1, e2, hv⟩
theorem Xs.freeze {x : Str} {xs : List PV} {sts : List Stmt} (hx : σ.lookup x = some (.ref a)) (h : Xs Γ k sc ((x, .lst xs) :: σ) (μ₁ ++ μ₂) sts P) : Xs Γ k sc σ (μ₁ ++ (a, .list xs) :: μ₂) sts P :=
  fun A n F h₀ s Q E hn hA X hQ => h A n F h₀ s Q E hn hA (X.freeze hx) fun fl σ' μ' f s' hP X' sp hf => hQ fl σ' μ' f s' hP X' (Sp.drop.trans sp) hf
theorem Xs.freeze0 {x : Str} {xs : List PV} {sts : List Stmt} (hx : σ.lookup x = some (.ref a)) (h : Xs Γ k sc ((x, .lst xs) :: σ) μ₂ sts P) : Xs Γ k sc σ ((a, .list xs) :: μ₂) sts P :=
  Xs.freeze (μ₁ := []) hx h

/-- a fresh object -/
def EvN (Γ : Cx) (k : Nat) (sc : Scope) (σ : Loc) (μ : Own) (e : Expr) (o : PO) : Prop :=
  ∀ (A : Around) (n : Nat) (F : Fm) (s : Shared) (Q : Value → Shared → Prop) (E : Value → Shared → Prop), n + k ≤ 8 → Lv n A → St Γ sc F σ μ s →
    (∀ a s', Gr s s' → s.heap.get? a = none → POat (Dm F ((a, o) :: μ)) s'.heap a o → Q (.ref a) s') → wpR Γ.M A (eval e (F.env sc)) Q E s

theorem X1.own {x : Str} {p' : Pos} {e : Expr} {o : PO} (he : EvN Γ k sc σ μ e o) (h : ∀ a, a ∉ μ.map (·.1) → P .next ((x, .ref a) :: σ) ((a, o) :: μ)) (hl : isPlace (sc.names.lookup x) = true := by decide +kernel) (hk : sc.kind = .function := by kernel_rfl)
    (hs : ∀ F : Fm, swapsWith e (some (.Name x p')) pos.line (F.env sc) = pure false := by intro _; kernel_rfl) : X1 Γ k sc σ μ (.Assign [.Name x p'] e pos) P := by
  intro A n F h₀ s Q E hn hA X hQ
  refine wpR_Assign_Name (he A n F s _ _ hn hA X.toSt fun a s₁ g ha ho => ?_) (hs F)
  obtain ⟨X₁, sp₁⟩ := X.own' g ha ho
  have hnot : a ∉ μ.map (·.1) := fun d => by have := X.toSt.dom a (.inr d); rw [ha] at this; cases this
  exact toR (X₁.store (V_ref.mpr rfl) hl hk fun s₂ X₂ sp₂ _ => hQ .next _ _ _ s₂ (h a hnot) X₂ (sp₁.trans sp₂) rfl)

theorem Vs.ownPush {h h' : Heap} {xs : List PV} {vs : List Value} (e : Vs (Dm F μ) h xs vs) (ha : h.get? a = none) (hk : Kp h h') : Vs (Dm F ((a, o) :: μ)) h' xs vs :=
  e.move (fun b o hb _ => hk b o hb) fun b o' hb d => by
    rcases d with d | d
    · exact .inl d
    · rw [List.map_cons, List.mem_cons] at d
      rcases d with d | d
      · dsimp only at d; subst d; rw [ha] at hb; cases hb
      · exact .inr d
theorem EvN.list {es : List Expr} {vs : List PV} (h : Es Γ k sc σ μ pos es vs) (hs : vs.length ≤ 1000) : EvN Γ k sc σ μ (.List es pos) (.list vs) := by
  intro A n F s Q E hn hA st hQ
  refine wpR_List (h A n F s _ _ hn hA st fun vals s₁ g₁ hv => ⟨?_, hQ _ _ (g₁.trans (Gr.heap _ (Kp.push _ _))) ?_ ?_⟩)
  · have := hv.length; rw [sizeLine_eq]; omega
  · cases q : s.heap.get? s₁.heap.objs.size with
    | none => rfl
    | some o => have := g₁.keep _ _ q; rw [fresh_addr] at this; cases this
  · exact ⟨vals.toArray, _, Heap.get?_push_size _ rfl, by simpa using hv.ownPush (fresh_addr _) (Kp.push _ _)⟩

/-- a call that makes an object -/
def CallN (Γ : Cx) (f : Value) (args : List PV) (o : PO) : Prop :=
  ∀ (A : Around) (n : Nat) (D : Addr → Prop) (s : Shared) (vals : List Value) (Q : Value → Shared → Prop) (E : Value → Shared → Prop), n ≤ 8 → Lv n A → Γ.Ok → Kp Γ.B s.heap →
    Vs D s.heap args vals → (∀ b, D b → (s.heap.get? b).isSome) → (∀ a s', Gr s s' → s.heap.get? a = none → (∀ D' : Addr → Prop, (∀ b, D' b → D b ∨ b = a) → POat D' s'.heap a o) → Q (.ref a) s') → wpR Γ.M A (call f vals) Q E s
theorem EvN.call {x : Str} {p : Pos} {args : List Expr} {f : Value} {vs : List PV} {o : PO} (hf : Ev Γ k sc σ μ (.Name x p) (.obj f)) (hkp : KeepOk Γ f) (ha : Es Γ k sc σ μ pos args vs) (hc : CallN Γ f vs o)
    (hp : args.any isStarred = false := by kernel_rfl) : EvN Γ k sc σ μ (.Call (.Name x p) args [] pos) o := by
  intro A n F s Q E hn hA st hQ
  refine wpR_CallName (hf A n F s _ _ hn hA st fun fv s₁ g₁ hfv => ?_)
  rw [V_obj] at hfv; subst hfv
  refine wpR_callWith (P := fun h => Kp Γ.B h) (starEach_plain_any args hp) hkp ?_
  refine wpR_evalArgs hp (ha A n F s₁ _ _ hn hA (st.grow g₁) fun vals s₂ g₂ hvs => ?_)
  have st₂ := (st.grow g₁).grow g₂
  refine ⟨st₂.base, ?_⟩
  show wpR _ _ (PySem.call fv ([] ++ vals) []) Q E s₂
  refine hc A n (Dm F μ) s₂ vals Q E (by omega) hA st.ok st₂.base hvs st₂.dom fun a s₃ g₃ ha hv => hQ a s₃ ((g₁.trans g₂).trans g₃) ?_ (hv _ fun b d => ?_)
  · cases q : s.heap.get? a with
    | none => rfl
    | some o => have := (g₁.trans g₂).keep _ _ q; rw [ha] at this; cases this
  · rcases d with d | d
    · exact .inl (.inl d)
    · rw [List.map_cons, List.mem_cons] at d
      rcases d with d | d
      · exact .inr d
      · exact .inl (.inr d)
theorem CallN.bytearray : CallN Γ (.type "bytearray") [] (.barr []) := by
  intro A n D s vals Q E _ hA ok hB hv hD hQ
  rw [Vs_nil] at hv; subst hv
  exact call_ba hA.guards fun h' hk ha => hQ _ _ (Gr.heap _ hk) (fresh_addr _) fun D' _ => ha

/-! ### methods that change an owned object -/
def POt : PO → String
  | .list _ => "list"
  | .barr _ => "bytearray"
def MethOk (Γ : Cx) (id : String) (o : PO) (args : List PV) (o' : PO) : Prop :=
  ∀ (A : Around) (n : Nat) (D : Addr → Prop) (s : Shared) (a : Addr) (vals : List Value) (Q : Value → Shared → Prop) (E : Value → Shared → Prop), n ≤ 8 → Lv n A → Γ.Ok → Kp Γ.B s.heap →
    POat D s.heap a o → D a → Vs D s.heap args vals → (∀ b, D b → (s.heap.get? b).isSome) →
    (∀ h' tk, Heap.SameBut a s.heap h' → POat D h' a o' → Q .none { s with heap := h', toks := tk }) → wpR Γ.M A (call (.builtin id) (.ref a :: vals)) Q E s
theorem POat.typeIs {D : Addr → Prop} (h : POat D s.heap a o) : s.TypeIs (.ref a) (POt o) ∧ ∃ ob, s.heap.get? a = some ob ∧ ob.dict = none := by
  cases o with
  | list xs => obtain ⟨items, n, h, _⟩ := h; exact ⟨⟨_, h, rfl⟩, _, h, rfl⟩
  | barr l => exact ⟨⟨_, h, rfl⟩, _, h, rfl⟩

theorem wpR_Call_method {prog : Program} {w : World} {E : Value → Shared → Prop} {env : Env} {o : Expr} {name : Str} {apos pos : Pos} {args : List Expr} {T id : String} {Q : Value → Shared → Prop}
    (hbase : attributeBase o name env (eval o env) = eval o env)
    (hform : methodCallForm (args.length + ([] : List Keyword).length) (backTo pos (starEach args env)) (backToKw pos (keywordEach [] env)) = true)
    (hline : methodCallPos true o env apos pos = pure pos)
    (pa : PlainAttrs T) (slot : Slot T name id) (hty : typeOf (.builtin id) = pure (.type "method_descriptor"))
    (h : wpR (model prog w) A (eval o env) (fun ov s₁ => s₁.TypeIs ov T ∧ (∀ a, ov = .ref a → ∃ ob, s₁.heap.get? a = some ob ∧ ob.dict = none) ∧
      wpR (model prog w) A (callWith pos (.builtin id) [ov] (backTo pos (starEach args env)) []) Q E s₁) E s) :
    wpR (model prog w) A (eval (.Call (.Attribute o name apos) args [] pos) env) Q E s := by
  rw [arm_eval_Call, hbase]
  refine wpR_bind (wpR_mono h (fun ov s₁ h₁ => ?_) fun _ _ e => e)
  obtain ⟨hT, hd, hc⟩ := h₁
  refine wpR_bind (wpR_standAt ?_)
  unfold methodCall
  rw [hform]
  refine wpR_bind (wpR_holding (toR (getMethod_builtin hT pa slot hty hd ?_)))
  exact wpR_bind (toR (wpAny_of_eq hline hc))
theorem form_plain {env : Env} {pos : Pos} {args : List Expr} (hp : args.any isStarred = false) (hn : args.length < 30) :
    methodCallForm (args.length + ([] : List Keyword).length) (backTo pos (starEach args env)) (backToKw pos (keywordEach [] env)) = true := by
  unfold methodCallForm
  have h1 := starEach_plain_any (env := env) (pos := pos) args hp
  have h2 : (backTo pos (starEach args env)).all (fun x => !x.1) = true := by
    rw [List.all_eq_true]
    intro x hx
    have := List.any_eq_false.mp h1 x hx
    simpa using this
  rw [h2]
  show (true && true && decide (args.length + 0 + 0 < 30)) = true
  simp [hn]

theorem X1.meth {x name : Str} {p ap ep : Pos} {args : List Expr} {vs : List PV} {id : String} (hx : σ.lookup x = some (.ref a)) (ha : Es Γ k sc σ (μ₁ ++ (a, o) :: μ₂) pos args vs) (hc : MethOk Γ id o vs o')
    (pa : PlainAttrs (POt o)) (slot : Slot (POt o) name id) (hty : typeOf (.builtin id) = pure (.type "method_descriptor")) (h : P .next σ (μ₁ ++ (a, o') :: μ₂))
    (hl : isVar (sc.names.lookup x) = true := by decide +kernel) (hk : sc.kind = .function := by kernel_rfl) (hd : (x == ("__debug__" : Str)) = false := by decide +kernel) (hcd : (x == ("__classdict__" : Str)) = false := by decide +kernel)
    (hp : args.any isStarred = false := by kernel_rfl) (hn30 : args.length < 30 := by decide +kernel)
    (hline : ∀ F : Fm, methodCallPos true (.Name x p) (F.env sc) ap pos = pure pos := by intro _; kernel_rfl)
    (hi : ∀ F : Fm, interactive (F.env sc) = false := by intro _; kernel_rfl)
    (hs : ∀ F : Fm, swapsWith (.Call (.Attribute (.Name x p) name ap) args [] pos) none ep.line (F.env sc) = pure false := by intro _; kernel_rfl) :
    X1 Γ k sc σ (μ₁ ++ (a, o) :: μ₂) (.Expr (.Call (.Attribute (.Name x p) name ap) args [] pos) ep) P := by
  intro A n F h₀ s Q E hn hA X hQ
  rw [exec_Expr _ _ _ (hi F) (hs F)]
  refine wpR_bind (wpR_standAt (wpR_bind (wpR_Call_method rfl (form_plain hp hn30) (hline F) pa slot hty ?_)))
  refine Ev.name (k := k) hx hl hk hd hcd A n F s _ _ hn hA X.toSt fun ov s₁ g₁ hov => ?_
  rw [V_ref] at hov; subst hov
  have X₁ := X.grow g₁
  have ho₁ := X₁.own a o (by simp)
  refine ⟨(POat.typeIs ho₁).1, fun b e => by cases e; exact (POat.typeIs ho₁).2, ?_⟩
  refine wpR_callWith (P := fun h => Kp Γ.B h) (starEach_plain_any args hp) (KeepOk.builtin) ?_
  refine wpR_evalArgs hp (ha A n F s₁ _ _ hn hA X₁.toSt fun vals s₂ g₂ hvs => ?_)
  have X₂ := X₁.grow g₂
  refine ⟨X₂.base, ?_⟩
  show wpR _ _ (PySem.call (.builtin id) ([.ref a] ++ vals) []) _ E s₂
  refine hc A n _ s₂ a vals _ E (by omega) hA X.ok X₂.base (X₂.own a o (by simp)) (.inr (by simp)) hvs X₂.toSt.dom fun h' tk hs' ho' => ?_
  obtain ⟨X₃, sp₃⟩ := X₂.upd (tk := tk) hs' ho'
  exact toR (wpAny_dropValue (hQ .next σ _ _ _ h X₃ ((Sp.gr (g₁.trans g₂)).trans sp₃) rfl))

theorem MethOk.ba_append {l : List UInt8} {i : Int} (h0 : 0 ≤ i) (h1 : i < 256) (hz : l.length < 2 ^ 20) : MethOk Γ "bytearray.append" (.barr l) [.int i] (.barr (l ++ [i.toNat.toUInt8])) := by
  intro A n D s a vals Q E _ hA ok hB ha hDa hv hD hQ
  rw [Vs_cons] at hv
  obtain ⟨v, r, rfl, hv, hr⟩ := hv
  rw [Vs_nil] at hr; subst hr
  obtain ⟨t, rfl⟩ := V_int.mp hv
  have ha' : s.heap.get? a = some (baObj l) := ha
  refine wpR_call (codeR_call_builtin (by kernel_rfl) F.ba_slot_append.plain F.ba_entry_append (F.ba_slot_append.check _ _ _ _ _ _ _ _ (typeIs_ba ha') (F.ba_args_append _ _) ?_))
  show wpR _ _ (Builtin.Bytes.byteValue (.int i t) >>= fun c => Builtin.Bytes.checkResize (.ref a) >>= fun _ => Builtin.Bytes.write (.ref a) (·.push c) >>= fun _ => ret .none) _ _ _
  have hb : Builtin.Bytes.byteValue (.int i t) = pure i.toNat.toUInt8 := by
    show (do
      if i < 0 || i ≥ 256 then rule "bytes.byte-out-of-range"; raiseError "ValueError" "byte must be in range(0, 256)"
      return i.toNat.toUInt8) = _
    have : (decide (i < 0) || decide (i ≥ 256)) = false := by simp; omega
    rw [this]; rfl
  refine wpR_bind (toR (wpAny_of_eq hb ?_))
  refine wpR_bind (wpR_checkResize hA.guards ha' ?_)
  refine wpR_bind (toR (wpAny_write (l' := l ++ [i.toNat.toUInt8]) ha' (by simp) (by rw [sizeLine_eq]; simp; omega) fun h' hs' ha2 => ?_))
  exact wpR_pure (hQ h' s.toks hs' ha2)
theorem MethOk.list_append {xs : List PV} {v : PV} (hz : xs.length < 2 ^ 20) : MethOk Γ "list.append" (.list xs) [v] (.list (xs ++ [v])) := by
  intro A n D s a vals Q E _ hA ok hB ha hDa hv hD hQ
  rw [Vs_cons] at hv
  obtain ⟨val, r, rfl, hv, hr⟩ := hv
  rw [Vs_nil] at hr; subst hr
  obtain ⟨items, m, ho, e⟩ := ha
  have hlen : items.size = xs.length := by simpa using e.length
  have hnode : ∀ (h' : Heap), Heap.SameBut a s.heap h' → ∀ b o', s.heap.get? b = some o' → Node D b o' → h'.get? b = some o' := fun h' hs b o' hb hn => (hs.2 b (fun q => by
    subst q; rw [ho] at hb; cases hb
    rcases hn with ⟨_, _, _, hn | hn⟩ | ⟨hn, _⟩
    · exact hn hDa
    · exact absurd hn (by show Value.type "list" ≠ Value.type "tuple"; decide)
    · exact absurd hn (by show Value.type "list" ≠ Value.type "range"; decide))).trans hb
  refine toR (wpAny_call_entry slot_list_append ⟨_, ho, rfl⟩ entry_list_append ?_ (args_list_append _ _))
  show wpAny _ _ (updateSeq a (·.push val) >>= fun _ => ret .none) _ _ s
  refine wpAny_bind (wpAny_updateSeq (hz := by rw [hlen, sizeLine_eq]; omega) ho rfl (wpAny_pure ⟨.none, rfl, ?_⟩))
  have hs : Heap.SameBut a s.heap (s.heap.update a (Obj.mapSeq (·.push val))) := Heap.SameBut.update ..
  refine hQ _ s.toks hs ⟨items.push val, _, Heap.get?_update_self _ ho rfl, ?_⟩
  rw [Array.toList_push]
  exact (e.move (hnode _ hs) fun _ _ _ d => d).append (Vs_cons.mpr ⟨val, [], rfl, hv.move (hnode _ hs) (fun _ _ _ d => d), Vs_nil.mpr rfl⟩)

/-! ### bytes of a bytearray -/
def atom : PV → Bool
  | .none | .bool _ | .int _ | .str _ | .bytes _ | .obj _ | .ref _ => true
  | _ => false
theorem V.atom {D D' : Addr → Prop} {h h' : Heap} {x : PV} {v : Value} (hx : Mine.atom x = true) (e : V D h x v) : V D' h' x v := by
  cases x with
  | none => rw [V_none] at *; exact e
  | bool b => rw [V_bool] at *; exact e
  | int i => rw [V_int] at *; exact e
  | str l => rw [V_str] at *; exact e
  | bytes l => rw [V_bytes] at *; exact e
  | obj w => rw [V_obj] at *; exact e
  | ref k => rw [V_ref] at *; exact e
  | _ => cases hx

theorem wpAny_slotIsOwn_ba {M : Model} {E : Value → Shared → Prop} {Q : Bool → Shared → Prop} {v : Value} (hT : s.TypeIs v "bytearray") (h : Q true s) : wpAny M A (Builtin.Bytes.slotIsOwn v "__buffer__") Q E s :=
  wpAny_slotIsOwn hT F.ba_buffer (by decide +kernel) (by rw [isSubtype_type]; kernel_rfl) h
theorem wpAny_slotIsOwn_b {M : Model} {E : Value → Shared → Prop} {Q : Bool → Shared → Prop} {v : Value} (hT : s.TypeIs v "bytes") (h : Q true s) : wpAny M A (Builtin.Bytes.slotIsOwn v "__buffer__") Q E s :=
  wpAny_slotIsOwn hT F.b_buffer (by decide +kernel) (by rw [isSubtype_type]; kernel_rfl) h
theorem wpAny_buffer_ba {M : Model} {E : Value → Shared → Prop} {id : String} {full : Bool} {l : List UInt8} {Q : Option (Array UInt8) → Shared → Prop} (ha : s.heap.get? a = some (baObj l)) (h : Q (some l.toArray) s) : wpAny M A (Builtin.Bytes.buffer? id (.ref a) full) Q E s := by
  unfold Builtin.Bytes.buffer?
  refine wpAny_bind (wpAny_specialOf (typeIs_ba ha) F.ba_buffer ?_)
  dsimp only
  refine wpAny_bind (wpAny_slotIsOwn_ba (typeIs_ba ha) ?_)
  simp only [Bool.not_true, Bool.false_eq_true, if_false]
  refine wpAny_bind (wpAny_specialOf (typeIs_ba ha) F.ba_buffer ?_)
  refine wpAny_bind (wpAny_ownRelease_ba (typeIs_ba ha) ?_)
  simp only [Bool.false_eq_true, if_false]
  exact wpAny_bind (wpAny_payload_ba ha (wpAny_pure h))
theorem wpAny_buffer_b {M : Model} {E : Value → Shared → Prop} {id : String} {full : Bool} {b : Array UInt8} {t : Tok} {Q : Option (Array UInt8) → Shared → Prop} (h : Q (some b) s) : wpAny M A (Builtin.Bytes.buffer? id (.bytes b t) full) Q E s := by
  unfold Builtin.Bytes.buffer?
  refine wpAny_bind (wpAny_specialOf (typeIs_bytes s b t) F.b_buffer ?_)
  dsimp only
  refine wpAny_bind (wpAny_slotIsOwn_b (typeIs_bytes s b t) ?_)
  simp only [Bool.not_true, Bool.false_eq_true, if_false]
  refine wpAny_bind (wpAny_specialOf (typeIs_bytes s b t) F.b_buffer ?_)
  refine wpAny_bind (wpAny_ownRelease_b (typeIs_bytes s b t) ?_)
  simp only [Bool.false_eq_true, if_false]
  exact wpAny_bind (wpAny_pure (wpAny_pure h))

theorem bm_new_ba {prog : Program} {w : World} {E : Value → Shared → Prop} {l : List UInt8} {Q : Value → Shared → Prop} (ha : s.heap.get? a = some (baObj l)) (hz : l.length ≤ sizeLine)
    (hQ : ∀ t k, Q (.bytes l.toArray t) { s with toks := k }) :
    codeAny (model prog w) A (.call (.builtin "bytes.__new__") ⟨[.type "bytes", .ref a], []⟩) (wants Q E) s := by
  refine codeAny_of_tree ?_
  show wpAny _ A.in1 (do checkBuiltinCall "bytes.__new__" ⟨[.type "bytes", .ref a], []⟩; again (.builtin "bytes.__new__" ⟨[.type "bytes", .ref a], []⟩)) _ _ s
  refine wpAny_bind (wpAny_of_eq (PySem.F.bm_newCall _) (wpAny_pure ⟨plainId_quiet PySem.F.bm_plain _, codeAny_builtin PySem.F.bm_entry ?_⟩))
  rw [Around.under_plainId PySem.F.bm_plain _]
  have hT := typeIs_ba ha
  unfold Builtin.«bytes.__new__»
  refine wpAny_bind (wpAny_of_eq (a := true) rfl ?_)
  refine bm_if_false rfl ?_
  refine wpAny_bind (wpAny_of_eq PySem.F.bm_sub ?_)
  refine bm_if_false rfl ?_
  refine wpAny_bind (wpAny_of_eq (PySem.F.bm_bind _) ?_)
  refine wpAny_bind (wpAny_of_eq (a := ()) rfl ?_)
  refine wpAny_bind (wpAny_of_eq (a := ()) rfl ?_)
  refine bm_if_false rfl ?_
  refine wpAny_bind (wpAny_specialOf hT F.ba_no_bytes ?_)
  refine wpAny_bind (wpAny_bind ?_)
  show wpAny _ _ (load a >>= _) _ _ _
  refine wpAny_bind (wpAny_load ha ?_)
  refine wpAny_pure (wpAny_pure ?_)
  refine bm_if_false rfl ?_
  refine wpAny_bind (wpAny_specialOf hT F.ba_no_index ?_)
  refine bm_if_true rfl ?_
  first
    | refine wpAny_bind (wpAny_buffer_ba ha ?_)
    | refine wpAny_bind (wpAny_bind (wpAny_buffer_ba ha ?_))
  refine wpAny_bind (wpAny_rule ?_)
  refine wpAny_bind (wpAny_mkBytes ?_ (by simpa using hz))
  show wpAny _ _ (if (Value.type "bytes" == Value.type "bytes") = true then _ else _) _ _ _
  refine bm_if_true (by decide) ?_
  exact wpAny_pure (hQ _ _)
theorem call_bytes_ba {prog : Program} {w : World} {E : Value → Shared → Prop} {l : List UInt8} {Q : Value → Shared → Prop} (ha : s.heap.get? a = some (baObj l)) (hz : l.length ≤ sizeLine)
    (hQ : ∀ t k, Q (.bytes l.toArray t) { s with toks := k }) : wpAny (model prog w) A (call (.type "bytes") [.ref a]) Q E s := by
  refine callType_codes (Q₁ := fun obj s₁ => s₁.TypeIs obj "bytes" ∧ Q obj s₁) PySem.F.bm_called (PySem.F.bm_typeCall _) PySem.F.entry_object_init
    (bm_new_ba ha hz fun t k => ⟨PySem.W.typeIs_bytes _ _ _, hQ t k⟩) fun obj s₁ h₁ => ?_
  exact ⟨h₁.1, PySem.F.args_object_init_2 obj _, object_init_meets PySem.F.bm_called.init.lookup PySem.F.bm_called.made (by decide) prog w A.in1 _ s₁ ⟨h₁.1, rfl, h₁.2⟩⟩

/-- bytes(x) of an owned bytearray -/
theorem Ev.bytesOf {x y : Str} {p p' : Pos} {l : List UInt8} (hf : Ev Γ k sc σ (μ₁ ++ (a, .barr l) :: μ₂) (.Name x p) (.obj (.type "bytes"))) (hy : σ.lookup y = some (.ref a)) (hz : l.length < 2 ^ 20)
    (hl : isVar (sc.names.lookup y) = true := by decide +kernel) (hk : sc.kind = .function := by kernel_rfl) (hd : (y == ("__debug__" : Str)) = false := by decide +kernel) (hcd : (y == ("__classdict__" : Str)) = false := by decide +kernel) :
    Ev Γ k sc σ (μ₁ ++ (a, .barr l) :: μ₂) (.Call (.Name x p) [.Name y p'] [] pos) (.bytes l) := by
  intro A n F s Q E hn hA st hQ
  refine wpR_CallName (hf A n F s _ _ hn hA st fun fv s₁ g₁ hfv => ?_)
  rw [V_obj] at hfv; subst hfv
  refine wpR_callWith (P := fun h => Kp Γ.B h) (starEach_plain_any _ rfl) KeepOk.type ?_
  refine wpR_evalArgs rfl (Es.cons (Ev.name (k := k) hy hl hk hd hcd) Es.nil (fun _ => rfl) A n F s₁ _ _ hn hA (st.grow g₁) fun vals s₂ g₂ hvs => ?_)
  have st₂ := (st.grow g₁).grow g₂
  refine ⟨st₂.base, ?_⟩
  rw [Vs_cons] at hvs
  obtain ⟨v, r, rfl, hv, hr⟩ := hvs
  rw [Vs_nil] at hr; subst hr
  rw [V_ref] at hv; subst hv
  show wpR _ _ (PySem.call (.type "bytes") [.ref a] []) Q E s₂
  exact toR (call_bytes_ba (st₂.own a (.barr l) (by simp)) (by rw [sizeLine_eq]; omega) fun t tk => hQ _ _ ((g₁.trans g₂).trans (Gr.toks tk)) (V.bytes _ _))
theorem Op2.itemB {l : List UInt8} {i : Int} (h0 : 0 ≤ i) (h1 : i < l.length) (hz : l.length < 2 ^ 20) : Op2 Γ getItem (.bytes l) (.int i) (.int (l.getD i.toNat 0).toNat) := by
  intro A n D s x y Q E _ _ _ _ hv hy _ hQ
  obtain ⟨t, rfl⟩ := V_bytes.mp hv
  obtain ⟨u, rfl⟩ := V_int.mp hy
  exact getItem_bytes (by omega) h0 h1 (hQ _ _ (Gr.toks _) (V.int _ _))
theorem Truth.int {i : Int} : Truth Γ (.int i) (i != 0) := by
  intro A n D s x Q E _ _ _ hx hQ
  obtain ⟨t, rfl⟩ := V_int.mp hx
  exact PyProof.Rows.truthy_int (hQ s (Gr.refl s))
end
end Mine

set_option maxRecDepth 100000
namespace Mine

section
variable {Γ : Cx} {k : Nat} {sc : Scope} {σ : Loc} {μ : Own} {pos : Pos}

/-! ### slices -/
def cutL {α : Type} (l : List α) (lo hi : Option Int) : List α := (l.drop (lo.elim 0 (clipAt l.length))).take (hi.elim l.length (clipAt l.length) - lo.elim 0 (clipAt l.length))
theorem SliceOk.bytes {l : List UInt8} {lo hi : Option Int} (hz : l.length < 2 ^ 20) : SliceOk Γ (.bytes l) lo hi none (.bytes (cutL l lo hi)) := by
  intro A n D s x sl vl vu vs Q E _ _ hv hD hs pl pu ps hQ
  obtain ⟨t, rfl⟩ := V_bytes.mp hv
  cases ps
  refine getItem_meets (typeIs_bytes _ _ _) (by decide) FB.slot_bytes_getitem FB.entry_bytes_getitem (FB.args_bytes_getitem_2 _ _) (KBc.meets_slice2 l.toArray t _ pl pu)
    ⟨hs, Nat.le_trans (KBc.size_picked_le _ lo hi) (by rw [sizeLine_eq]; simp; omega), fun t' k => hQ _ _ (Gr.toks k) ?_⟩
  rw [KBc.picked_eq]
  have : (l.toArray).size = l.length := by simp
  rw [this]
  exact V.bytes _ _

/-! ### equality of bytes, and membership -/
theorem eqBool_bytes {prog : Program} {w : World} {A : Around} {E : Value → Shared → Prop} {s : Shared} {b c : Array UInt8} {t u : Tok} {Q : Bool → Shared → Prop} (h : Q (b.toList == c.toList) s) : wpAny (model prog w) A (eqBool (.bytes b t) (.bytes c u)) Q E s := by
  unfold eqBool
  show wpAny _ _ (if (Value.bytes b t == Value.bytes c u) = true then _ else _) Q E s
  by_cases hab : (Value.bytes b t == Value.bytes c u) = true
  · rw [if_pos hab]
    have e : b = c := by have := eq_of_beq hab; injection this
    subst e
    exact wpAny_bind (wpAny_rule (wpAny_pure (by simpa using h)))
  · rw [if_neg hab]
    exact wpAny_bind (richCompare_gives (op := .Eq) (typeIs_bytes s b t) (typeIs_bytes s c u) FB.slot_bytes_eq FB.entry_bytes_eq (FB.args_bytes_eq_2 _ _) (gives_bytes_eq b c t u) (fun x => nomatch x) (wpAny_truthy_bool h))

def isBytes (l : List UInt8) : Value → Bool
  | .bytes b _ => b.toList == l
  | _ => false
theorem Vs.anyBytes {D : Addr → Prop} {h : Heap} {l : List UInt8} : ∀ {ls : List (List UInt8)} {vs : List Value}, Vs D h (ls.map .bytes) vs → vs.any (isBytes l) = ls.any (· == l) ∧ ∀ v ∈ vs, ∃ b t, v = .bytes b t
  | [], vs, e => by simp only [List.map_nil, Vs_nil] at e; subst e; exact ⟨rfl, fun _ h => nomatch h⟩
  | x :: ls, vs, e => by
    simp only [List.map_cons, Vs_cons] at e
    obtain ⟨v, r, rfl, e2, e3⟩ := e
    obtain ⟨t, rfl⟩ := V_bytes.mp e2
    obtain ⟨i1, i2⟩ := Vs.anyBytes e3
    refine ⟨by rw [List.any_cons, List.any_cons, i1]; rfl, fun v hv => ?_⟩
    rcases List.mem_cons.mp hv with rfl | hv
    · exact ⟨_, _, rfl⟩
    · exact i2 v hv
theorem Op2.inBytes {l : List UInt8} {ls : List (List UInt8)} : Op2 Γ (compareOp .In) (.bytes l) (.tup (ls.map .bytes)) (.bool (ls.any (· == l))) := by
  intro A n D s x y Q E _ _ _ _ hx hy _ hQ
  obtain ⟨t, rfl⟩ := V_bytes.mp hx
  obtain ⟨a, items, rfl, hT, hvs⟩ := V_tup.mp hy
  obtain ⟨e1, e2⟩ := hvs.anyBytes (l := l)
  refine PySem.SeqAt.in_tupleAt (isBytes l) hT (fun y hy => ?_) ?_
  · obtain ⟨b, u, rfl⟩ := e2 y (by simpa using hy)
    intro prog w E Q hq
    exact eqBool_bytes hq
  · have : items.any (isBytes l) = ls.any (· == l) := by rw [← Array.any_toList]; exact e1
    rw [this]; exact hQ _ _ (Gr.refl s) (V.bool _)
theorem Op2.eqB {a b : List UInt8} : Op2 Γ (compareOp .Eq) (.bytes a) (.bytes b) (.bool (a == b)) := by
  intro A n D s x y Q E _ _ _ _ hx hy _ hQ
  obtain ⟨t, rfl⟩ := V_bytes.mp hx; obtain ⟨u, rfl⟩ := V_bytes.mp hy
  exact eq_bytes (hQ _ _ (Gr.refl s) (V.bool _))
theorem Op2.neB {a b : List UInt8} : Op2 Γ (compareOp .NotEq) (.bytes a) (.bytes b) (.bool (a != b)) := by
  intro A n D s x y Q E _ _ _ _ hx hy _ hQ
  obtain ⟨t, rfl⟩ := V_bytes.mp hx; obtain ⟨u, rfl⟩ := V_bytes.mp hy
  exact ne_bytes (hQ _ _ (Gr.refl s) (V.bool _))
end
end Mine

set_option maxRecDepth 100000
namespace Mine

/-! ## list comprehensions -/

def inSc (sc cs : Scope) : Scope := { cs with names := cs.names.map fun (n, k) => if k == .free && sc.kind == .function && sc.names.lookup n == some .cell then (n, .cell) else (n, k) }

def closL (cells : List (Str × Addr)) : List (Str × NameKind) → List (Str × Addr) → List (Str × Addr)
  | [], acc => acc
  | (n, k) :: r, acc => closL cells r (if k == .free then (n, (cells.lookup n).getD 0) :: acc else acc)

theorem closureFor_eq {scope : Scope} {env : Env} (h : ∀ x ∈ scope.names, x.2 = .free → (env.cells.lookup x.1).isSome) : closureFor scope env = pure (closL env.cells scope.names []) := by
  have key : ∀ (l : List (Str × NameKind)) (acc : List (Str × Addr)), (∀ x ∈ l, x.2 = .free → (env.cells.lookup x.1).isSome) →
      (forIn l acc fun x r => if (x.2 == .free) = true then do let c ← cellOf env x.1; pure (ForInStep.yield ((x.1, c) :: r)) else pure (ForInStep.yield r) : Sem (List (Str × Addr))) = pure (closL env.cells l acc) := by
    intro l
    induction l with
    | nil => intro acc _; rfl
    | cons x l ih =>
      intro acc hx
      obtain ⟨n, k⟩ := x
      rw [List.forIn_cons]
      have ih' := fun acc => ih acc fun x hm => hx x (List.mem_cons_of_mem _ hm)
      by_cases hk : k = .free
      · subst hk
        obtain ⟨c, hc⟩ := Option.isSome_iff_exists.mp (hx (n, .free) List.mem_cons_self rfl)
        have : cellOf env n = pure c := by unfold cellOf; rw [hc]
        simp only [beq_self_eq_true, if_true, this]
        simp only [closL, beq_self_eq_true, if_true, hc, Option.getD_some]
        exact ih' _
      · have hb : (k == NameKind.free) = false := by simpa using hk
        simp only [hb, Bool.false_eq_true, if_false, closL]
        exact ih' _
  have := key scope.names [] h
  unfold closureFor
  simp only [bind_pure]
  exact this

theorem closL_has (cells : List (Str × Addr)) : ∀ (l : List (Str × NameKind)) (acc : List (Str × Addr)) (n : Str), ((n, NameKind.free) ∈ l ∨ acc.lookup n = some ((cells.lookup n).getD 0)) → (closL cells l acc).lookup n = some ((cells.lookup n).getD 0)
  | [], acc, n, h => by
    rcases h with h | h
    · cases h
    · exact h
  | (m, k) :: r, acc, n, h => by
    rw [closL]
    refine closL_has cells r _ n ?_
    by_cases hk : k = .free
    · subst hk
      simp only [beq_self_eq_true, if_true]
      by_cases hm : n = m
      · subst hm; right; rw [List.lookup_cons]; simp
      · have : (n == m) = false := beq_eq_false_iff_ne.mpr hm
        rw [List.lookup_cons, this]
        rcases h with h | h
        · rcases List.mem_cons.mp h with h | h
          · cases h; exact absurd rfl hm
          · exact .inl h
        · exact .inr h
    · have hb : (k == NameKind.free) = false := by simpa using hk
      simp only [hb, Bool.false_eq_true, if_false]
      rcases h with h | h
      · rcases List.mem_cons.mp h with h | h
        · cases h; exact absurd rfl hk
        · exact .inl h
      · exact .inr h
theorem closL_only (cells : List (Str × Addr)) : ∀ (l : List (Str × NameKind)) (acc : List (Str × Addr)) (n : Str) (c : Addr), (closL cells l acc).lookup n = some c → ((n, NameKind.free) ∈ l ∧ c = (cells.lookup n).getD 0) ∨ acc.lookup n = some c
  | [], acc, n, c, h => .inr h
  | (m, k) :: r, acc, n, c, h => by
    rw [closL] at h
    rcases closL_only cells r _ n c h with h' | h'
    · exact .inl ⟨List.mem_cons_of_mem _ h'.1, h'.2⟩
    · by_cases hk : k = .free
      · subst hk
        simp only [beq_self_eq_true, if_true] at h'
        rw [List.lookup_cons] at h'
        cases hm : (n == m) with
        | true =>
          rw [hm] at h'; simp at h'
          have hm' := beq_iff_eq.mp hm
          subst hm'
          exact .inl ⟨List.mem_cons_self, h'.symm⟩
        | false => rw [hm] at h'; exact .inr h'
      · have hb : (k == NameKind.free) = false := by simpa using hk
        simp only [hb, Bool.false_eq_true, if_false] at h'
        exact .inr h'

theorem lookup_mapk (g : Str → NameKind → NameKind) (n : Str) : ∀ l : List (Str × NameKind), (l.map fun p => (p.1, g p.1 p.2)).lookup n = (l.lookup n).map (g n)
  | [] => rfl
  | (m, k) :: l => by
    rw [List.map_cons, List.lookup_cons, List.lookup_cons]
    cases h : (n == m) with
    | true => have hm := beq_iff_eq.mp h; subst hm; rfl
    | false => exact lookup_mapk g n l
theorem lookup_inSc (sc cs : Scope) (n : Str) : (inSc sc cs).names.lookup n = (cs.names.lookup n).map fun k => if k == .free && sc.kind == .function && sc.names.lookup n == some .cell then .cell else k := by
  rw [← lookup_mapk (fun n k => if k == .free && sc.kind == .function && sc.names.lookup n == some .cell then .cell else k)]
  show (List.map _ cs.names).lookup n = _
  congr 2
  funext p
  obtain ⟨m, k⟩ := p
  dsimp only
  split <;> rfl

section
variable {M : Model} {A : Around} {E : Value → Shared → Prop} {s : Shared} {env : Env}
theorem wpR_standIf {α : Type} {c : Prop} [Decidable c] {pos : Pos} {k : PUnit → Sem α} {Q : α → Shared → Prop} (h : wpR M A (k ()) Q E s) :
    wpR M A (if c then (standAt pos >>= k) else k ()) Q E s := by
  split
  · exact wpR_bind (wpR_standAt h)
  · exact h

/-- what is asked at a comprehension's end -/
def compEnd (M : Model) (A : Around) (E : Value → Shared → Prop) (Q : Value → Shared → Prop) (L : Addr) (acc : Value) : Option (Value → Sem Unit) → Shared → Prop
  | none, s' => ∃ m, s'.heap.Ns L m ∧ ∀ h', Heap.SameBut L s'.heap h' → Q acc { s' with heap := h' }
  | some u, s' => wpR M A (u acc) (fun _ s'' => ∃ m, s''.heap.Ns L m ∧ ∀ h', Heap.SameBut L s''.heap h' → Q .none { s'' with heap := h' }) E s'

theorem wpR_comprehension {e : Expr} {cs : Scope} {pos : Pos} {newAcc first : Sem Value} {g : Comprehension} {gs : List Comprehension} {use : Option (Value → Sem Unit)} {Q : Value → Shared → Prop}
    (hcl : clausesOf e = g :: gs) (hs : ∀ x, foldedSetIterable g.iter env x = pure x) (hkind : cs.kind = .function) (hfree : ∀ x ∈ cs.names, x.2 = .free → (env.cells.lookup x.1).isSome)
    (hnames : ∀ x ∈ cs.names, x.2 = .local → cs.names.lookup x.1 = some .local)
    (h : wpR M A first (fun x s₁ => wpR M A (pyIter x) (fun it s₂ => wpR M A newAcc (fun acc s₃ =>
      wpR M A (newFunctionEnv cs env.globals (closL env.cells cs.names []) [] env.qual none .none (some env)) (fun cenv s₄ =>
        codeR M A (.compStart e 0 it acc { cenv with scope := inSc env.scope cs }) (fun r s' => match r with | .ok _ => compEnd M A E Q cenv.locals acc use s' | .error x => False) s₄) E s₃) E s₂) E s₁) E s) :
    wpR M A (comprehension e cs env pos newAcc false first use) Q E s := by
  unfold comprehension
  rw [closureFor_eq hfree, hcl]
  refine wpR_bind (wpR_mono h (fun x s₁ h₁ => wpR_bind (wpR_standAt (wpR_bind (toR (wpAny_of_eq (hs x) (wpR_bind (wpR_holding (wpR_mono h₁ (fun it s₂ h₂ =>
    wpR_standIf (wpR_bind (wpR_mono h₂ (fun acc s₃ h₃ => wpR_bind (wpR_pure (wpR_bind (wpR_mono h₃ (fun cenv s₄ h₄ => ?_) fun _ _ h' => h')))) fun _ _ h' => h')))
      fun _ _ h' => h')))))))) fun _ _ h' => h')
  dsimp only
  have hv : ∀ x : Str × NameKind, x ∈ (cs.names.filter fun x => (x.2 == .local || x.2 == .cell) && x.1 != (".0" : Str)) → x.2 = .local →
      Env.kindOf { cenv with scope := inSc env.scope cs } x.1 = some .local := fun x hx hl => by
    show (inSc env.scope cs).names.lookup x.1 = some .local
    rw [lookup_inSc, hnames x (List.mem_filter.mp hx).1 hl]; rfl
  refine wpR_holding (wpR_bind (wpR_attempt (wpR_holding (wpR_run (codeR_mono h₄ fun r s' hr => ?_)))))
  cases r with
  | error x => exact hr.elim
  | ok f =>
    cases use with
    | none =>
      obtain ⟨m, hn, hr⟩ := hr
      exact wpR_bind (wpR_holding (toR (wpAny_comp_letGo (cenv := { cenv with scope := inSc env.scope cs }) hkind _ s' m (fun x hx => hv x (List.mem_reverse.mp hx)) hn fun h' m' _ hs' => wpR_pure (hr h' hs'))))
    | some u =>
      refine wpR_bind (wpR_rule (wpR_bind (wpR_holding (wpR_mono hr (fun _ s'' hr' => ?_) fun _ _ h' => h'))))
      obtain ⟨m, hn, hr'⟩ := hr'
      refine wpR_bind (toR (wpAny_comp_letGo (cenv := { cenv with scope := inSc env.scope cs }) hkind _ s'' m (fun x hx => ?_) hn fun h' m' _ hs' => wpR_pure (hr' h' hs')))
      refine hv x (List.mem_reverse.mp ?_)
      rcases List.mem_append.mp hx with hx | hx
      · exact List.mem_of_mem_drop hx
      · exact List.mem_of_mem_take hx
end

section
variable {prog : Program} {w : World} {A : Around} {R : Result → Shared → Prop} {s : Shared} {env : Env}
theorem wpR_notedAt {α : Type} {M : Model} {m : Sem α} {pos : Pos} {Q : α → Shared → Prop} {E : Value → Shared → Prop} (h : wpR M A m Q (noted M A env E) s) :
    wpR M A (m.onRaise fun x => do noteFrame x env; standAt pos) Q E s :=
  wpR_onRaise (wpR_mono h (fun _ _ q => q) fun _ _ hx => wpR_bind (wpR_mono hx (fun _ _ e => wpR_standAt e) fun _ _ e => e))
theorem codeR_compStart {elt target iter : Expr} {ifs : List Expr} {rest : List Comprehension} {scope : Scope} {pos : Pos} {it acc : Value}
    (h0 : codeR (model prog w) A (.compLoop (.ListComp elt (⟨target, iter, ifs, 0⟩ :: rest) scope pos) 0 it acc env) R s)
    (h : wpR (model prog w) A (pyIter it) (fun it' s' => codeR (model prog w) A (.compLoop (.ListComp elt (⟨target, iter, ifs, 0⟩ :: rest) scope pos) 0 it' acc env) R s')
      (noted (model prog w) A env fun x s' => R (.error x) s') s) :
    codeR (model prog w) A (.compStart (.ListComp elt (⟨target, iter, ifs, 0⟩ :: rest) scope pos) 0 it acc env) R s := by
  refine codeR_of_tree rfl ?_
  show wpR _ _ ((compStart (.ListComp elt (⟨target, iter, ifs, 0⟩ :: rest) scope pos) 0 it acc env).onRaise (fun x => do noteFrame x env; standAt theWindowsPlace)) _ _ s
  refine wpR_notedAt ?_
  unfold compStart
  show wpR _ _ (ask >>= _) _ _ s
  refine wpR_bind (toR (wpAny_askSetting ?_))
  split
  · exact wpR_pure (And.intro rfl h0)
  · refine wpR_bind (wpR_rule ?_)
    show wpR _ _ (standAt iter.pos >>= _) _ _ s
    exact wpR_bind (wpR_standAt (wpR_bind (wpR_mono h (fun it' s' h' => wpR_pure (And.intro rfl h')) fun _ _ x => x)))

def compIfs (ifs : List Expr) (env : Env) : Sem Bool :=
  forIn ifs true fun c r => if r = true then do let ok ← isTrue c env (eval c env); pure (ForInStep.yield ok) else pure (ForInStep.yield r)
theorem codeR_compLoop1 {elt target iter : Expr} {ifs : List Expr} {scope : Scope} {pos : Pos} {it acc : Value}
    (h : wpR (model prog w) A (pyNext it) (fun r s₁ => match r with
      | none => R (.ok .next) s₁
      | some v => wpR (model prog w) A (letOwnedTupleGo target it v) (fun _ s₁' => wpR (model prog w) A (assign target env v) (fun _ s₂ => wpR (model prog w) A (compIfs ifs env) (fun ok s₃ =>
            if ok = true then wpR (model prog w) A (eval elt env) (fun x s₄ =>
              wpR (model prog w) A (call (.builtin "list.append") [acc, x]) (fun _ s₅ => codeR (model prog w) A (.compLoop (.ListComp elt [⟨target, iter, ifs, 0⟩] scope pos) 0 it acc env) R s₅) (noted (model prog w) A env fun e s' => R (.error e) s') s₄) (noted (model prog w) A env fun e s' => R (.error e) s') s₃
            else codeR (model prog w) A (.compLoop (.ListComp elt [⟨target, iter, ifs, 0⟩] scope pos) 0 it acc env) R s₃) (noted (model prog w) A env fun e s' => R (.error e) s') s₂)
              (noted (model prog w) A env fun e s' => R (.error e) s') s₁') (noted (model prog w) A env fun e s' => R (.error e) s') s₁) (noted (model prog w) A env fun e s' => R (.error e) s') s) :
    codeR (model prog w) A (.compLoop (.ListComp elt [⟨target, iter, ifs, 0⟩] scope pos) 0 it acc env) R s := by
  refine codeR_of_tree rfl ?_
  show wpR _ A ((compTurn (.ListComp elt [⟨target, iter, ifs, 0⟩] scope pos) 0 it acc env).onRaise (fun x => do noteFrame x env; theTreesLotGoes x)) _ _ s
  refine wpR_noted ?_
  rw [compTurn_list]
  refine wpR_bind (wpR_standAt (wpR_bind (wpR_mono h (fun r s₁ h₁ => ?_) fun _ _ h' => h')))
  cases r with
  | none => exact wpR_pure h₁
  | some v =>
    refine wpR_bind (wpR_mono h₁ (fun _ s₁' h₁' => ?_) fun _ _ h' => h')
    refine wpR_bind (wpR_mono h₁' (fun _ s₂ h₂ => wpR_bind (wpR_mono h₂ (fun ok s₃ h₃ => ?_) fun _ _ h' => h')) fun _ _ h' => h')
    cases ok with
    | false => exact wpR_pure ⟨rfl, h₃⟩
    | true =>
      exact wpR_bind (wpR_bind (wpR_mono h₃ (fun x s₄ h₄ => wpR_bind (wpR_mono h₄ (fun _ s₅ h₅ => wpR_pure (wpR_pure ⟨rfl, h₅⟩)) fun _ _ h' => h')) fun _ _ h' => h'))
end

section
variable {Γ : Cx} {k : Nat} {sc cs : Scope} {σ σf : Loc} {μ : Own} {pos : Pos}

/-- the tests of a comprehension -/
def CIf (Γ : Cx) (k : Nat) (sc : Scope) (σ : Loc) (μ : Own) : List Expr → Bool → Prop
  | [], b => b = true
  | [c], b => Tr Γ k sc σ μ c b
  | _, _ => False
/-- a turn of a comprehension: an item gives a value, or none -/
def Turn (Γ : Cx) (k : Nat) (sc cs : Scope) (σf : Loc) (target : Expr) (ifs : List Expr) (elt : Expr) (x : PV) (r : Option PV) : Prop :=
  ∃ σ₁ b, (∀ μ, As Γ k sc σf μ target x σ₁ cs) ∧ (∀ y v, σf.lookup y = some v → σ₁.lookup y = some v) ∧ (∀ μ, CIf Γ k sc σ₁ μ ifs b) ∧
    (b = true → ∃ v, r = some v ∧ ∀ μ, Ev Γ k sc σ₁ μ elt v) ∧ (b = false → r = none)
theorem Turn.all {target elt : Expr} {x v : PV} {σ₁ : Loc} (ha : ∀ μ, As Γ k sc σf μ target x σ₁ cs) (hs : Sub σ₁ σf) (he : ∀ μ, Ev Γ k sc σ₁ μ elt v) : Turn Γ k sc cs σf target [] elt x (some v) :=
  ⟨σ₁, true, ha, hs.to, fun _ => rfl, fun _ => ⟨v, rfl, he⟩, fun h => nomatch h⟩
theorem Turn.if {target elt c : Expr} {x v : PV} {σ₁ : Loc} {b : Bool} (ha : ∀ μ, As Γ k sc σf μ target x σ₁ cs) (hs : Sub σ₁ σf) (hc : ∀ μ, Tr Γ k sc σ₁ μ c b) (he : b = true → ∀ μ, Ev Γ k sc σ₁ μ elt v) :
    Turn Γ k sc cs σf target [c] elt x (if b then some v else none) :=
  ⟨σ₁, b, ha, hs.to, hc, fun h => ⟨v, by rw [h]; rfl, he h⟩, fun h => by rw [h]; rfl⟩

theorem CIf.run {A : Around} {n : Nat} {F : Fm} {s : Shared} {ifs : List Expr} {b : Bool} {Q : Bool → Shared → Prop} {E : Value → Shared → Prop} (h : CIf Γ k sc σ μ ifs b) (hn : n + k ≤ 8) (hA : Lv n A) (st : St Γ sc F σ μ s)
    (hQ : ∀ s', Gr s s' → Q b s') : wpR Γ.M A (compIfs ifs (F.env sc)) Q E s := by
  match ifs, h with
  | [], h => subst h; exact wpR_pure (hQ s (Gr.refl s))
  | [c], h =>
    unfold compIfs
    simp only [List.forIn_cons, List.forIn_nil, if_true]
    have h' : Tr Γ k sc σ μ c b := h
    exact wpR_bind (wpR_bind (h' A n F s _ E hn hA st fun s' g => wpR_pure (wpR_pure (hQ s' g))))
  | _ :: _ :: _, h => exact h.elim

/-- the loop of a comprehension -/
theorem comp_loop {elt target iter : Expr} {ifs : List Expr} {A : Around} {n : Nat} {F : Fm} {h₁ : Heap} {acc it : Addr} {wr : List Addr} {J : (Addr → Prop) → List PV → Heap → Prop} {R : Result → Shared → Prop} {s₀ : Shared}
    {nd : Bool} (hn : n + k ≤ 8) (hA : Lv n A) (hI : Iter Γ A it wr J nd) (hnd : nd = true → isTupE target = true) (hw : ∀ b ∈ wr, h₁.get? b = none) : ∀ {xs : List PV} {rs : List (Option PV)}, Paired (Turn Γ k sc cs σf target ifs elt) xs rs → ∀ (ys : List PV) (σ' : Loc) (s : Shared), ys.length + xs.length < 2 ^ 20 →
      Sx Γ h₁ sc F σ' [(acc, .list ys)] s cs → (∀ y v, σf.lookup y = some v → σ'.lookup y = some v) → J (Dm F [(acc, .list ys)]) xs s.heap → s.gens = s₀.gens → s.os = s₀.os →
      (∀ σ'' s', Sx Γ h₁ sc F σ'' [(acc, .list (ys ++ rs.filterMap id))] s' cs → s'.gens = s₀.gens → s'.os = s₀.os → R (.ok .next) s') →
      codeR Γ.M A (.compLoop (.ListComp elt [⟨target, iter, ifs, 0⟩] cs pos) 0 (.ref it) (.ref acc) (F.env sc)) R s := by
  intro xs rs hp
  induction hp with
  | nil =>
    intro ys σ' s hz X hσ hJ hg ho hR
    refine codeR_compLoop1 (toR (wpAny_mono (hI.done _ s (fun s₁ => R (.ok .next) s₁) _ hJ fun h' tk hk => ?_) (fun r s₁ hr => ?_) fun _ _ e => e))
    · exact hR σ' _ (by simpa using X.wr (tk := tk) hk (hI.wrs _ _ _ hJ) hw) hg ho
    · obtain ⟨rfl, hr⟩ := hr; exact hr
  | @cons x r xs rs ht _ ih =>
    intro ys σ' s hz X hσ hJ hg ho hR
    obtain ⟨σ₁, b, hAs, hsub, hif, hyes, hno⟩ := ht
    have hz' : ys.length + (xs.length + 1) < 2 ^ 20 := hz
    refine codeR_compLoop1 (toR (wpAny_mono (hI.item _ x xs s target (fun v s₁ => wpR Γ.M A (assign target (F.env sc) v) (fun _ s₂ => wpR Γ.M A (compIfs ifs (F.env sc)) (fun ok s₃ =>
            if ok = true then wpR Γ.M A (eval elt (F.env sc)) (fun x s₄ =>
              wpR Γ.M A (PySem.call (.builtin "list.append") [.ref acc, x]) (fun _ s₅ => codeR Γ.M A (.compLoop (.ListComp elt [⟨target, iter, ifs, 0⟩] cs pos) 0 (.ref it) (.ref acc) (F.env sc)) R s₅) (noted Γ.M A (F.env sc) fun e s' => R (.error e) s') s₄) (noted Γ.M A (F.env sc) fun e s' => R (.error e) s') s₃
            else codeR Γ.M A (.compLoop (.ListComp elt [⟨target, iter, ifs, 0⟩] cs pos) 0 (.ref it) (.ref acc) (F.env sc)) R s₃) (noted Γ.M A (F.env sc) fun e s' => R (.error e) s') s₂)
              (noted Γ.M A (F.env sc) fun e s' => R (.error e) s') s₁) _ hJ X.toSt.dom hnd fun v h' tk hv hJ' hk => ?_) (fun r s₁ hr => ?_) fun _ _ e => e))
    · have X' := (X.wr (tk := tk) hk (hI.wrs _ _ _ hJ) hw).less hσ
      refine toR (hAs _ A n F h₁ _ v _ _ hn hA X' hv fun s₂ X₂ sp₂ => ?_)
      refine CIf.run (hif _) hn hA X₂.toSt fun s₃ g₃ => ?_
      have X₃ := X₂.grow g₃
      have sp₃ := sp₂.trans (Sp.gr (F := F) (μ := [(acc, .list ys)]) g₃)
      cases b with
      | false =>
        have := hno rfl
        subst this
        simp only [Bool.false_eq_true, if_false]
        refine ih ys σ₁ s₃ (by omega) X₃ hsub (hI.move _ _ _ _ _ (X'.hk X₃ sp₃) (fun b o hb d => sp₃.dom b (by rw [hb]; rfl) d) hJ') (sp₃.gens.trans hg) (sp₃.os.trans ho) fun σ'' s' Y => hR σ'' s' (by simpa using Y)
      | true =>
        obtain ⟨v', rfl, hev⟩ := hyes rfl
        simp only [if_true]
        refine hev _ A n F s₃ _ _ hn hA X₃.toSt fun val s₄ g₄ hval => ?_
        have X₄ := X₃.grow g₄
        refine MethOk.list_append (Γ := Γ) (xs := ys) (v := v') (by omega) A n _ s₄ acc [val] _ _ (by omega) hA X.ok X₄.base (X₄.own acc (.list ys) (by simp)) (.inr (by simp)) (Vs_cons.mpr ⟨val, [], rfl, hval, Vs_nil.mpr rfl⟩) X₄.toSt.dom fun h5 tk5 hs5 ho5 => ?_
        obtain ⟨X₅, sp₅⟩ := Sx.upd (μ₁ := []) (μ₂ := []) (o' := .list (ys ++ [v'])) (tk := tk5) X₄ hs5 ho5
        have sp₆ := (sp₃.trans (Sp.gr (F := F) (μ := [(acc, .list ys)]) g₄)).trans sp₅
        have hk6 : ∀ b o, h'.get? b = some o → DataOk o.data → (¬ Dm F [(acc, .list ys)] b ∨ o.cls = .type "tuple" ∨ o.cls = .type "range") → h5.get? b = some o := X'.hk X₅ sp₆
        refine ih (ys ++ [v']) σ₁ _ (by simp; omega) X₅ hsub (hI.move _ _ _ _ _ hk6 (fun b o hb d => sp₆.dom b (by rw [hb]; rfl) d) hJ') (sp₆.gens.trans hg) (sp₆.os.trans ho) fun σ'' s' Y => hR σ'' s' (by simpa using Y)
    · cases r with
      | none => exact hr.elim
      | some v => exact toR (wpAny_mono hr (fun _ _ e => e) fun _ _ e => e)

def isCF : Option NameKind → Bool
  | some .cell | some .free => true
  | _ => false
def freeOk (sc cs : Scope) (σ : Loc) : Bool := cs.names.all fun x => x.2 != .free || ((σ.lookup x.1).isSome && isCF (sc.names.lookup x.1))
def freeIn (cs : Scope) (σf : Loc) : Bool := σf.all fun p => cs.names.lookup p.1 == some .free
def cleanSc (cs : Scope) : Bool := (cs.kind == .function) && cs.names.all fun x => x.2 != .cell && (x.2 != .local || cs.names.lookup x.1 == some .local)

theorem freeOk.at {F : Fm} {s : Shared} (h : freeOk sc cs σ = true) (st : St Γ sc F σ μ s) : ∀ n, (n, NameKind.free) ∈ cs.names → ∃ v c val, σ.lookup n = some v ∧ F.cl.lookup n = some c ∧ s.heap.IsCell c (some val) ∧ V (Dm F μ) s.heap v val := by
  intro n hn
  have := List.all_eq_true.mp h _ hn
  simp only [bne_self_eq_false, Bool.false_or, Bool.and_eq_true] at this
  obtain ⟨h1, h2⟩ := this
  obtain ⟨v, hv⟩ := Option.isSome_iff_exists.mp h1
  have : sc.names.lookup n = some .cell ∨ sc.names.lookup n = some .free := by
    unfold isCF at h2
    split at h2
    · left; assumption
    · right; assumption
    · cases h2
  obtain ⟨c, val, e1, e2, e3⟩ := st.cel n v hv this
  exact ⟨v, c, val, hv, e1, e2, e3⟩

/-- what stands when the loop of a comprehension begins -/
theorem comp_start {F : Fm} {s s₃ : Shared} {acc : Addr} {h' : Heap} {tk : Nat} (st : St Γ sc F σ μ s) (g : Gr s s₃) (hfo : freeOk sc cs σ = true) (hfi : freeIn cs σf = true) (hcl : cleanSc cs = true) (hsub : Sub σ σf)
    (hacc0 : s.heap.get? acc = none) (hacc : s₃.heap.get? acc = some { cls := .type "list", data := .seq #[] })
    (hns : h'.Ns s₃.heap.objs.size (fun x => ([] : List (Str × Value)).reverse.lookup x)) (hsb : Heap.SameBut s₃.heap.objs.size (s₃.heap.push { cls := .type "dict", data := .dict #[] }) h') :
    Sx Γ s.heap (inSc sc cs) ⟨s₃.heap.objs.size, closL F.cl cs.names [], F.q, none, F.cd, F.fr, Dm F μ⟩ σf [(acc, .list [])] { s₃ with heap := h', toks := tk } cs := by
  have hkeep3 : Kp s₃.heap h' := fun b o e => (hsb.2 b (Nat.ne_of_lt (Heap.lt_size e))).trans (Heap.get?_push_of_some _ e)
  have hkeep : Kp s.heap h' := g.keep.trans hkeep3
  have hnc : ∀ x ∈ cs.names, x.2 ≠ .cell := fun x hx q => by
    have := List.all_eq_true.mp (Bool.and_eq_true _ _ |>.mp hcl).2 x hx
    rw [q] at this; simp at this
  have hlookFree : ∀ x v, σf.lookup x = some v → cs.names.lookup x = some .free := by
    intro x v hx
    obtain ⟨p, hp, hpx⟩ := List.lookup_isSome_iff.mp (show (σf.lookup x).isSome from by rw [hx]; rfl)
    have h1 := beq_iff_eq.mp (List.all_eq_true.mp hfi p hp)
    rw [beq_iff_eq.mp hpx]; exact h1
  have hmemFree : ∀ x v, σf.lookup x = some v → (x, NameKind.free) ∈ cs.names := by
    intro x v hx
    obtain ⟨l₁, l₂, he, _⟩ := List.lookup_eq_some_iff.mp (hlookFree x v hx)
    rw [he]; simp
  refine ⟨⟨st.ok, st.base.trans hkeep, ⟨_, hns, fun x v h1 h2 => ?_⟩, fun x v h1 h2 => ?_, fun b o hm => ?_, fun b hb => hkeep.alive b (st.dom b hb)⟩, hkeep, st.base, ?_, fun x hx => ?_, fun x c hx => ?_, fun x y c hx => ?_, fun b hb => ?_, fun b hb => st.dom b hb, ?_⟩
  · exfalso
    rw [lookup_inSc, hlookFree x v h1] at h2
    simp only [Option.map_some, Option.some.injEq] at h2
    split at h2 <;> cases h2
  · have hm := hmemFree x v h1
    obtain ⟨v', c, val, e1, e2, e3, e4⟩ := hfo |> fun h => freeOk.at h st x hm
    have hv' : v' = v := by have := hsub.to x v h1; rw [e1] at this; cases this; rfl
    subst hv'
    refine ⟨c, val, ?_, e3.keeps hkeep, ?_⟩
    · have := closL_has F.cl cs.names [] x (.inl hm); rw [e2] at this; exact this
    · refine e4.move (fun b o hb _ => hkeep b o hb) fun b o hb d => ?_
      rcases d with d | d
      · exact d
      · simp at d; subst d; rw [hacc0] at hb; cases hb
  · simp only [List.mem_singleton] at hm
    cases hm
    exact ⟨#[], _, hkeep3 _ _ hacc, by simp [Vs_nil]⟩
  · cases q : s.heap.get? s₃.heap.objs.size with
    | none => rfl
    | some o => have := g.keep _ _ q; rw [fresh_addr] at this; cases this
  · exfalso
    obtain ⟨l₁, l₂, he, _⟩ := List.lookup_eq_some_iff.mp hx
    exact hnc (x, .cell) (by rw [he]; simp) rfl
  · rcases closL_only F.cl cs.names [] x c hx with ⟨hm, hc⟩ | hc
    · obtain ⟨v', c', val, e1, e2, e3, e4⟩ := freeOk.at hfo st x hm
      rw [e2] at hc
      simp only [Option.getD_some] at hc
      subst hc
      exact ⟨_, e3.keeps hkeep⟩
    · cases hc
  · exfalso
    obtain ⟨l₁, l₂, he, _⟩ := List.lookup_eq_some_iff.mp hx
    exact hnc (x, .cell) (by rw [he]; simp) rfl
  · simp at hb; subst hb; exact hacc0
  · simp

theorem POat.ofSame {D : Addr → Prop} {h h' : Heap} {c a : Addr} {o : Obj} {p : PO} (hs : Heap.SameBut c h h') (ho : h.get? c = some o) (hd : ¬ DataOk o.data) (hb : ∀ l n, o.data ≠ .bytearray l n) (e : POat D h a p) : POat D h' a p := e.same hs ho hd hb

theorem cleanSc.ok (h : cleanSc cs = true) : cs.kind = .function ∧ (∀ x ∈ cs.names, x.2 ≠ .cell) ∧ ∀ x ∈ cs.names, x.2 = .local → cs.names.lookup x.1 = some .local := by
  obtain ⟨h1, h2⟩ := (Bool.and_eq_true _ _).mp h
  refine ⟨beq_iff_eq.mp h1, fun x hx q => ?_, fun x hx q => ?_⟩
  · have := List.all_eq_true.mp h2 x hx
    rw [q] at this; simp at this
  · have := List.all_eq_true.mp h2 x hx
    rw [q] at this
    simpa using this

/-- a comprehension runs: what it leaves when its loop is over -/
theorem comp_run {elt target iter : Expr} {ifs : List Expr} {cpos : Pos} {nd : Bool} {xs : List PV} {rs : List (Option PV)} {use : Option (Value → Sem Unit)} {A : Around} {n : Nat} {F : Fm} {s : Shared} {Q : Value → Shared → Prop} {E : Value → Shared → Prop}
    (hit : EvI Γ k sc σ μ iter xs nd) (hnd : nd = true → isTupE target = true) (ht : Paired (Turn Γ k (inSc sc cs) cs σf target ifs elt) xs rs) (hz : xs.length < 2 ^ 20) (hsub : Sub σ σf)
    (hfo : freeOk sc cs σ = true) (hfi : freeIn cs σf = true) (hcl : cleanSc cs = true) (hs : ∀ env x, foldedSetIterable iter env x = pure x)
    (hn : n + k ≤ 8) (hA : Lv n A) (st : St Γ sc F σ μ s)
    (hQ : ∀ acc L s' m, Gr s s' → s.heap.get? acc = none → s.heap.get? L = none → L ≠ acc → POat (Dm F ((acc, .list (rs.filterMap id)) :: μ)) s'.heap acc (.list (rs.filterMap id)) → s'.heap.Ns L m → compEnd Γ.M A E Q L (.ref acc) use s') :
    wpR Γ.M A (comprehension (.ListComp elt [⟨target, iter, ifs, 0⟩] cs pos) cs (F.env sc) cpos (newList []) false (eval iter (F.env sc)) use) Q E s := by
  obtain ⟨c1, c2, c3⟩ := cleanSc.ok hcl
  refine wpR_comprehension rfl (hs _) c1 (fun x hx hxf => ?_) c3 (hit A n F s _ E hn hA st fun it wr J s₂ hI hJ g₂ hw => ?_)
  · obtain ⟨x1, x2⟩ := x
    simp only at hxf; subst hxf
    obtain ⟨v', c, val, e1, e2, e3, e4⟩ := freeOk.at hfo st x1 hx
    show (F.cl.lookup x1).isSome = true
    rw [e2]; rfl
  refine toR (wpAny_newObj_type ?_ (Nat.zero_le _))
  have g₃ : Gr s { s₂ with heap := s₂.heap.push { cls := .type "list", data := .seq #[] } } := g₂.trans (Gr.heap _ (Kp.push _ _))
  have hacc0 : s.heap.get? s₂.heap.objs.size = none := by
    cases q : s.heap.get? s₂.heap.objs.size with
    | none => rfl
    | some o => have := g₂.keep _ _ q; rw [fresh_addr] at this; cases this
  refine toR (wpAny_newFunctionEnv c2 (fun x hx => nomatch hx) (fun h' hns hsb => ?_) c1)
  have X := comp_start (tk := s₂.toks + 0) (s₃ := { s₂ with heap := s₂.heap.push { cls := .type "list", data := .seq #[] } }) st g₃ hfo hfi hcl hsub hacc0 (Heap.get?_push_size _ rfl) hns hsb
  have hkeep3 : Kp (s₂.heap.push { cls := .type "list", data := .seq #[] }) h' := fun b o e => (hsb.2 b (Nat.ne_of_lt (Heap.lt_size e))).trans (Heap.get?_push_of_some _ e)
  have hLacc : (s₂.heap.push { cls := .type "list", data := .seq #[] }).objs.size ≠ s₂.heap.objs.size := by rw [Heap.size_push]; exact Nat.succ_ne_self _
  have hJ' : J (Dm (⟨(s₂.heap.push { cls := .type "list", data := .seq #[] }).objs.size, closL F.cl cs.names [], F.q, none, F.cd, F.fr, Dm F μ⟩ : Fm) [(s₂.heap.objs.size, .list [])]) xs h' :=
    hI.move _ _ _ _ _ (fun b o hb _ _ => hkeep3 b o (Kp.push _ _ b o hb)) (fun b o hb d => by
      rcases d with d | d
      · exact d
      · simp at d; subst d; rw [fresh_addr] at hb; cases hb) hJ
  have fin : ∀ σ'' s', Sx Γ s.heap (inSc sc cs) (⟨(s₂.heap.push { cls := .type "list", data := .seq #[] }).objs.size, closL F.cl cs.names [], F.q, none, F.cd, F.fr, Dm F μ⟩ : Fm) σ'' [(s₂.heap.objs.size, .list ([] ++ rs.filterMap id))] s' cs → s'.gens = s.gens → s'.os = s.os →
      compEnd Γ.M A E Q (s₂.heap.push { cls := .type "list", data := .seq #[] }).objs.size (.ref s₂.heap.objs.size) use s' := by
    intro σ'' s' Y hg ho
    obtain ⟨m, hm, _⟩ := Y.ns
    refine hQ _ _ s' m ⟨Y.keep, hg, ho⟩ hacc0 Y.newL hLacc ?_ hm
    have := Y.own s₂.heap.objs.size (.list ([] ++ rs.filterMap id)) (by simp)
    obtain ⟨items, nn, e1, e2⟩ := this
    refine ⟨items, nn, e1, e2.less fun b _ _ d => ?_⟩
    rcases d with d | d
    · exact .inl (.inl d)
    · rw [List.map_cons, List.mem_cons] at d
      rcases d with d | d
      · exact .inr (by simp at d; simp [d])
      · exact .inl (.inr d)
  have hgen : s₂.gens = s.gens := g₂.gens
  have hos : s₂.os = s.os := g₂.os
  have loop : ∀ s4 : Shared, s4 = { s₂ with heap := h', toks := s₂.toks + 0 } → codeR Γ.M A (.compLoop (.ListComp elt [⟨target, iter, ifs, 0⟩] cs pos) 0 (.ref it) (.ref s₂.heap.objs.size)
      (Fm.env (⟨(s₂.heap.push { cls := .type "list", data := .seq #[] }).objs.size, closL F.cl cs.names [], F.q, none, F.cd, F.fr, Dm F μ⟩ : Fm) (inSc sc cs)))
      (fun r s' => match r with | .ok _ => compEnd Γ.M A E Q (s₂.heap.push { cls := .type "list", data := .seq #[] }).objs.size (.ref s₂.heap.objs.size) use s' | .error x => False) s4 := by
    intro s4 e4
    subst e4
    exact comp_loop (s₀ := s) (h₁ := s.heap) hn hA hI hnd hw ht [] σf _ (by simpa using hz) X (fun _ _ e => e) hJ' hgen hos fun σ'' s' Y hg ho => fin σ'' s' Y hg ho
  refine codeR_compStart (loop _ rfl) (toR (hI.self _ _ _ _ _ hJ' (loop _ rfl)))

theorem EvN.compI {elt target iter : Expr} {ifs : List Expr} {nd : Bool} {xs : List PV} {rs : List (Option PV)}
    (hit : EvI Γ k sc σ μ iter xs nd) (ht : Paired (Turn Γ k (inSc sc cs) cs σf target ifs elt) xs rs) (hz : xs.length < 2 ^ 20) (hsub : Sub σ σf)
    (hnd : nd = true → isTupE target = true := by first | exact (fun h => nomatch h) | exact (fun _ => rfl))
    (hfo : freeOk sc cs σ = true := by kernel_rfl) (hfi : freeIn cs σf = true := by kernel_rfl) (hcl : cleanSc cs = true := by kernel_rfl) (hs : ∀ env x, foldedSetIterable iter env x = pure x := by intro _ _; kernel_rfl) :
    EvN Γ k sc σ μ (.ListComp elt [⟨target, iter, ifs, 0⟩] cs pos) (.list (rs.filterMap id)) := by
  intro A n F s Q E hn hA st hQ
  rw [eval_ListComp]
  refine comp_run hit hnd ht hz hsub hfo hfi hcl hs hn hA st fun acc L s' m g ha hL hne ho hm => ⟨m, hm, fun h' hs' => ?_⟩
  obtain ⟨oL, es, ep, hoL, hdL, _⟩ := id hm
  refine hQ acc _ ⟨fun b o e => (hs'.2 b (fun q => by rw [q, hL] at e; cases e)).trans (g.keep b o e), g.gens, g.os⟩ ha (ho.same hs' hoL (by rw [hdL]; exact id) (by rw [hdL]; intro _ _ q; cases q))
theorem EvN.comp {elt target iter : Expr} {ifs : List Expr} {p : PV} {xs : List PV} {rs : List (Option PV)}
    (hit : Ev Γ k sc σ μ iter p) (hi : IterOk Γ p xs) (ht : Paired (Turn Γ k (inSc sc cs) cs σf target ifs elt) xs rs) (hz : xs.length < 2 ^ 20) (hsub : Sub σ σf)
    (hfo : freeOk sc cs σ = true := by kernel_rfl) (hfi : freeIn cs σf = true := by kernel_rfl) (hcl : cleanSc cs = true := by kernel_rfl) (hs : ∀ env x, foldedSetIterable iter env x = pure x := by intro _ _; kernel_rfl) :
    EvN Γ k sc σ μ (.ListComp elt [⟨target, iter, ifs, 0⟩] cs pos) (.list (rs.filterMap id)) :=
  EvN.compI (EvI.of hit hi) ht hz hsub (fun h => nomatch h) hfo hfi hcl hs
theorem EvN.ev {e : Expr} {ys : List PV} (h : EvN Γ k sc σ μ e (.list ys)) : Ev Γ k sc σ μ e (.lst ys) := by
  intro A n F s Q E hn hA st hQ
  refine h A n F s Q E hn hA st fun a s' g ha ho => hQ _ s' g ?_
  obtain ⟨items, m, e1, e2⟩ := ho
  refine V_lst.mpr ⟨a, items, rfl, (fun d => by have := st.dom a d; rw [ha] at this; cases this), ⟨_, e1, rfl, m, rfl⟩, e2.less fun b _ _ d => ?_⟩
  rcases d with d | d
  · exact .inl d
  · exact .inr (by simp [d])

/-- an object that nobody knows is changed -/
theorem Sx.junk {F : Fm} {h₀ h' : Heap} {s : Shared} {L : Addr} {o : Obj} {tk : Nat} (X : Sx Γ h₀ sc F σ μ s) (hL : s.heap.get? L = some o) (hd : ¬ DataOk o.data) (hb : ∀ l n, o.data ≠ .bytearray l n) (hc : ∀ v, o.data ≠ .cell v) (hne : L ≠ F.L) (hnew : h₀.get? L = none)
    (hs : Heap.SameBut L s.heap h') : Sx Γ h₀ sc F σ μ { s with heap := h', toks := tk } := by
  have hold : ∀ b o, h₀.get? b = some o → h'.get? b = some o := fun b o e => (hs.2 b (fun q => by rw [q, hnew] at e; cases e)).trans (X.keep b o e)
  have hcell : ∀ c v, s.heap.IsCell c v → h'.IsCell c v := fun c v ⟨oc, hoc, hdc⟩ => ⟨oc, (hs.2 c (fun q => by subst q; rw [hL] at hoc; cases hoc; exact hc _ hdc)).trans hoc, hdc⟩
  obtain ⟨m, hm, hmv⟩ := X.ns
  have hm' : h'.Ns F.L m := by
    obtain ⟨oL, es, ep, hoL, hdL, r⟩ := hm
    exact ⟨oL, es, ep, (hs.2 _ (Ne.symm hne)).trans hoL, hdL, r⟩
  exact ⟨⟨X.ok, fun b o e => hold b o (X.baseh b o e), ⟨m, hm', fun x v a b => let ⟨val, e1, e2⟩ := hmv x v a b; ⟨val, e1, e2.same hs hL hd⟩⟩, fun x v a b => let ⟨c, val, e1, e2, e3⟩ := X.cel x v a b; ⟨c, val, e1, hcell _ _ e2, e3.same hs hL hd⟩,
    fun a o' hm => (X.own a o' hm).same hs hL hd hb, fun b hb => by
      obtain ⟨o', ho'⟩ := Option.isSome_iff_exists.mp (X.dold b hb)
      show (h'.get? b).isSome
      rw [hold b o' ho']; rfl⟩,
    hold, X.baseh, X.newL, fun x e => let ⟨c, v, a1, a2, a3⟩ := X.cells x e; ⟨c, v, a1, a2, hcell _ _ a3⟩, fun x c e => let ⟨v, a3⟩ := X.cellsAll x c e; ⟨v, hcell _ _ a3⟩, X.cellsApart, X.ownNew, X.dold, X.apart⟩

variable {P : Fl → Loc → Own → Prop}
/-- x = [.. for ..] where the stores change places -/
theorem X1.ownCompI {x : Str} {p' cp : Pos} {elt target iter : Expr} {ifs : List Expr} {nd : Bool} {xs : List PV} {rs : List (Option PV)}
    (hit : EvI Γ k sc σ μ iter xs nd) (ht : Paired (Turn Γ k (inSc sc cs) cs σf target ifs elt) xs rs) (hz : xs.length < 2 ^ 20) (hsub : Sub σ σf)
    (h : ∀ a, a ∉ μ.map (·.1) → P .next ((x, .ref a) :: σ) ((a, .list (rs.filterMap id)) :: μ))
    (hnd : nd = true → isTupE target = true := by first | exact (fun h => nomatch h) | exact (fun _ => rfl))
    (hfo : freeOk sc cs σ = true := by kernel_rfl) (hfi : freeIn cs σf = true := by kernel_rfl) (hcl : cleanSc cs = true := by kernel_rfl) (hs : ∀ env x, foldedSetIterable iter env x = pure x := by intro _ _; kernel_rfl)
    (hl : isPlace (sc.names.lookup x) = true := by decide +kernel) (hk : sc.kind = .function := by kernel_rfl)
    (hsw : ∀ F : Fm, swapsWith (.ListComp elt [⟨target, iter, ifs, 0⟩] cs cp) (some (.Name x p')) pos.line (F.env sc) = pure true := by intro _; kernel_rfl) :
    X1 Γ k sc σ μ (.Assign [.Name x p'] (.ListComp elt [⟨target, iter, ifs, 0⟩] cs cp) pos) P := by
  intro A n F h₀ s Q E hn hA X hQ
  have e : exec (.Assign [.Name x p'] (.ListComp elt [⟨target, iter, ifs, 0⟩] cs cp) pos) (F.env sc) = (do
      standAt pos
      if ← swapsWith (.ListComp elt [⟨target, iter, ifs, 0⟩] cs cp) (some (.Name x p')) pos.line (F.env sc) then
        evalThenUse (.ListComp elt [⟨target, iter, ifs, 0⟩] cs cp) (F.env sc) (PySem.assign (.Name x p') (F.env sc))
        return .next
      let v ← eval (.ListComp elt [⟨target, iter, ifs, 0⟩] cs cp) (F.env sc)
      standAt p'
      bindName (F.env sc) x v
      pure .next) := rfl
  rw [e, hsw]
  refine wpR_bind (wpR_standAt (wpR_bind (wpR_pure ?_)))
  simp only [if_true]
  refine wpR_bind ?_
  rw [arm_evalThenUse_ListComp]
  refine wpR_bind (comp_run (pos := cp) hit hnd ht hz hsub hfo hfi hcl hs hn hA X.toSt fun acc L s' m g ha hL hne ho hm => ?_)
  obtain ⟨X₁, sp₁⟩ := X.own' g ha ho
  have hnot : acc ∉ μ.map (·.1) := fun d => by have := X.toSt.dom acc (.inr d); rw [ha] at this; cases this
  obtain ⟨oL, es, ep, hoL, hdL, hrest⟩ := id hm
  have hLD : ¬ Dm F ((acc, .list (rs.filterMap id)) :: μ) L := by
    rintro (d | d)
    · have := X.toSt.dom L (.inl d); rw [hL] at this; cases this
    · rw [List.map_cons, List.mem_cons] at d
      rcases d with d | d
      · exact hne d
      · have := X.toSt.dom L (.inr d); rw [hL] at this; cases this
  have hLL : L ≠ F.L := fun q => by
    obtain ⟨m', ⟨o', _, _, ho', _⟩, _⟩ := X.ns
    rw [q, ho'] at hL; cases hL
  have hLc : ∀ y, F.cl.lookup y ≠ some L := fun y q => by
    obtain ⟨v, o', ho', _⟩ := X.cellsAll y L q
    rw [ho'] at hL; cases hL
  have hL0 : h₀.get? L = none := by
    cases q : h₀.get? L with
    | none => rfl
    | some o' => have := X.keep _ _ q; rw [hL] at this; cases this
  refine toR (wpAny_assign_Name (X₁.store (V_ref.mpr rfl) hl hk fun s₂ X₂ sp₂ _ => ?_))
  have hoL2 := sp₂.keep L oL hoL hLL hLc hLD
  refine ⟨m, ⟨oL, es, ep, hoL2, hdL, hrest⟩, fun h' hs' => ?_⟩
  have X₃ := X₂.junk (tk := s₂.toks) hoL2 (by rw [hdL]; exact id) (by rw [hdL]; intro _ _ q; cases q) (by rw [hdL]; intro _ q; cases q) hLL hL0 hs'
  have sp := sp₁.trans sp₂
  have hbL : ∀ b, (s.heap.get? b).isSome → b ≠ L := fun b hb q => by rw [q, hL] at hb; cases hb
  refine wpR_pure (wpR_pure (hQ .next _ _ _ _ (h acc hnot) X₃ ⟨fun b o' e h1 h2 h3 => (hs'.2 b (hbL b (by rw [e]; rfl))).trans (sp.keep b o' e h1 h2 h3), fun b e => ?_, sp.dom, sp.gens, sp.os⟩ rfl))
  show (h'.get? b).isSome
  rw [hs'.2 b (hbL b e)]
  exact sp.alive b e
theorem X1.ownComp {x : Str} {p' cp : Pos} {elt target iter : Expr} {ifs : List Expr} {p : PV} {xs : List PV} {rs : List (Option PV)}
    (hit : Ev Γ k sc σ μ iter p) (hi : IterOk Γ p xs) (ht : Paired (Turn Γ k (inSc sc cs) cs σf target ifs elt) xs rs) (hz : xs.length < 2 ^ 20) (hsub : Sub σ σf)
    (h : ∀ a, a ∉ μ.map (·.1) → P .next ((x, .ref a) :: σ) ((a, .list (rs.filterMap id)) :: μ))
    (hfo : freeOk sc cs σ = true := by kernel_rfl) (hfi : freeIn cs σf = true := by kernel_rfl) (hcl : cleanSc cs = true := by kernel_rfl) (hs : ∀ env x, foldedSetIterable iter env x = pure x := by intro _ _; kernel_rfl)
    (hl : isPlace (sc.names.lookup x) = true := by decide +kernel) (hk : sc.kind = .function := by kernel_rfl)
    (hsw : ∀ F : Fm, swapsWith (.ListComp elt [⟨target, iter, ifs, 0⟩] cs cp) (some (.Name x p')) pos.line (F.env sc) = pure true := by intro _; kernel_rfl) :
    X1 Γ k sc σ μ (.Assign [.Name x p'] (.ListComp elt [⟨target, iter, ifs, 0⟩] cs cp) pos) P :=
  X1.ownCompI (EvI.of hit hi) ht hz hsub h (fun h => nomatch h) hfo hfi hcl hs hl hk hsw
end
end Mine

set_option maxRecDepth 100000
namespace Mine

section
variable {Γ : Cx} {k : Nat} {sc : Scope} {σ : Loc} {μ : Own} {pos : Pos}

theorem CallOk.max2 {a b : Int} : CallOk Γ k (.builtin "max") [.int a, .int b] (.int (max a b)) := by
  intro A n D s vals Q E _ hA _ _ hvs _ hQ
  rw [Vs_cons] at hvs
  obtain ⟨v, r, rfl, hv, hr⟩ := hvs
  rw [Vs_cons] at hr
  obtain ⟨v2, r2, rfl, hv2, hr2⟩ := hr
  rw [Vs_nil] at hr2; subst hr2
  obtain ⟨t, rfl⟩ := V_int.mp hv
  obtain ⟨u, rfl⟩ := V_int.mp hv2
  refine toR (max_two_ints hA.handled fun h' tk hk => ?_)
  by_cases h : b > a
  · rw [if_pos h] at *
    exact hQ _ _ (Gr.heap _ hk) (by rw [Int.max_eq_right (by omega)]; exact V.int _ _)
  · rw [if_neg h] at *
    exact hQ _ _ (Gr.heap _ hk) (by rw [Int.max_eq_left (by omega)]; exact V.int _ _)
theorem CallOk.min2 {a b : Int} : CallOk Γ k (.builtin "min") [.int a, .int b] (.int (min a b)) := by
  intro A n D s vals Q E _ hA _ _ hvs _ hQ
  rw [Vs_cons] at hvs
  obtain ⟨v, r, rfl, hv, hr⟩ := hvs
  rw [Vs_cons] at hr
  obtain ⟨v2, r2, rfl, hv2, hr2⟩ := hr
  rw [Vs_nil] at hr2; subst hr2
  obtain ⟨t, rfl⟩ := V_int.mp hv
  obtain ⟨u, rfl⟩ := V_int.mp hv2
  refine toR (min_two_ints hA.handled fun h' tk hk => ?_)
  by_cases h : b < a
  · rw [if_pos h] at *
    exact hQ _ _ (Gr.heap _ hk) (by rw [Int.min_eq_right (by omega)]; exact V.int _ _)
  · rw [if_neg h] at *
    exact hQ _ _ (Gr.heap _ hk) (by rw [Int.min_eq_left (by omega)]; exact V.int _ _)

def maxZ : List Int → Int
  | [] => 0
  | a :: l => l.foldl max a
theorem foldl_max_ge : ∀ (l : List Int) (a : Int), a ≤ l.foldl max a ∧ ∀ b ∈ l, b ≤ l.foldl max a
  | [], a => ⟨Int.le_refl _, fun _ h => nomatch h⟩
  | c :: l, a => by
    obtain ⟨h1, h2⟩ := foldl_max_ge l (max a c)
    rw [List.foldl_cons]
    refine ⟨by omega, fun b hb => ?_⟩
    rcases List.mem_cons.mp hb with rfl | hb
    · omega
    · exact h2 b hb
theorem foldl_max_mem : ∀ (l : List Int) (a : Int), l.foldl max a ∈ a :: l
  | [], a => by simp
  | c :: l, a => by
    rw [List.foldl_cons]
    have := foldl_max_mem l (max a c)
    rcases List.mem_cons.mp this with h | h
    · by_cases hc : a ≤ c
      · rw [Int.max_eq_right hc] at h ⊢; simp [h]
      · rw [Int.max_eq_left (by omega)] at h ⊢; simp [h]
    · exact List.mem_cons_of_mem _ (List.mem_cons_of_mem _ h)
theorem maxZ_is {ns : List Int} {M : Int} (h1 : M ∈ ns) (h2 : ∀ a ∈ ns, a ≤ M) : M = maxZ ns := by
  cases ns with
  | nil => cases h1
  | cons a l =>
    have h3 := h2 _ (foldl_max_mem l a)
    have h4 := foldl_max_ge l a
    show M = l.foldl max a
    rcases List.mem_cons.mp h1 with rfl | h1
    · omega
    · have := h4.2 M h1; omega
theorem maxZ_mem {ns : List Int} (h : ns ≠ []) : maxZ ns ∈ ns := by
  cases ns with
  | nil => exact absurd rfl h
  | cons a l => exact foldl_max_mem l a
theorem maxZ_ge {ns : List Int} {a : Int} (h : a ∈ ns) : a ≤ maxZ ns := by
  cases ns with
  | nil => cases h
  | cons b l =>
    have := foldl_max_ge l b
    rcases List.mem_cons.mp h with rfl | h
    · exact this.1
    · exact this.2 a h

theorem intsOf {vs : List Value} {ns : List Int} (hi : IntsAre vs ns) : ∃ xs : Array (Int × Tok), vs.toArray = intItems xs ∧ xs.toList.map (·.1) = ns := by
  obtain ⟨xs, hx⟩ := (hi.allInts).items
  refine ⟨xs, hx, ?_⟩
  rw [← hi.numsOf, ← nums_intItems, ← hx]
theorem CallOk.sum {ns : List Int} : CallOk Γ k (.builtin "sum") [.lst (ns.map .int)] (.int ns.sum) := by
  intro A n D s vals Q E _ hA _ _ hvs _ hQ
  rw [Vs_cons] at hvs
  obtain ⟨v, r, rfl, hv, hr⟩ := hvs
  rw [Vs_nil] at hr; subst hr
  obtain ⟨a, items, rfl, _, hl, he⟩ := V_lst.mp hv
  obtain ⟨xs, hx, hn⟩ := intsOf he.ints
  have : items = intItems xs := by rw [← hx]
  subst this
  refine toR (sum_intListG hA.handled hl fun h' tk t' hk => hQ _ _ (Gr.heap _ hk) ?_)
  rw [preSum_eq, List.take_of_length_le (by simp), hn]
  exact V.int _ _
theorem CallOk.maxL {ns : List Int} (hne : ns ≠ []) : CallOk Γ k (.builtin "max") [.lst (ns.map .int)] (.int (maxZ ns)) := by
  intro A n D s vals Q E _ hA _ _ hvs _ hQ
  rw [Vs_cons] at hvs
  obtain ⟨v, r, rfl, hv, hr⟩ := hvs
  rw [Vs_nil] at hr; subst hr
  obtain ⟨a, items, rfl, _, hl, he⟩ := V_lst.mp hv
  obtain ⟨xs, hx, hn⟩ := intsOf he.ints
  have : items = intItems xs := by rw [← hx]
  subst this
  have hlen : xs.size = ns.length := by rw [← hn]; simp
  have hsz : 0 < xs.size := by rw [hlen]; exact List.length_pos_iff.mpr hne
  refine toR (max_intList hA.handled hl hsz fun v h' tk hv hk => ?_)
  obtain ⟨t, rfl⟩ := intItems_at hv
  obtain ⟨h1, h2⟩ := argBest_gt (numAt xs) (xs.size - 1)
  refine hQ _ _ (Gr.heap _ hk) ?_
  rw [← maxZ_is (M := numAt xs (argBest (fun i j => decide (numAt xs i > numAt xs j)) (xs.size - 1))) ?_ ?_]
  · exact V.int _ _
  · rw [numAt_eq, hn]; exact getD_mem (by omega)
  · intro a ha
    obtain ⟨j, hj, rfl⟩ := mem_getD ha
    rw [← hn, ← numAt_eq]; exact h2 j (by omega)

/-! ### bytes as items -/
def JBy (it : Addr) (D : Addr → Prop) (xs : List PV) (h : Heap) : Prop :=
  ∃ b t i, ¬ D it ∧ KBw.IsBytesIter h it b t i ∧ xs = (b.toList.drop i).map fun c => PV.int (c.toNat : Int)
theorem Iter.bytes {A : Around} (hh : A.handled = none) (it : Addr) : Iter Γ A it [it] (JBy it) where
  move := by
    rintro D D' xs h h' hk hD ⟨b, t, i, h1, h2, h3⟩
    obtain ⟨o, ho, hc, hd⟩ := h2
    exact ⟨b, t, i, fun d => h1 (hD it _ ho d), ⟨o, hk it _ ho (by rw [hd]; trivial) (.inl h1), hc, hd⟩, h3⟩
  wrs := by
    rintro D xs h ⟨b, t, i, h1, ⟨o, ho, hc, hd⟩, h3⟩ b' hb
    rw [List.mem_singleton] at hb; subst hb
    exact ⟨h1, o, _, ho, hd, by rw [hc]; decide⟩
  item := by
    rintro D x xs s target Q E ⟨b, t, i, h1, h2, h3⟩ hal _ hQ
    have hx : ∃ c, b[i]? = some c ∧ x = .int (c.toNat : Int) ∧ xs = (b.toList.drop (i + 1)).map fun c => PV.int (c.toNat : Int) := by
      cases hd : b.toList.drop i with
      | nil => rw [hd] at h3; cases h3
      | cons c r =>
        rw [hd] at h3
        simp only [List.map_cons, List.cons.injEq] at h3
        refine ⟨c, ?_, h3.1, ?_⟩
        · have : (b.toList.drop i)[0]? = some c := by rw [hd]; rfl
          rw [List.getElem?_drop] at this; simpa using this
        · have : b.toList.drop (i + 1) = r := by
            have : (b.toList.drop i).drop 1 = r := by rw [hd]; rfl
            rwa [List.drop_drop] at this
          rw [this]; exact h3.2
    obtain ⟨c, hc, rfl, hxs⟩ := hx
    refine KBw.next_item h2 hc fun h' hi' hs' => ?_
    obtain ⟨o2, ho2, hc2, hd2⟩ := id hi'
    exact letOwned_other ho2 hc2 hd2 (by decide) (hQ _ h' _ (V.int _ _) ⟨b, t, i + 1, h1, hi', hxs⟩ fun b' o' hb e => (hs'.2 b' (by simpa using hb)).trans e)
  done := by
    rintro D s Q E ⟨b, t, i, h1, h2, h3⟩ hQ
    have hx : b[i]? = none := by
      cases hd : b.toList.drop i with
      | cons c r => rw [hd] at h3; cases h3
      | nil =>
        have : (b.toList.drop i)[0]? = none := by rw [hd]; rfl
        rw [List.getElem?_drop] at this; simpa using this
    exact KBw.next_end hh h2 hx fun h' he => ⟨rfl, hQ h' _ fun b o hb e => he b o (by simpa using hb) e⟩
  self := by
    rintro D xs s Q E ⟨b, t, i, h1, h2, h3⟩ hQ
    exact KBw.pyIter_self h2 hQ
theorem IterOk.bytes {l : List UInt8} : IterOk Γ (.bytes l) (l.map fun c => PV.int (c.toNat : Int)) := by
  intro A n D s v Q E _ hA hB hv hD hQ
  obtain ⟨t, rfl⟩ := V_bytes.mp hv
  refine KBw.pyIter_bytes (hQ _ _ (JBy s.heap.objs.size) _ (Iter.bytes hA.handled _) ?_ (Gr.heap _ (Kp.push _ _)) fun b hb => by rw [List.mem_singleton] at hb; subst hb; exact fresh_addr _)
  exact ⟨l.toArray, t, 0, not_dom hD, ⟨_, Heap.get?_push_size _ rfl, rfl, rfl⟩, by simp⟩

/-! ### slices of lists -/
theorem slicePick_cut (items : Array Value) (lo hi : Option Int) : slicePick items lo hi none = (cutL items.toList lo hi).toArray := by
  unfold slicePick cutL
  rw [sliceBounds_plain]
  simp only [sliceRange_one, pick_run]
  simp
theorem Vs.cut {D : Addr → Prop} {h : Heap} {xs : List PV} {vs : List Value} {lo hi : Option Int} (e : Vs D h xs vs) : Vs D h (cutL xs lo hi) (cutL vs lo hi) := by
  unfold cutL
  rw [e.length]
  exact (e.drop _).take _
theorem SliceOk.lst {xs : List PV} {lo hi : Option Int} (hz : xs.length < 2 ^ 20) : SliceOk Γ (.lst xs) lo hi none (.lst (cutL xs lo hi)) := by
  intro A n D s x sl vl vu vs Q E _ _ hv hD hs pl pu ps hQ
  obtain ⟨a, items, rfl, _, hl, he⟩ := V_lst.mp hv
  have hlen : items.size = xs.length := by simpa using he.length
  refine wpAny_getItem_list_slice (hsz := by rw [sizeLine_eq]; omega) hl hs pl pu ps (fun q => nomatch q) ?_
  cases ps
  rw [slicePick_cut]
  exact hQ _ _ (Gr.heap _ (Kp.push _ _)) (V.newList hD he.cut)

/-! ### bytes of a list of ints -/
theorem CallOk.bytes_lst {ns : List Int} (hr : ∀ n ∈ ns, 0 ≤ n ∧ n < 256) (hz : ns.length < 2 ^ 20) : CallOk Γ k (.type "bytes") [.lst (ns.map .int)] (.bytes (ns.map fun n => n.toNat.toUInt8)) := by
  intro A n D s vals Q E _ hA _ _ hvs _ hQ
  rw [Vs_cons] at hvs
  obtain ⟨v, r, rfl, hv, hr'⟩ := hvs
  rw [Vs_nil] at hr'; subst hr'
  obtain ⟨a, items, rfl, _, hl, he⟩ := V_lst.mp hv
  have hlen : items.toList.length = ns.length := by simpa using he.length
  refine toR (call_bytes_ints (vs := items.toList) (by simpa using hl) he.ints hr (by rw [hlen, sizeLine_eq]; omega) hA.handled fun h' t tk hk => hQ _ _ (Gr.heap _ hk) ?_)
  exact V_bytes.mpr ⟨t, rfl⟩
end
end Mine

set_option maxRecDepth 100000
namespace Mine

/-! ## calls of defs whose names are held in cells -/
theorem cellsFrom_has : ∀ (names : List (Str × NameKind)) (n : Nat) (acc : List (Str × Addr)) (x : Str), ((x, NameKind.cell) ∈ names ∨ (acc.lookup x).isSome) → ((cellsFrom n names acc).lookup x).isSome
  | [], n, acc, x, h => by
    rcases h with h | h
    · cases h
    · exact h
  | (m, k) :: r, n, acc, x, h => by
    unfold cellsFrom
    split
    · rename_i hk
      refine cellsFrom_has r (n + 1) _ x ?_
      rcases h with h | h
      · rcases List.mem_cons.mp h with h | h
        · cases h; right; rw [List.lookup_cons]; simp
        · exact .inl h
      · right
        rw [List.lookup_cons]
        split
        · rfl
        · exact h
    · rename_i hk
      refine cellsFrom_has r n _ x ?_
      rcases h with h | h
      · rcases List.mem_cons.mp h with h | h
        · cases h; exact absurd rfl hk
        · exact .inl h
      · exact .inr h

theorem bindL_other (K : Str → Option NameKind) : ∀ (binds : List (Str × Value)) (m : Str → Option Value) (x : Str), x ∉ binds.map (·.1) → bindL K binds m x = m x
  | [], m, x, _ => rfl
  | (n, v) :: r, m, x, h => by
    rw [List.map_cons, List.mem_cons, not_or] at h
    rw [bindL, bindL_other K r _ x h.2]
    split
    · show (if x = n then some v else m x) = m x
      rw [if_neg h.1]
    · rfl
theorem bindC_other (K : Str → Option NameKind) : ∀ (binds : List (Str × Value)) (m : Str → Option Value) (x : Str), x ∉ binds.map (·.1) → bindC K binds m x = m x
  | [], m, x, _ => rfl
  | (n, v) :: r, m, x, h => by
    rw [List.map_cons, List.mem_cons, not_or] at h
    rw [bindC, bindC_other K r _ x h.2]
    split
    · rfl
    · show (if x = n then some v else m x) = m x
      rw [if_neg h.1]
theorem bindL_at (K : Str → Option NameKind) : ∀ (binds : List (Str × Value)) (m : Str → Option Value) (x : Str) (v : Value), (binds.map (·.1)).Nodup → K x = some .local → binds.lookup x = some v → bindL K binds m x = some v
  | [], m, x, v, _, _, h => nomatch h
  | (n, w) :: r, m, x, v, hn, hk, h => by
    rw [List.map_cons, List.nodup_cons] at hn
    rw [List.lookup_cons] at h
    cases hx : (x == n) with
    | true =>
      rw [hx] at h; cases h
      have := beq_iff_eq.mp hx; subst this
      rw [bindL, bindL_other K r _ x hn.1, if_pos hk]
      show (if x = x then some w else m x) = some w
      rw [if_pos rfl]
    | false => rw [hx] at h; rw [bindL]; exact bindL_at K r _ x v hn.2 hk h
theorem bindC_at (K : Str → Option NameKind) : ∀ (binds : List (Str × Value)) (m : Str → Option Value) (x : Str) (v : Value), (binds.map (·.1)).Nodup → K x ≠ some .local → binds.lookup x = some v → bindC K binds m x = some v
  | [], m, x, v, _, _, h => nomatch h
  | (n, w) :: r, m, x, v, hn, hk, h => by
    rw [List.map_cons, List.nodup_cons] at hn
    rw [List.lookup_cons] at h
    cases hx : (x == n) with
    | true =>
      rw [hx] at h; cases h
      have := beq_iff_eq.mp hx; subst this
      rw [bindC, bindC_other K r _ x hn.1, if_neg hk]
      show (if x = x then some w else m x) = some w
      rw [if_pos rfl]
    | false => rw [hx] at h; rw [bindC]; exact bindC_at K r _ x v hn.2 hk h
theorem zip_keys (ns : List Str) (vs : List Value) : ((ns.zip vs).map (·.1)).Sublist ns := by
  induction ns generalizing vs with
  | nil => simp
  | cons n ns ih =>
    cases vs with
    | nil => simp
    | cons v vs => simpa using ih vs
theorem lookup_zip_V' {D : Addr → Prop} {h : Heap} {x : Str} {v : PV} : ∀ (names : List Str) (args : List PV) (vals : List Value), Vs D h args vals → (names.zip args).lookup x = some v → ∃ val, (names.zip vals).lookup x = some val ∧ V D h v val := by
  intro names
  induction names with
  | nil => intro args vals _ hl; simp at hl
  | cons y ys ih =>
    intro args vals hvs hl
    cases args with
    | nil => simp at hl
    | cons a as =>
      rw [Vs_cons] at hvs
      obtain ⟨w, r, rfl, h1, h2⟩ := hvs
      rw [List.zip_cons_cons, List.lookup_cons] at hl ⊢
      cases hxy : (x == y) with
      | true => rw [hxy] at hl; simp at hl; subst hl; exact ⟨w, rfl, h1⟩
      | false => rw [hxy] at hl; exact ih as r h2 hl

section
variable {Γ : Cx} {k : Nat}
/-- a call of a def of the text, its names local or in cells -/
theorem CallOk.fnC {a : Addr} {o : Obj} {name : Str} {params : Arguments} {body : List Stmt} {scope : Scope} {pm cd doc : Value} {args : List PV} {r : PV}
    (ho : Γ.B.get? a = some o) (hd : o.data = .func (docDef name params body scope pm cd doc)) (hcd : Γ.B.CodeRec cd name)
    (hbind : ∀ vals : List Value, vals.length = args.length → bindArgs (docDef name params body scope pm cd doc) ⟨vals, []⟩ = pure ((params.args.map (·.arg)).zip vals))
    (hbody : Xs Γ k scope ((params.args.map (·.arg)).zip args) [] body (fun fl _ μ' => fl = .ret r))
    (hnd : (params.args.map (·.arg)).Nodup := by decide +kernel)
    (hloc : (params.args.map (·.arg)).all (fun x => isPlace (scope.names.lookup x)) = true := by decide +kernel)
    (hco : scope.isCoroutine = false := by kernel_rfl) (hgen : scope.isGenerator = false := by kernel_rfl) (hk : scope.kind = .function := by kernel_rfl) : CallOk Γ (k + 1) (.ref a) args r := by
  intro A n D s vals Q E hn hA ok hB hvs hD hQ
  have hlen := hvs.length
  have hmem : ∀ x kd, scope.names.lookup x = some kd → (x, kd) ∈ scope.names := fun x kd h => mem_of_lookup h
  refine wpR_call (codeR_call_function (by have := hA.depth; show _ < 1000; omega) (hB a o ho) hd hco hgen rfl (hcd.keeps hB) ?_)
  rw [hbind vals hlen]
  refine wpR_pure (toR (wpAny_newFunctionEnv_cells hk (fun x hx => ?_) fun env henv s' C => ⟨(ok.nolimit.keeps hB).keeps C.toInCall.keep, ?_⟩))
  · have h1 := (List.of_mem_zip hx).1
    have h2 := List.all_eq_true.mp hloc x.1 h1
    cases hq : scope.names.lookup x.1 with
    | none => rw [hq] at h2; cases h2
    | some kd =>
      rw [hq] at h2
      cases kd with
      | «local» => exact .inl hq
      | cell => exact .inr ⟨hq, cellsFrom_has _ _ _ _ (.inl (hmem _ _ hq))⟩
      | _ => cases h2
  · let F : Fm := ⟨s.heap.objs.size, cellsFrom (s.heap.objs.size + 1) scope.names [], name ++ ".<locals>.", some a, cd, some s.heap.objs.size, D⟩
    have eenv : env = F.env scope := henv
    subst eenv
    have hkeep : Kp s.heap s'.heap := C.toInCall.keep
    have habove : ∀ x c, (cellsFrom (s.heap.objs.size + 1) scope.names []).lookup x = some c → s.heap.get? c = none := fun x c hc => by
      have := C.above x c (mem_of_lookup hc)
      cases q : s.heap.get? c with
      | none => rfl
      | some o' => exact absurd (Heap.lt_size q) (Nat.lt_asymm this)
    have hkeys : (((params.args.map (·.arg)).zip vals).map (·.1)).Nodup := hnd.sublist (zip_keys _ _)
    have hvs' : Vs (Dm F []) s'.heap args vals := (hvs.grow hkeep).less fun b o _ hb => by
      rcases hb with hb | hb
      · exact hb
      · simp at hb
    have X : Sx Γ s.heap scope F ((params.args.map (·.arg)).zip args) [] s' := by
      refine ⟨⟨ok, hB.trans hkeep, ⟨_, C.toInCall.ns, fun x v h1 h2 => ?_⟩, fun x v h1 h2 => ?_, fun _ _ hm => (nomatch hm), fun b hb => hkeep.alive b (hD b hb)⟩,
        hkeep, hB, fresh_addr _, fun x hx => ?_, fun x c h1 => ⟨_, C.cell x c h1⟩, fun x y c _ h1 h2 => name_of_addr C.apart (mem_of_lookup h2) (mem_of_lookup h1), fun b hb => (nomatch hb), hD, List.nodup_nil⟩
      · obtain ⟨val, e1, e2⟩ := lookup_zip_V' _ _ _ hvs' h1
        exact ⟨val, bindL_at _ _ _ x val hkeys h2 e1, e2⟩
      · obtain ⟨val, e1, e2⟩ := lookup_zip_V' _ _ _ hvs' h1
        have hnl : scope.names.lookup x ≠ some .local := by rcases h2 with h2 | h2 <;> (rw [h2]; decide)
        have hx : x ∈ (params.args.map (·.arg)) := by
          have := (zip_keys (params.args.map (·.arg)) vals).subset (List.mem_map.mpr ⟨(x, val), mem_of_lookup e1, rfl⟩)
          exact this
        have hp := List.all_eq_true.mp hloc x hx
        have hcell : scope.names.lookup x = some .cell := by
          rcases h2 with h2 | h2
          · exact h2
          · rw [h2] at hp; cases hp
        obtain ⟨c, hc⟩ := Option.isSome_iff_exists.mp (cellsFrom_has scope.names (s.heap.objs.size + 1) [] x (.inl (hmem _ _ hcell)))
        refine ⟨c, val, hc, ?_, e2⟩
        have := C.cell x c hc
        rw [bindC_at _ _ _ x val hkeys hnl e1] at this
        exact this
      · obtain ⟨c, hc⟩ := Option.isSome_iff_exists.mp (cellsFrom_has scope.names (s.heap.objs.size + 1) [] x (.inl (hmem _ _ hx)))
        exact ⟨c, _, hc, habove x c hc, C.cell x c hc⟩
    refine codeR_func (hbody (A.deeper (F.env scope)) (n + 1) F s.heap _ _ _ (by omega) hA.deeper X fun fl σ' μ' f s'' hP X' sp hf => ?_)
    subst hP
    obtain ⟨val, rfl, hv⟩ := hf
    obtain ⟨h2, tk2, e2⟩ := C.toInCall.same
    refine hQ val s'' ⟨X'.keep, sp.gens.trans (by rw [e2]), sp.os.trans (by rw [e2])⟩ (hv.less fun b o _ hb => .inl hb)

theorem DefAt.callC {a : Addr} {name : Str} {params : Arguments} {body : List Stmt} {scope : Scope} {args : List PV} {r : PV} (h : DefAt Γ a name (params, body, scope))
    (hbody : Xs Γ k scope ((params.args.map (·.arg)).zip args) [] body (fun fl _ μ' => fl = .ret r))
    (hbind : ∀ (pm cd doc : Value) (vals : List Value), vals.length = args.length → bindArgs (docDef name params body scope pm cd doc) ⟨vals, []⟩ = pure ((params.args.map (·.arg)).zip vals))
    (hnd : (params.args.map (·.arg)).Nodup := by decide +kernel)
    (hloc : (params.args.map (·.arg)).all (fun x => isPlace (scope.names.lookup x)) = true := by decide +kernel)
    (hco : scope.isCoroutine = false := by kernel_rfl) (hgen : scope.isGenerator = false := by kernel_rfl) (hk : scope.kind = .function := by kernel_rfl) : CallOk Γ (k + 1) (.ref a) args r := by
  obtain ⟨o, pm, cd, doc, h1, h2, h3⟩ := h.out
  exact CallOk.fnC h1 h2 h3 (hbind pm cd doc) hbody hnd hloc hco hgen hk
end
end Mine

set_option maxRecDepth 100000
namespace Mine

section
variable {Γ : Cx} {k : Nat} {sc cs : Scope} {σ σ₁ σ₂ σ₃ : Loc} {μ : Own} {pos : Pos} {P : Fl → Loc → Own → Prop}

/-! ### targets that are tuples -/
theorem As.grown {target : Expr} {v : PV} (h : As Γ k sc σ μ target v σ₁ cs) {A : Around} {n : Nat} {F : Fm} {h₀ : Heap} {s s' : Shared} {val : Value} {Q : Unit → Shared → Prop} {E : Value → Shared → Prop}
    (hn : n + k ≤ 8) (hA : Lv n A) (X : Sx Γ h₀ sc F σ μ s cs) (hv : V (Dm F μ) s.heap v val) (g : Gr s s') (hQ : ∀ s'', Sx Γ h₀ sc F σ₁ μ s'' cs → Sp F μ μ s s'' → Q () s'') : wpAny Γ.M A (assign target (F.env sc) val) Q E s' :=
  h A n F h₀ s' val Q E hn hA (X.grow g) (hv.grow g.keep) fun s'' X' sp => hQ s'' X' ((Sp.gr g).trans sp)
def plainT : Expr → Bool
  | .Starred _ _ => false
  | _ => true
theorem assignEach2 {t1 t2 : Expr} {env : Env} (h1 : plainT t1 = true) (h2 : plainT t2 = true) : assignEach [t1, t2] env = [(false, assign t1 env), (false, assign t2 env)] := by
  cases t1 <;> first | (cases h1; done) | (cases t2 <;> first | (cases h2; done) | rfl)
theorem As.tuple2 {t1 t2 : Expr} {kd : Nat} {v1 v2 : PV} (h1 : As Γ k sc σ μ t1 v1 σ₁ cs) (h2 : As Γ k sc σ₁ μ t2 v2 σ₂ cs) (p1 : plainT t1 = true := by rfl) (p2 : plainT t2 = true := by rfl) : As Γ k sc σ μ (.Tuple [t1, t2] kd pos) (.tup [v1, v2]) σ₂ cs := by
  intro A n F h₀ s val Q E hn hA X hv hQ
  obtain ⟨a, items, rfl, hT, hvs⟩ := V_tup.mp hv
  rw [Vs_cons] at hvs
  obtain ⟨x1, r1, e1, hx1, hr1⟩ := hvs
  rw [Vs_cons] at hr1
  obtain ⟨x2, r2, e2, hx2, hr2⟩ := hr1
  rw [Vs_nil] at hr2
  subst hr2; subst e2
  have hi : items.size = 2 := by rw [← Array.length_toList, e1]; rfl
  refine wpAny_assign_Tuple hA.handled hT (by rw [assignEach2 p1 p2, hi]; rfl) (by rw [assignEach2 p1 p2]; rfl) fun h' hx => ?_
  rw [assignEach2 p1 p2, e1]
  have g : Gr s { s with heap := h' } := ⟨fun b o e => hx b o (Nat.ne_of_lt (Heap.lt_size e)) e, rfl, rfl⟩
  show wpAny _ _ (holding [x2] (assign t1 (F.env sc) x1) >>= fun _ => holding [] (assign t2 (F.env sc) x2) >>= fun _ => pure ()) _ _ _
  refine wpAny_bind (wpAny_holding (As.grown h1 hn hA X hx1 g fun s₂ X₂ sp₂ => ?_))
  refine wpAny_bind (wpAny_holding (h2 A n F h₀ s₂ x2 _ _ hn hA X₂ (X.step X₂ sp₂ hx2) fun s₃ X₃ sp₃ => wpAny_pure (hQ s₃ X₃ (sp₂.trans sp₃))))

/-! ### bytes -/
theorem Op2.addB {a b : List UInt8} (h : a.length + b.length < 2 ^ 20) : Op2 Γ (binaryOp .Add) (.bytes a) (.bytes b) (.bytes (a ++ b)) := by
  intro A n D s x y Q E _ _ _ _ hx hy _ hQ
  obtain ⟨t, rfl⟩ := V_bytes.mp hx; obtain ⟨u, rfl⟩ := V_bytes.mp hy
  exact KBy.add_bytes (by simp; omega) fun t' k => hQ _ _ (Gr.toks k) (V_bytes.mpr ⟨t', by simp⟩)
theorem Op2.mulB {a : List UInt8} {n : Int} (ha : a ≠ []) (h0 : -1000000 ≤ n) (h1 : n ≤ 1000000) (h2 : a.length ≤ 16) : Op2 Γ (binaryOp .Mult) (.bytes a) (.int n) (.bytes (List.replicate n.toNat a).flatten) := by
  intro A m D s x y Q E _ _ _ _ hx hy _ hQ
  obtain ⟨t, rfl⟩ := V_bytes.mp hx; obtain ⟨u, rfl⟩ := V_int.mp hy
  exact bytes_mul_any ha (by omega) (by omega) h2 fun t' k => hQ _ _ (Gr.toks k) (V.bytes _ _)

/-! ### zip of two lists (its own tuple is written again and again: no tuple may be known meanwhile) -/
mutual
def noTup : PV → Bool
  | .tup _ => false
  | .lst xs => noTups xs
  | _ => true
def noTups : List PV → Bool
  | [] => true
  | x :: xs => noTup x && noTups xs
end
theorem noTups_ints (ns : List Int) : noTups (ns.map .int) = true := by
  induction ns with
  | nil => rfl
  | cons n ns ih => simp [noTups, noTup, ih]
mutual
theorem V.moveNT {D D' : Addr → Prop} {h h' : Heap} (hk : ∀ b o, h.get? b = some o → ((∃ xs n, o.data = .seq xs n ∧ ¬ D b ∧ o.cls = .type "list") ∨ (o.cls = .type "range" ∧ ∃ vs, o.data = .fields vs)) → h'.get? b = some o) (hD : ∀ b o, h.get? b = some o → D' b → D b) :
    ∀ {x : PV} {v : Value}, noTup x = true → V D h x v → V D' h' x v
  | .none, v, _, e => by rw [V_none] at *; exact e
  | .bool b, v, _, e => by rw [V_bool] at *; exact e
  | .int i, v, _, e => by rw [V_int] at *; exact e
  | .str l, v, _, e => by rw [V_str] at *; exact e
  | .bytes l, v, _, e => by rw [V_bytes] at *; exact e
  | .obj w, v, _, e => by rw [V_obj] at *; exact e
  | .ref k, v, _, e => by rw [V_ref] at *; exact e
  | .rng a b c, v, _, e => by
    rw [V_rng] at *
    obtain ⟨r, t, u, z, e1, e2⟩ := e
    exact ⟨r, t, u, z, e1, hk _ _ e2 (.inr ⟨rfl, _, rfl⟩)⟩
  | .tup xs, v, hn, e => by simp [noTup] at hn
  | .lst xs, v, hn, e => by
    rw [V_lst] at *
    obtain ⟨a, items, e1, e2, ⟨o, ho, hc, n, hd⟩, e3⟩ := e
    exact ⟨a, items, e1, fun d => e2 (hD _ _ ho d), ⟨o, hk _ _ ho (.inl ⟨_, _, hd, e2, hc⟩), hc, n, hd⟩, Vs.moveNT hk hD (by simpa [noTup] using hn) e3⟩
theorem Vs.moveNT {D D' : Addr → Prop} {h h' : Heap} (hk : ∀ b o, h.get? b = some o → ((∃ xs n, o.data = .seq xs n ∧ ¬ D b ∧ o.cls = .type "list") ∨ (o.cls = .type "range" ∧ ∃ vs, o.data = .fields vs)) → h'.get? b = some o) (hD : ∀ b o, h.get? b = some o → D' b → D b) :
    ∀ {xs : List PV} {vs : List Value}, noTups xs = true → Vs D h xs vs → Vs D' h' xs vs
  | [], vs, _, e => by rw [Vs_nil] at *; exact e
  | x :: xs, vs, hn, e => by
    simp only [noTups, Bool.and_eq_true] at hn
    rw [Vs_cons] at *
    obtain ⟨v, r, e1, e2, e3⟩ := e
    exact ⟨v, r, e1, V.moveNT hk hD hn.1 e2, Vs.moveNT hk hD hn.2 e3⟩
end

theorem Sx.wrH {F : Fm} {h₀ h' : Heap} {s : Shared} {wr : List Addr} {tk : Nat} (X : Sx Γ h₀ sc F σ [] s) (hσ : ∀ x v, σ.lookup x = some v → noTup v = true) (hk : ∀ b o, b ∉ wr → s.heap.get? b = some o → h'.get? b = some o)
    (hw : ∀ b ∈ wr, ∃ o, s.heap.get? b = some o ∧ ((∃ vs, o.data = .fields vs ∧ o.cls ≠ .type "range") ∨ (∃ xs n, o.data = .seq xs n ∧ o.cls = .type "tuple"))) (hn : ∀ b ∈ wr, h₀.get? b = none) : Sx Γ h₀ sc F σ [] { s with heap := h', toks := tk } := by
  have hnode : ∀ b o, s.heap.get? b = some o → ((∃ xs n, o.data = .seq xs n ∧ ¬ Dm F [] b ∧ o.cls = .type "list") ∨ (o.cls = .type "range" ∧ ∃ vs, o.data = .fields vs)) → h'.get? b = some o := fun b o hb hn => hk b o (fun q => by
    obtain ⟨o', ho', hd'⟩ := hw b q
    rw [hb] at ho'; cases ho'
    rcases hn with ⟨_, _, hn, _, hl⟩ | ⟨hn, _, hn'⟩
    · rcases hd' with ⟨_, hd', _⟩ | ⟨_, _, _, hc⟩
      · rw [hd'] at hn; cases hn
      · rw [hc] at hl; exact absurd hl (by decide)
    · rcases hd' with ⟨_, _, hc⟩ | ⟨_, _, hd', _⟩
      · exact hc hn
      · rw [hd'] at hn'; cases hn') hb
  have hv : ∀ {x v}, noTup x = true → V (Dm F []) s.heap x v → V (Dm F []) h' x v := fun hx e => e.moveNT hnode (fun _ _ _ d => d) hx
  have hold : ∀ b o, h₀.get? b = some o → h'.get? b = some o := fun b o e => hk b o (fun q => by rw [hn b q] at e; cases e) (X.keep b o e)
  have hcell : ∀ c v, s.heap.IsCell c v → h'.IsCell c v := fun c v ⟨o, ho, hd⟩ => ⟨o, hk c o (fun q => by
    obtain ⟨o', ho', hd'⟩ := hw c q
    rw [ho] at ho'; cases ho'; rw [hd] at hd'
    rcases hd' with ⟨_, hd', _⟩ | ⟨_, _, hd', _⟩ <;> cases hd') ho, hd⟩
  obtain ⟨m, hm, hmv⟩ := X.ns
  have hm' : h'.Ns F.L m := by
    obtain ⟨o, es, ep, ho, hd, r⟩ := hm
    exact ⟨o, es, ep, hk _ o (fun q => by
      obtain ⟨o', ho', hd'⟩ := hw _ q
      rw [ho] at ho'; cases ho'; rw [hd] at hd'
      rcases hd' with ⟨_, hd', _⟩ | ⟨_, _, hd', _⟩ <;> cases hd') ho, hd, r⟩
  refine ⟨⟨X.ok, fun b o e => hold b o (X.baseh b o e), ⟨m, hm', fun x v a b => let ⟨val, e1, e2⟩ := hmv x v a b; ⟨val, e1, hv (hσ x v a) e2⟩⟩, fun x v a b => let ⟨c, val, e1, e2, e3⟩ := X.cel x v a b; ⟨c, val, e1, hcell _ _ e2, hv (hσ x v a) e3⟩, fun a o hm => (nomatch hm), fun b hb => ?_⟩,
    hold, X.baseh, X.newL, fun x e => let ⟨c, v, a1, a2, a3⟩ := X.cells x e; ⟨c, v, a1, a2, hcell _ _ a3⟩, fun x c e => let ⟨v, a3⟩ := X.cellsAll x c e; ⟨v, hcell _ _ a3⟩, X.cellsApart, X.ownNew, X.dold, X.apart⟩
  obtain ⟨o, ho⟩ := Option.isSome_iff_exists.mp (X.dold b hb)
  show (h'.get? b).isSome
  rw [hold b o ho]; rfl

structure JZip (z TI TO i1 i2 l1 l2 : Addr) (D : Addr → Prop) (us vs : List PV) (h : Heap) : Prop where
  apart : ZipApart z TI TO i1 i2 l1 l2
  notD : ¬ D z ∧ ¬ D i1 ∧ ¬ D i2 ∧ ¬ D l1 ∧ ¬ D l2
  zip : IsZip h z TI TO .none
  ti : IsPair h TI (.ref i1) (.ref i2)
  to : ∃ a b, IsPair h TO a b
  it : ∃ i xs ys, h.IsListIter i1 l1 i ∧ h.IsListIter i2 l2 i ∧ h.IsList l1 xs ∧ h.IsList l2 ys ∧ Vs D h us (xs.toList.drop i) ∧ Vs D h vs (ys.toList.drop i)

def FoZ (Γ : Cx) (k : Nat) (sc : Scope) (σ : Loc) (target : Expr) (body : List Stmt) (us vs : List PV) (P : Fl → Loc → Own → Prop) : Prop :=
  ∀ (A : Around) (n : Nat) (F : Fm) (h₀ : Heap) (s : Shared) (R : Result → Shared → Prop) (z TI TO i1 i2 l1 l2 : Addr), n + k ≤ 8 → Lv n A → Sx Γ h₀ sc F σ [] s → JZip z TI TO i1 i2 l1 l2 (Dm F []) us vs s.heap → (∀ b ∈ [z, TO, i1, i2], h₀.get? b = none) →
    (∀ fl σ' μ' f s', P fl σ' μ' → Sx Γ h₀ sc F σ' μ' s' → SpW F [z, TO, i1, i2] [] μ' s s' → FlV (Dm F μ') s'.heap fl f → R (.ok f) s') → codeR Γ.M A (.forLoop target (.ref z) body [] (F.env sc)) R s

theorem JZip.wr {z TI TO i1 i2 l1 l2 : Addr} {D : Addr → Prop} {us vs : List PV} {h : Heap} (J : JZip z TI TO i1 i2 l1 l2 D us vs h) :
    ∀ b ∈ [z, TO, i1, i2], ∃ o, h.get? b = some o ∧ ((∃ vs, o.data = .fields vs ∧ o.cls ≠ .type "range") ∨ (∃ xs n, o.data = .seq xs n ∧ o.cls = .type "tuple")) := by
  intro b hb
  obtain ⟨a', b', hto⟩ := J.to
  obtain ⟨i, xs, ys, ⟨o1, h1, c1, d1⟩, ⟨o2, h2, c2, d2⟩, _⟩ := J.it
  simp only [List.mem_cons, List.not_mem_nil, or_false] at hb
  rcases hb with rfl | rfl | rfl | rfl
  · exact ⟨_, J.zip, .inl ⟨_, rfl, by show Value.type "zip" ≠ Value.type "range"; decide⟩⟩
  · exact ⟨_, hto, .inr ⟨_, _, rfl, rfl⟩⟩
  · exact ⟨_, h1, .inl ⟨_, d1, by rw [c1]; decide⟩⟩
  · exact ⟨_, h2, .inl ⟨_, d2, by rw [c2]; decide⟩⟩

theorem FoZ.nil {target : Expr} {body : List Stmt} {us vs : List PV} (hend : us = [] ∨ vs = []) (hσ : ∀ x v, σ.lookup x = some v → noTup v = true) (h : P .next σ []) : FoZ Γ k sc σ target body us vs P := by
  intro A n F h₀ s R z TI TO i1 i2 l1 l2 hn hA X J hw hR
  obtain ⟨i, xs, ys, j1, j2, j3, j4, j5, j6⟩ := J.it
  obtain ⟨a', b', hto⟩ := J.to
  refine codeR_for1 (toR (wpAny_pyNext_zip_end hA.handled J.apart J.zip J.ti hto j1 j2 j3 j4 ?_ fun h' hk => ?_))
  · rcases hend with q | q
    · subst q; exact .inl (dropEnd j5)
    · subst q; exact .inr (dropEnd j6)
  · have hk' : ∀ b o, b ∉ [z, TO, i1, i2] → s.heap.get? b = some o → h'.get? b = some o := fun b o hb e => hk b o (fun q => hb (by simp [q])) (fun q => hb (by simp [q])) (fun q => hb (by simp [q])) (fun q => hb (by simp [q])) e
    have X' := X.wrH (tk := s.toks) hσ hk' J.wr hw
    exact wpR_execs_nil (hR .next σ [] _ _ h X' (SpW.wr hk') rfl)

theorem JZip.move {z TI TO i1 i2 l1 l2 : Addr} {D D' : Addr → Prop} {us vs : List PV} {h h' : Heap} (J : JZip z TI TO i1 i2 l1 l2 D us vs h)
    (hk : ∀ b o, h.get? b = some o → DataOk o.data → (¬ D b ∨ o.cls = .type "tuple" ∨ o.cls = .type "range") → h'.get? b = some o) (hD : ∀ b o, h.get? b = some o → D' b → D b) : JZip z TI TO i1 i2 l1 l2 D' us vs h' := by
  obtain ⟨n1, n2, n3, n4, n5⟩ := J.notD
  obtain ⟨a', b', hto⟩ := J.to
  obtain ⟨i, xs, ys, ⟨o1, e1, c1, d1⟩, ⟨o2, e2, c2, d2⟩, ⟨o3, e3, c3, m3, d3⟩, ⟨o4, e4, c4, m4, d4⟩, j5, j6⟩ := J.it
  exact ⟨J.apart, ⟨fun d => n1 (hD _ _ J.zip d), fun d => n2 (hD _ _ e1 d), fun d => n3 (hD _ _ e2 d), fun d => n4 (hD _ _ e3 d), fun d => n5 (hD _ _ e4 d)⟩,
    hk _ _ J.zip trivial (.inl n1), hk _ _ J.ti trivial (.inr (.inl rfl)), ⟨a', b', hk _ _ hto trivial (.inr (.inl rfl))⟩,
    ⟨i, xs, ys, ⟨o1, hk _ _ e1 (by rw [d1]; trivial) (.inl n2), c1, d1⟩, ⟨o2, hk _ _ e2 (by rw [d2]; trivial) (.inl n3), c2, d2⟩, ⟨o3, hk _ _ e3 (by rw [d3]; trivial) (.inl n4), c3, m3, d3⟩, ⟨o4, hk _ _ e4 (by rw [d4]; trivial) (.inl n5), c4, m4, d4⟩, j5.move' hk hD, j6.move' hk hD⟩⟩

theorem FoZ.cons {elts : List Expr} {kd : Nat} {tp : Pos} {body : List Stmt} {u v : PV} {us vs : List PV} (hσ : ∀ x v, σ.lookup x = some v → noTup v = true) (hu : noTups (u :: us) = true) (hv : noTups (v :: vs) = true)
    (ha : As Γ k sc σ [] (.Tuple elts kd tp) (.tup [u, v]) σ₁)
    (h : Xs Γ k sc σ₁ [] body (fun fl σ' μ' => match fl with | .next | .cont => μ' = [] ∧ FoZ Γ k sc σ' (.Tuple elts kd tp) body us vs P | .brk => P .next σ' μ' | .ret v => P (.ret v) σ' μ')) : FoZ Γ k sc σ (.Tuple elts kd tp) body (u :: us) (v :: vs) P := by
  intro A n F h₀ s R z TI TO i1 i2 l1 l2 hn hA X J hw hR
  obtain ⟨i, xs, ys, j1, j2, j3, j4, j5, j6⟩ := J.it
  obtain ⟨a', b', hto⟩ := J.to
  obtain ⟨x, ex, hx, hxs⟩ := dropStep j5
  obtain ⟨y, ey, hy, hys⟩ := dropStep j6
  simp only [noTups, Bool.and_eq_true] at hu hv
  refine codeR_for1 (toR (wpAny_pyNext_zip_item J.apart J.zip J.ti hto j1 j2 j3 j4 ex ey fun h₁ q1 q2 q3 q4 q5 q6 hk₁ => ?_))
  refine toR (wpAny_letOwnedTupleGo_zip q1 fun h₂ r1 hs₂ => ?_)
  have hs₂' : Heap.SameBut z h₁ h₂ := hs₂
  have hk : ∀ b o, b ∉ [z, TO, i1, i2] → s.heap.get? b = some o → h₂.get? b = some o := fun b o hb e =>
    (hs₂'.2 b (fun q => hb (by simp [q]))).trans (hk₁ b o (fun q => hb (by simp [q])) (fun q => hb (by simp [q])) (fun q => hb (by simp [q])) (fun q => hb (by simp [q])) e)
  have hwr := J.wr
  have hnode : ∀ b o, s.heap.get? b = some o → ((∃ xs n, o.data = .seq xs n ∧ ¬ Dm F [] b ∧ o.cls = .type "list") ∨ (o.cls = .type "range" ∧ ∃ vs, o.data = .fields vs)) → h₂.get? b = some o := fun b o hb hn => hk b o (fun q => by
    obtain ⟨o', ho', hd'⟩ := hwr b q
    rw [hb] at ho'; cases ho'
    rcases hn with ⟨_, _, hn, _, hl⟩ | ⟨hn, _, hn'⟩
    · rcases hd' with ⟨_, hd', _⟩ | ⟨_, _, _, hc⟩
      · rw [hd'] at hn; cases hn
      · rw [hc] at hl; exact absurd hl (by decide)
    · rcases hd' with ⟨_, _, hc⟩ | ⟨_, _, hd', _⟩
      · exact hc hn
      · rw [hd'] at hn'; cases hn') hb
  have X₁ := X.wrH (h' := h₂) (tk := s.toks) hσ hk hwr hw
  have D := J.apart
  have lt : ∀ {c o}, s.heap.get? c = some o → s.heap.objs.size ≠ c := fun e => Nat.ne_of_gt (Heap.lt_size e)
  have hTT : IsPair h₂ s.heap.objs.size x y := (hs₂'.2 _ (lt J.zip)).trans q5
  have hvT : V (Dm F []) h₂ (.tup [u, v]) (.ref s.heap.objs.size) := by
    refine V_tup.mpr ⟨_, #[x, y], rfl, ⟨_, hTT, rfl, _, rfl⟩, ?_⟩
    show Vs _ _ [u, v] [x, y]
    exact Vs_cons.mpr ⟨x, [y], rfl, hx.moveNT hnode (fun _ _ _ d => d) hu.1, Vs_cons.mpr ⟨y, [], rfl, hy.moveNT hnode (fun _ _ _ d => d) hv.1, Vs_nil.mpr rfl⟩⟩
  have J₁ : JZip z TI TO i1 i2 l1 l2 (Dm F []) us vs h₂ := by
    refine ⟨D, J.notD, r1, ?_, ⟨x, y, (hs₂'.2 _ D.TOz).trans q2⟩, ⟨i + 1, xs, ys, ?_, ?_, ?_, ?_, hxs.moveNT hnode (fun _ _ _ d => d) hu.2, hys.moveNT hnode (fun _ _ _ d => d) hv.2⟩⟩
    · exact hk _ _ (by simp [D.TIz, D.TITO, D.TIi1, D.TIi2]) J.ti
    · exact q3.extBut hs₂'.extBut D.i1z
    · exact q4.extBut hs₂'.extBut D.i2z
    · obtain ⟨o, ho, r⟩ := j3; exact ⟨o, hk _ _ (by simp [D.l1z, D.l1TO, D.l1i1, D.l1i2]) ho, r⟩
    · obtain ⟨o, ho, r⟩ := j4; exact ⟨o, hk _ _ (by simp [D.l2z, D.l2TO, D.l2i1, D.l2i2]) ho, r⟩
  refine toR (ha A n F h₀ _ _ _ _ hn hA X₁ hvT fun s₂ X₂ sp₂ => ?_)
  refine h A n F h₀ s₂ _ _ hn hA X₂ fun fl σ' μ' f s' hP X'' sp hf => ?_
  have spa := sp₂.trans sp
  have spW : SpW F [z, TO, i1, i2] [] μ' s s' := (SpW.wr (tk := s.toks) hk).trans spa.toW
  have next : μ' = [] ∧ FoZ Γ k sc σ' (.Tuple elts kd tp) body us vs P → codeR Γ.M A (.forLoop (.Tuple elts kd tp) (.ref z) body [] (F.env sc)) R s' := fun ⟨hm, hfo⟩ => by
    subst hm
    exact hfo A n F h₀ s' R z TI TO i1 i2 l1 l2 hn hA X'' (J₁.move (X₁.hk X'' spa) (fun b o hb d => spa.dom b (by show (h₂.get? b).isSome; rw [hb]; rfl) d)) hw
      fun fl2 σ2 μ2 f2 s2 hP2 X2 sp2 hf2 => hR fl2 σ2 μ2 f2 s2 hP2 X2 (spW.trans sp2) hf2
  cases fl with
  | next => have : f = .next := hf; subst this; exact next hP
  | cont => have : f = .cont := hf; subst this; exact next hP
  | brk => have : f = .brk := hf; subst this; exact hR .next σ' μ' _ s' hP X'' spW rfl
  | ret w => obtain ⟨val, rfl, hv'⟩ := hf; exact hR (.ret w) σ' μ' _ s' hP X'' spW ⟨val, rfl, hv'⟩
theorem FoZ.less {σ' : Loc} {target : Expr} {body : List Stmt} {us vs : List PV} (h : ∀ x v, σ'.lookup x = some v → σ.lookup x = some v) (hx : FoZ Γ k sc σ' target body us vs P) : FoZ Γ k sc σ target body us vs P :=
  fun A n F h₀ s R z TI TO i1 i2 l1 l2 hn hA X => hx A n F h₀ s R z TI TO i1 i2 l1 l2 hn hA (X.less h)
theorem FoZ.sub {σ' : Loc} {target : Expr} {body : List Stmt} {us vs : List PV} (h : Sub σ σ') (hx : FoZ Γ k sc σ' target body us vs P) : FoZ Γ k sc σ target body us vs P := hx.less h.to

theorem zipApart_of {m a b : Nat} (h1 : a < m) (h2 : b < m) : ZipApart (m + 4) (m + 2) (m + 3) m (m + 1) a b := by
  constructor <;> (intro q; have q' : @Eq Nat _ _ := q; omega)
theorem X1.forZip {x : Str} {xp cp tp : Pos} {elts args : List Expr} {kd : Nat} {body : List Stmt} {us vs : List PV} (hf : Ev Γ k sc σ [] (.Name x xp) (.obj (.type "zip"))) (ha : Es Γ k sc σ [] cp args [.lst us, .lst vs])
    (h : FoZ Γ k sc σ (.Tuple elts kd tp) body us vs P) (hp : args.any isStarred = false := by kernel_rfl)
    (hs : ∀ env y, foldedSetIterable (.Call (.Name x xp) args [] cp) env y = pure y := by intro _ _; kernel_rfl) : X1 Γ k sc σ [] (.For (.Tuple elts kd tp) (.Call (.Name x xp) args [] cp) body [] pos) P := by
  intro A n F h₀ s Q E hn hA X hQ
  refine wpR_For ?_ (hs _)
  refine wpR_CallName (hf A n F s _ _ hn hA X.toSt fun fv s₁ g₁ hfv => ?_)
  rw [V_obj] at hfv; subst hfv
  refine wpR_callWith (P := fun h => Kp Γ.B h) (starEach_plain_any args hp) KeepOk.type ?_
  refine wpR_evalArgs hp (ha A n F s₁ _ _ hn hA (X.grow g₁).toSt fun vals s₂ g₂ hvs => ?_)
  have X₂ := (X.grow g₁).grow g₂
  refine ⟨X₂.base, ?_⟩
  rw [Vs_cons] at hvs
  obtain ⟨v1, r1, rfl, hv1, hr1⟩ := hvs
  rw [Vs_cons] at hr1
  obtain ⟨v2, r2, rfl, hv2, hr2⟩ := hr1
  rw [Vs_nil] at hr2; subst hr2
  obtain ⟨l1, xs, rfl, n1, m1, e1⟩ := V_lst.mp hv1
  obtain ⟨l2, ys, rfl, n2, m2, e2⟩ := V_lst.mp hv2
  show wpR _ _ (PySem.call (.type "zip") [.ref l1, .ref l2] []) _ E s₂
  refine toR (call_zip_2 m1 m2 fun h' z1 z2 z3 z4 z5 z6 hk => ?_)
  refine toR (wpAny_pyIter_zip z1 ?_)
  have g₃ : Gr s₂ { s₂ with heap := h' } := Gr.heap _ hk
  have X₃ := X₂.grow g₃
  have nD : ∀ j, ¬ Dm F [] (s₂.heap.objs.size + j) := fun j d => by
    obtain ⟨o, ho⟩ := Option.isSome_iff_exists.mp (X₂.toSt.dom _ d)
    exact absurd (Heap.lt_size ho) (Nat.not_lt.mpr (Nat.le_add_right _ _))
  have lt1 : l1 < s₂.heap.objs.size := by obtain ⟨o, ho, _⟩ := m1; exact Heap.lt_size ho
  have lt2 : l2 < s₂.heap.objs.size := by obtain ⟨o, ho, _⟩ := m2; exact Heap.lt_size ho
  have ap : ZipApart (s₂.heap.objs.size + 4) (s₂.heap.objs.size + 2) (s₂.heap.objs.size + 3) s₂.heap.objs.size (s₂.heap.objs.size + 1) l1 l2 := zipApart_of lt1 lt2
  have J : JZip (s₂.heap.objs.size + 4) (s₂.heap.objs.size + 2) (s₂.heap.objs.size + 3) s₂.heap.objs.size (s₂.heap.objs.size + 1) l1 l2 (Dm F []) us vs h' :=
    ⟨ap, ⟨nD 4, nD 0, nD 1, n1, n2⟩, z1, z2, ⟨_, _, z3⟩, ⟨0, xs, ys, z4, z5, (by obtain ⟨o, ho, r⟩ := m1; exact ⟨o, hk _ _ ho, r⟩), (by obtain ⟨o, ho, r⟩ := m2; exact ⟨o, hk _ _ ho, r⟩), by simpa using e1.grow hk, by simpa using e2.grow hk⟩⟩
  have hfr : ∀ j, s₂.heap.get? (s₂.heap.objs.size + j) = none := fun j => by
    cases q : s₂.heap.get? (s₂.heap.objs.size + j) with
    | none => rfl
    | some o => exact absurd (Heap.lt_size q) (Nat.not_lt.mpr (Nat.le_add_right _ _))
  have hwr : ∀ b ∈ [s₂.heap.objs.size + 4, s₂.heap.objs.size + 3, s₂.heap.objs.size, s₂.heap.objs.size + 1], s₂.heap.get? b = none := by
    intro b hb
    simp only [List.mem_cons, List.not_mem_nil, or_false] at hb
    rcases hb with rfl | rfl | rfl | rfl
    · exact hfr 4
    · exact hfr 3
    · exact hfr 0
    · exact hfr 1
  refine h A n F h₀ _ _ _ _ _ _ _ _ _ hn hA X₃ J (fun b hb => ?_) fun fl σ' μ' f s' hP X' sp hf => ?_
  · cases q : h₀.get? b with
    | none => rfl
    | some o => have := X₂.keep b o q; rw [hwr b hb] at this; cases this
  · have g := (g₁.trans g₂).trans g₃
    have hnw : ∀ b, (s.heap.get? b).isSome → b ∉ [s₂.heap.objs.size + 4, s₂.heap.objs.size + 3, s₂.heap.objs.size, s₂.heap.objs.size + 1] := fun b hb q => by
      have := (g₁.trans g₂).keep.alive b hb; rw [hwr b q] at this; cases this
    refine hQ fl σ' μ' f s' hP X' ⟨fun b o e h1 h2 h3 => ?_, fun b e => ?_, fun b e d => ?_, sp.gens.trans g.gens, sp.os.trans g.os⟩ hf
    · exact sp.keep b o (hnw b (by rw [e]; rfl)) (g.keep b o e) h1 h2 h3
    · exact sp.alive b (hnw b e) (g.keep.alive b e)
    · exact sp.dom b (hnw b e) (g.keep.alive b e) d
end
end Mine

set_option maxRecDepth 100000
namespace Mine

section
variable {Γ : Cx} {k : Nat} {sc cs : Scope} {σ σ₁ σ₂ : Loc} {μ μ₁ μ₂ : Own} {pos : Pos} {P : Fl → Loc → Own → Prop} {a : Addr}

/-! ### lists: +, * -/
theorem Op2.addL {xs ys : List PV} (h : xs.length + ys.length < 2 ^ 20) : Op2 Γ (binaryOp .Add) (.lst xs) (.lst ys) (.lst (xs ++ ys)) := by
  intro A n D s x y Q E _ _ _ _ hx hy hD hQ
  obtain ⟨l, items, rfl, _, ⟨⟨cls, dd, data, sl⟩, ho, hc, m, hd⟩, e1⟩ := V_lst.mp hx
  obtain ⟨l2, items2, rfl, _, ⟨⟨cls2, dd2, data2, sl2⟩, ho2, hc2, m2, hd2⟩, e2⟩ := V_lst.mp hy
  simp only at hc hd hc2 hd2
  subst hc hd hc2 hd2
  have h1 : items.size = xs.length := by simpa using e1.length
  have h2 : items2.size = ys.length := by simpa using e2.length
  refine concat_meets ⟨_, ho, rfl⟩ ⟨_, ho2, rfl⟩ noFill_list_add seq_list_add PySem.F.slot_list_add PySem.F.entry_list_add (PySem.F.args_list_add_2 _ _) (list_addW l l2 items items2 m m2 dd dd2 sl sl2 (by rw [sizeLine_eq]; omega)) ⟨ho, ho2, ?_⟩
  have hv := V.newList hD (e1.append e2)
  have e : (items.toList ++ items2.toList).toArray = items ++ items2 := by simp
  rw [e] at hv
  exact hQ _ _ (Gr.heap _ (Kp.push _ _)) hv
theorem Vs.rep {D : Addr → Prop} {h : Heap} {xs : List PV} {vs : List Value} (e : Vs D h xs vs) : ∀ n : Nat, Vs D h (List.replicate n xs).flatten (List.replicate n vs).flatten
  | 0 => Vs_nil.mpr rfl
  | n + 1 => by
    rw [List.replicate_succ, List.replicate_succ, List.flatten_cons, List.flatten_cons]
    exact e.append (Vs.rep e n)
theorem Op2.mulL {xs : List PV} {i : Int} (hlo : -(2 ^ 62 : Int) ≤ i) (hhi : i < 2 ^ 62) (h : xs.length * i.toNat < 2 ^ 20) : Op2 Γ (binaryOp .Mult) (.lst xs) (.int i) (.lst (List.replicate i.toNat xs).flatten) := by
  intro A n D s x y Q E _ _ _ _ hx hy hD hQ
  obtain ⟨l, items, rfl, _, ⟨⟨cls, d, data, sl⟩, ho, hc, m, hd⟩, e1⟩ := V_lst.mp hx
  obtain ⟨u, rfl⟩ := V_int.mp hy
  simp only at hc hd
  subst hc hd
  have h1 : items.size = xs.length := by simpa using e1.length
  have hsz' : items.size * i.toNat ≤ 2 ^ 20 := by rw [h1]; omega
  refine wpAny_binaryOp_repeat_ref (T := "list") (U := "int") (by decide) ⟨_, ho, rfl⟩ (fun s' => typeIs_int s' i u) noFill_list_mul PySem.F.fills_int_mul PySem.F.slot_int_rmul repeat_list PySem.F.slot_int_index.lookup
    (call_meets PySem.F.slot_int_rmul (typeIs_int s i u) PySem.F.entry_int_rmul (PySem.F.args_int_rmul_2 _ _) (lm_int_rmul_list_any i u l items m d sl)
      ⟨ho, rfl, ⟨_, ho, rfl⟩, call_meets PySem.F.slot_list_mul ⟨_, ho, rfl⟩ PySem.F.entry_list_mul (PySem.F.args_list_mul_2 _ _)
        (lm_list_mul_any l items m d sl i u (by simp [Builtin.List.listFitsIndex]; omega) (by omega) (by simp [Builtin.List.listTooLong, sizeLine]; omega))
        ⟨ho, ?_⟩⟩)
  rw [listMul_foldl_if]
  exact hQ _ _ (Gr.heap _ (Kp.push _ _)) (V.newList hD (e1.rep _))

/-! ### list.extend, list.insert -/
theorem list_extendW (l b : Addr) (items items2 : Array Value) (n n2 : Nat) (dd2 : Option Addr) (sl2 : Array (Option Value)) (hc0 : ¬(!items.isEmpty && Builtin.List.listTooLong (items.size + items2.size)) = true) (hc1 : items.size ≤ sizeLine) (hs2 : items.size + items2.size ≤ sizeLine + 1) :
    Meets (Builtin.«list.extend» ⟨[.ref l, .ref b], []⟩) (fun _ R s => s.heap.get? l = some { cls := .type "list", dict := none, data := .seq items n, slots := #[] } ∧ s.heap.get? b = some { cls := .type "list", dict := dd2, data := .seq items2 n2, slots := sl2 } ∧ R (.ok (.ret Value.none)) { s with heap := s.heap.update l (Obj.mapSeq fun x => x ++ items2), toks := s.toks }) :=
  .of_wp fun prog w A R s h => by
    obtain ⟨hp, g, d, tk, os⟩ := s; obtain ⟨hl, hb, h⟩ := h; have f1 := AutoSeq1.idx_int; have f2 := AutoSeq1.sub_tuple_tuple; have f3 := AutoSeq1.sub_list_list; have f4 := AutoSeq1.sub_tuple_list; have f5 := AutoSeq1.sub_list_tuple;
    have hz' : (items ++ items2).size ≤ sizeLine + 1 := by rw [Array.size_append]; exact hs2
    wp_walk using (wpAny_updateSeq hl rfl (hz := hc1) (_hz' := hz')), wpAny_loadPart' hl, wpAny_loadPart' hb; exact ⟨_, rfl, h⟩

theorem ownNode {D : Addr → Prop} {s : Shared} {a : Addr} {items : Array Value} {m : Nat} (ho : s.heap.get? a = some { cls := .type "list", data := .seq items m }) (hDa : D a) {h' : Heap} (hs : Heap.SameBut a s.heap h') :
    ∀ b o', s.heap.get? b = some o' → Node D b o' → h'.get? b = some o' := fun b o' hb hn => (hs.2 b (fun q => by
    subst q; rw [ho] at hb; cases hb
    rcases hn with ⟨_, _, _, hn | hn⟩ | ⟨hn, _⟩
    · exact hn hDa
    · exact absurd hn (by show Value.type "list" ≠ Value.type "tuple"; decide)
    · exact absurd hn (by show Value.type "list" ≠ Value.type "range"; decide))).trans hb

theorem MethOk.list_extend {xs ys : List PV} (hz : xs.length + ys.length < 2 ^ 20) : MethOk Γ "list.extend" (.list xs) [.lst ys] (.list (xs ++ ys)) := by
  intro A n D s a vals Q E _ hA ok hB ha hDa hv hD hQ
  rw [Vs_cons] at hv
  obtain ⟨val, r, rfl, hv, hr⟩ := hv
  rw [Vs_nil] at hr; subst hr
  obtain ⟨items, m, ho, e⟩ := ha
  obtain ⟨l2, items2, rfl, _, ⟨⟨cls2, dd2, data2, sl2⟩, ho2, hc2, m2, hd2⟩, e2⟩ := V_lst.mp hv
  simp only at hc2 hd2
  subst hc2 hd2
  have h1 : items.size = xs.length := by simpa using e.length
  have h2 : items2.size = ys.length := by simpa using e2.length
  refine toR (call_meets PySem.F.slot_list_extend ⟨_, ho, rfl⟩ PySem.F.entry_list_extend (PySem.F.args_list_extend_2 _ _) (list_extendW a l2 items items2 m m2 dd2 sl2 (extend_door (by rw [sizeLine_eq]; omega)) (by rw [sizeLine_eq]; omega) (by rw [sizeLine_eq]; omega)) ⟨ho, ho2, ?_⟩)
  have hs : Heap.SameBut a s.heap (s.heap.update a (Obj.mapSeq fun x => x ++ items2)) := Heap.SameBut.update ..
  refine hQ _ s.toks hs ⟨items ++ items2, _, Heap.get?_update_self _ ho rfl, ?_⟩
  rw [Array.toList_append]
  exact (e.move (ownNode ho hDa hs) fun _ _ _ d => d).append (e2.move (ownNode ho hDa hs) fun _ _ _ d => d)

def insL {α : Type} (xs : List α) (i : Nat) (x : α) : List α := xs.take i ++ x :: xs.drop i
theorem MethOk.list_insert {xs : List PV} {i : Int} {v : PV} (h0 : 0 ≤ i) (h1 : i ≤ xs.length) (hz : xs.length < 2 ^ 20) : MethOk Γ "list.insert" (.list xs) [.int i, v] (.list (insL xs i.toNat v)) := by
  intro A n D s a vals Q E _ hA ok hB ha hDa hv hD hQ
  rw [Vs_cons] at hv
  obtain ⟨iv, r, rfl, hi, hr⟩ := hv
  rw [Vs_cons] at hr
  obtain ⟨val, r2, rfl, hv, hr⟩ := hr
  rw [Vs_nil] at hr; subst hr
  obtain ⟨u, rfl⟩ := V_int.mp hi
  obtain ⟨items, m, ho, e⟩ := ha
  have hsz : items.size = xs.length := by simpa using e.length
  refine toR (call_meets PySem.F.slot_list_insert ⟨_, ho, rfl⟩ PySem.F.entry_list_insert (PySem.F.args_list_insert_3 _ _ _) (AutoSeq1.list_insert_list_int_val_1 a items m i u val (by simp [Builtin.List.listFitsIndex]; omega) (by rw [sizeLine_eq]; omega)) ⟨ho, ?_⟩)
  have hs : Heap.SameBut a s.heap (s.heap.update a (Obj.mapSeq fun xs => have k := if i < 0 then (i + (xs.size : Int)).toNat else min i.toNat xs.size; (xs.extract 0 k).push val ++ xs.extract k)) := Heap.SameBut.update ..
  refine hQ _ s.toks hs ⟨_, _, Heap.get?_update_self _ ho rfl, ?_⟩
  have ek : (if i < 0 then (i + (items.size : Int)).toNat else min i.toNat items.size) = i.toNat := by rw [if_neg (by omega)]; omega
  have el : ((items.extract 0 i.toNat).push val ++ items.extract i.toNat).toList = items.toList.take i.toNat ++ val :: items.toList.drop i.toNat := by
    simp [List.take_of_length_le]
  simp only [ek]
  rw [el]
  have e' := e.move (ownNode ho hDa hs) fun _ _ _ d => d
  exact (e'.take _).append (Vs_cons.mpr ⟨val, _, rfl, hv.move (ownNode ho hDa hs) (fun _ _ _ d => d), e'.drop _⟩)

/-! ### what an owned list says -/
theorem Ev.lenOwn {f x : Str} {p p' : Pos} {xs : List PV} (hf : Ev Γ k sc σ (μ₁ ++ (a, .list xs) :: μ₂) (.Name f p) (.obj (.builtin "len"))) (hx : σ.lookup x = some (.ref a)) (hz : xs.length < 2 ^ 62)
    (hl : isVar (sc.names.lookup x) = true := by decide +kernel) (hk : sc.kind = .function := by kernel_rfl) (hd : (x == ("__debug__" : Str)) = false := by decide +kernel) (hcd : (x == ("__classdict__" : Str)) = false := by decide +kernel) :
    Ev Γ k sc σ (μ₁ ++ (a, .list xs) :: μ₂) (.Call (.Name f p) [.Name x p'] [] pos) (.int xs.length) := by
  intro A n F s Q E hn hA st hQ
  refine wpR_CallName (hf A n F s _ _ hn hA st fun fv s₁ g₁ hfv => ?_)
  rw [V_obj] at hfv; subst hfv
  refine wpR_callWith (P := fun h => Kp Γ.B h) (starEach_plain_any _ rfl) KeepOk.builtin ?_
  refine wpR_evalArgs rfl (Es.cons (Ev.name (k := k) hx hl hk hd hcd) Es.nil (fun _ => rfl) A n F s₁ _ _ hn hA (st.grow g₁) fun vals s₂ g₂ hvs => ?_)
  have st₂ := (st.grow g₁).grow g₂
  refine ⟨st₂.base, ?_⟩
  rw [Vs_cons] at hvs
  obtain ⟨v, r, rfl, hv, hr⟩ := hvs
  rw [Vs_nil] at hr; subst hr
  rw [V_ref] at hv; subst hv
  show wpR _ _ (PySem.call (.builtin "len") [.ref a] []) Q E s₂
  obtain ⟨items, m, ho, e⟩ := st₂.own a (.list xs) (by simp)
  have hlen : items.size = xs.length := by simpa using e.length
  refine toR (PyProof.Rows.len_list ⟨_, ho, rfl, m, rfl⟩ (by omega) (hQ _ _ ((g₁.trans g₂).trans (Gr.toks _)) ?_))
  rw [hlen]; exact V.int _ _
theorem Ev.subOwn {x : Str} {p' : Pos} {slice : Expr} {xs : List PV} {i : Int} {r : PV} (hx : σ.lookup x = some (.ref a)) (hi : Ev Γ k sc σ (μ₁ ++ (a, .list xs) :: μ₂) slice (.int i))
    (hr : (0 ≤ i ∧ xs[i.toNat]? = some r) ∨ (i < 0 ∧ -(xs.length : Int) ≤ i ∧ xs[(i + xs.length).toNat]? = some r)) (hz : xs.length < 2 ^ 62)
    (hl : isVar (sc.names.lookup x) = true := by decide +kernel) (hk : sc.kind = .function := by kernel_rfl) (hd : (x == ("__debug__" : Str)) = false := by decide +kernel) (hcd : (x == ("__classdict__" : Str)) = false := by decide +kernel)
    (hs : ∀ o i, subscripted slice false o i = operate [o, i] (getItem o i) := by intro _ _; kernel_rfl) :
    Ev Γ k sc σ (μ₁ ++ (a, .list xs) :: μ₂) (.Subscript (.Name x p') slice pos) r := by
  intro A n F s Q E hn hA st hQ
  refine wpR_Subscript (Ev.name (k := k) hx hl hk hd hcd A n F s _ _ hn hA st fun o s₁ g₁ ho₁ => hi A n F s₁ _ _ hn hA (st.grow g₁) fun iv s₂ g₂ hi₂ => ?_)
  rw [V_ref] at ho₁; subst ho₁
  obtain ⟨t, rfl⟩ := V_int.mp hi₂
  have st₂ := (st.grow g₁).grow g₂
  obtain ⟨items, m, ho, e⟩ := st₂.own a (.list xs) (by simp)
  have hlen : items.size = xs.length := by simpa using e.length
  have hL : s₂.heap.IsList a items := ⟨_, ho, rfl, m, rfl⟩
  refine toR (tail_any hL.typeIs slot_list_getitem.lookup ?_ (hs _ _))
  rcases hr with ⟨h0, hr⟩ | ⟨h0, h1, hr⟩
  · obtain ⟨v, e1, e2⟩ := e.get _ hr
    have hlt : i.toNat < xs.length := (List.getElem?_eq_some_iff.mp hr).1
    exact wpAny_getItem_list hL h0 (by omega) (by simpa using e1) (hQ _ _ (g₁.trans g₂) e2)
  · obtain ⟨v, e1, e2⟩ := e.get _ hr
    exact wpAny_getItem_list_neg hL h0 (by omega) (by omega) (by rw [hlen]; simpa using e1) (hQ _ _ (g₁.trans g₂) e2)

/-! ### methods of values -/
def HasMeth (a : PV) (T : String) : Prop := ∀ (D : Addr → Prop) (s : Shared) (v : Value), V D s.heap a v → s.TypeIs v T ∧ ∀ b, v ≠ .ref b
theorem HasMeth.bytes {l : List UInt8} : HasMeth (.bytes l) "bytes" := fun D s v hv => by
  obtain ⟨t, rfl⟩ := V_bytes.mp hv
  exact ⟨typeIs_bytes s _ _, fun b q => nomatch q⟩
theorem HasMeth.str {l : List Nat} : HasMeth (.str l) "str" := fun D s v hv => by
  obtain ⟨t, rfl⟩ := V_str.mp hv
  exact ⟨typeIs_str s _ _, fun b q => nomatch q⟩
theorem Ev.meth {o : Expr} {name : Str} {ap : Pos} {args : List Expr} {T id : String} {v r : PV} {vs : List PV} (ho : Ev Γ k sc σ μ o v) (hm : HasMeth v T) (ha : Es Γ k sc σ μ pos args vs) (hc : CallOk Γ k (.builtin id) (v :: vs) r)
    (pa : PlainAttrs T) (slot : Slot T name id) (hty : typeOf (.builtin id) = pure (.type "method_descriptor"))
    (hbase : ∀ env, attributeBase o name env (eval o env) = eval o env := by intro _; kernel_rfl)
    (hp : args.any isStarred = false := by kernel_rfl) (hn30 : args.length < 30 := by decide +kernel)
    (hline : ∀ F : Fm, methodCallPos true o (F.env sc) ap pos = pure pos := by intro _; kernel_rfl) :
    Ev Γ k sc σ μ (.Call (.Attribute o name ap) args [] pos) r := by
  intro A n F s Q E hn hA st hQ
  refine wpR_Call_method (hbase _) (form_plain hp hn30) (hline F) pa slot hty ?_
  refine ho A n F s _ _ hn hA st fun ov s₁ g₁ hov => ?_
  obtain ⟨hT, hnr⟩ := hm _ _ _ hov
  refine ⟨hT, fun b e => absurd e (hnr b), ?_⟩
  refine wpR_callWith (P := fun h => Kp Γ.B h) (starEach_plain_any args hp) (KeepOk.builtin) ?_
  refine wpR_evalArgs hp (ha A n F s₁ _ _ hn hA (st.grow g₁) fun vals s₂ g₂ hvs => ?_)
  have st₂ := (st.grow g₁).grow g₂
  refine ⟨st₂.base, ?_⟩
  show wpR _ _ (PySem.call (.builtin id) ([ov] ++ vals) []) _ E s₂
  exact hc A n _ s₂ (ov :: vals) _ E (by omega) hA st.ok st₂.base (Vs_cons.mpr ⟨ov, vals, rfl, hov.grow g₂.keep, hvs⟩) st₂.dom fun v s₃ g₃ hv => hQ v s₃ ((g₁.trans g₂).trans g₃) hv

namespace F
theorem b_owner : Manifest.owners.lookup (String.ofList ['s', 'e', 't', 'y', 'b'].reverse) = some Manifest.sig_bytes := by kernel_rfl
theorem b_slot_upper : Slot "bytes" "upper" "bytes.upper" :=
  .of (owner := "bytes") (n := "upper") (by rw [typeLookup_type, builtinLookup_eq_fast]; kernel_rfl) (by decide +kernel) (by decide +kernel) (by decide +kernel)
    (by first | exact .inl (by decide +kernel) | exact .inr (by decide +kernel)) (by rw [isSubtype_type]; kernel_rfl)
theorem b_entry_upper : entryFor table "bytes.upper" = some Builtin.«bytes.upper» := by first | exact entryFor_of_fast (by kernel_rfl) | exact entryFor_of_tree (by kernel_rfl)
theorem b_args_upper (a : Value) : argsOk "bytes.upper" ⟨[a], []⟩ := by
  unfold argsOk; rw [signature?_of (id := "bytes.upper") (n := ['r', 'e', 'p', 'p', 'u']) (o := ['s', 'e', 't', 'y', 'b']) (by kernel_rfl) b_owner]; kernel_rfl
theorem b_type_upper : typeOf (.builtin "bytes.upper") = pure (.type "method_descriptor") := by show builtinType _ = _; rw [builtinType_eq_fast]; kernel_rfl
theorem b_plainAttrs : PlainAttrs "bytes" :=
  ⟨⟨"bytes.__getattribute__", by rw [typeLookup_type, builtinLookup_eq_fast]; kernel_rfl, by decide +kernel⟩, by rw [typeLookup_type, builtinLookup_eq_fast]; kernel_rfl⟩
end F
theorem meets_upper (b : Array UInt8) (t : Tok) : Meets (Builtin.«bytes.upper» ⟨[.bytes b t], []⟩) (fun _ R s => b.size ≤ sizeLine ∧ ∀ t' k, R (.ok (.ret (.bytes (b.toList.map Builtin.Bytes.toUpper).toArray t'))) { s with toks := k }) := by
  intro prog w A R s h
  show wpAny _ _ (mkBytes (b.toList.map Builtin.Bytes.toUpper).toArray >>= fun v => ret v) _ _ s
  refine wpAny_bind (wpAny_mkBytes ?_ (by simpa using h.1))
  exact wpAny_pure (h.2 _ _)
theorem CallOk.upper {l : List UInt8} (hz : l.length < 2 ^ 20) : CallOk Γ k (.builtin "bytes.upper") [.bytes l] (.bytes (l.map Builtin.Bytes.toUpper)) := by
  intro A n D s vals Q E _ _ _ _ hvs _ hQ
  rw [Vs_cons] at hvs
  obtain ⟨v, r, rfl, hv, hr⟩ := hvs
  rw [Vs_nil] at hr; subst hr
  obtain ⟨t, rfl⟩ := V_bytes.mp hv
  refine toR (call_meets F.b_slot_upper (typeIs_bytes s _ _) F.b_entry_upper (F.b_args_upper _) (meets_upper _ _) ⟨by rw [sizeLine_eq]; simp; omega, fun t' k => hQ _ _ (Gr.toks k) (V.bytes _ _)⟩)

/-! ### x, y = e -/
theorem wpR_Assign_Tuple {M : Model} {A : Around} {E : Value → Shared → Prop} {s : Shared} {env : Env} {elts k tpos value pos} {Q : Flow → Shared → Prop}
    (h : wpR M A (eval value env) (fun v s₁ => wpR M A (assign (.Tuple elts k tpos) env v) (fun _ => Q .next) E s₁) E s)
    (hs : swapsWithSole [.Tuple elts k tpos] value pos.line env = pure false)
    (hw : swappedStores [.Tuple elts k tpos] value env = pure none) :
    wpR M A (exec (.Assign [.Tuple elts k tpos] value pos) env) Q E s := by
  rw [PyProof.Rows.exec_Assign]
  refine wpR_bind (wpR_standAt ?_)
  rw [hs]
  refine wpR_bind (wpR_pure ?_)
  rw [if_neg (by decide)]
  refine wpR_bind (wpR_mono h (fun v s₁ h₁ => ?_) fun _ _ x => x)
  rw [hw]
  refine wpR_bind (wpR_pure ?_)
  show wpR M A (do assignAll v [assign (.Tuple elts k tpos) env]; pure .next) Q E s₁
  exact wpR_bind (wpR_mono h₁ (fun _ _ x => wpR_pure x) fun _ _ x => x)
theorem X1.assignT {elts : List Expr} {kd : Nat} {tp : Pos} {e : Expr} {v : PV} (he : Ev Γ k sc σ μ e v) (ha : As Γ k sc σ μ (.Tuple elts kd tp) v σ₁) (h : P .next σ₁ μ)
    (hs : ∀ F : Fm, swapsWithSole [.Tuple elts kd tp] e pos.line (F.env sc) = pure false := by intro _; kernel_rfl)
    (hw : ∀ F : Fm, swappedStores [.Tuple elts kd tp] e (F.env sc) = pure none := by intro _; kernel_rfl) : X1 Γ k sc σ μ (.Assign [.Tuple elts kd tp] e pos) P := by
  intro A n F h₀ s Q E hn hA X hQ
  refine wpR_Assign_Tuple (he A n F s _ _ hn hA X.toSt fun val s₁ g hv => ?_) (hs F) (hw F)
  exact toR (ha A n F h₀ s₁ val _ _ hn hA (X.grow g) hv fun s₂ X₂ sp₂ => hQ .next _ μ _ s₂ h X₂ ((Sp.gr g).trans sp₂) rfl)

/-! ### try, nothing raised -/
theorem wpR_tryStmt {M : Model} {A : Around} {E : Value → Shared → Prop} {s : Shared} {env : Env} {body orelse : Sem Flow} {h₀ : ExceptHandler} {hs : List ExceptHandler} {Q : Flow → Shared → Prop}
    (h : wpR M A body (fun f s₁ => match f with | .next => wpR M A orelse Q E s₁ | f => Q f s₁)
      (fun e s₁ => wpR M A (noteFrame e env) (fun _ s₂ => wpR M A (setFlight e none) (fun _ s₃ => wpR M A (handleBy e env (h₀ :: hs)) Q E s₃) E s₂) E s₁) s) :
    wpR M A (tryStmt false body (h₀ :: hs) orelse [] env) Q E s := by
  unfold tryStmt
  simp only [List.isEmpty_nil, if_true, List.isEmpty_cons, Bool.false_and, Bool.false_eq_true, if_false]
  refine wpR_bind (wpR_attempt (wpR_mono h (fun f s₁ h₁ => ?_) fun e s₁ h₁ => ?_))
  · cases f <;> first | exact h₁ | exact wpR_pure h₁
  · exact wpR_bind (wpR_mono h₁ (fun _ _ h₂ => wpR_bind h₂) fun _ _ x => x)
theorem X1.try {body orelse : List Stmt} {h₀ : ExceptHandler} {hs : List ExceptHandler} (h : Xs Γ k sc σ μ body (fun fl σ' μ' => match fl with | .next => Xs Γ k sc σ' μ' orelse P | fl => P fl σ' μ')) : X1 Γ k sc σ μ (.Try body (h₀ :: hs) orelse [] pos) P := by
  intro A n F h₀ s Q E hn hA X hQ
  rw [arm_exec_Try]
  refine wpR_bind (wpR_standAt (wpR_tryStmt (h A n F h₀ s _ _ hn hA X fun fl σ' μ' f s' hP X' sp hf => ?_)))
  cases fl with
  | next =>
    have : f = .next := hf
    subst this
    exact hP A n F h₀ s' _ _ hn hA X' fun fl2 σ2 μ2 f2 s2 hP2 X2 sp2 hf2 => hQ fl2 σ2 μ2 f2 s2 hP2 X2 (sp.trans sp2) hf2
  | brk => have : f = .brk := hf; subst this; exact hQ _ _ _ _ _ hP X' sp rfl
  | cont => have : f = .cont := hf; subst this; exact hQ _ _ _ _ _ hP X' sp rfl
  | ret v =>
    obtain ⟨val, rfl, hv⟩ := hf
    exact hQ _ _ _ _ _ hP X' sp ⟨val, rfl, hv⟩
end
end Mine

namespace Mine

/-! ## the head, for the logic over restricted contexts
The library's head asks for wpAny under the claim's caller. The run itself starts on one context, and that one holds no decoder:
so wpR under the caller is enough. -/

theorem good_caller : GoodC (⟨.builtin "claim.caller" {}, none, none, [], none⟩ : Ctx) := ⟨by decide +kernel, fun _ h => nomatch h⟩

theorem halts_of_wpR {prog : Program} {w : World} {t : Sem Fin} {s : Shared} {R : Result → Shared → Prop} (hreg : s.asleep)
    (h : wpR (model prog w) callerA t (fun fin s' => ∃ f, fin = .done f ∧ (R (.ok f) s' ∧ leftWithCleanup s'.gens = false)) (fun e s' => R (.error e) s' ∧ leftWithCleanup s'.gens = false) s) :
    ∃ n r s' s'', runN (denote table) prog w n s ⟨t, .builtin "claim.caller" {}, default, []⟩ = .halted (outcomeOf r) s' ∧
      schedN (denote table) prog w n (.single s ⟨t, .builtin "claim.caller" {}, default, []⟩) = .halted (outcomeOf r) s' ∧ s'.forget = s''.forget ∧ R r s'' := by
  have hwp : Sem.wp (model prog w) ⟨.builtin "claim.caller" {}, none, none, [], none⟩ t (Sem.finPost (model prog w) ⟨.builtin "claim.caller" {}, none, none, [], none⟩ fun r s' => R r s' ∧ leftWithCleanup s'.gens = false)
      (fun e _ s' => R (.error e) s' ∧ leftWithCleanup s'.gens = false) default s := by
    refine Sem.wp_mono _ _ t (fun fin p' s' h' => ?_) (fun _ _ _ h' => h') _ s (h _ default caller_in good_caller)
    obtain ⟨f, rfl, hf⟩ := h'
    exact hf
  obtain ⟨n, r, s₁, s₂, hs, hn, hfo, hR⟩ := wp_halts_full (M := model prog w) (R := R) hreg hwp
  exact ⟨n, r, s₂, s₁, hn, hs, hfo, hR⟩

theorem callFromR {c : ClaimW} {tree : List Value → Sem Fin} {w : World} {s : Shared} {free : Addr → Prop} {gens : Prop} {kept : Heap → Prop} (hz : s.asleep) (hgens : s.gens = #[])
    (hspec : ∀ args, c.pre args = true → WData.layableAll args = true → ∀ ord : List DictEntry → List DictEntry, (∀ l, (ord l).Perm l) →
      ∃ vs s₁, layAllW c.records (classAt s.heap) w.params ord args s = some (vs, s₁) ∧
        wpR (model c.prog w) callerA (tree vs) (fun fin s' => ∃ f, fin = .done f ∧ (c.Ends s args vs s₁ (.ok f) s' ∧ s'.os = s.os ∧ AllBare s'.gens ∧ kept s'.heap))
          (fun e s' => c.Ends s args vs s₁ (.error e) s' ∧ s'.os = s.os ∧ AllBare s'.gens ∧ kept s'.heap) s₁) :
    c.CallFrom (fun vs => ⟨tree vs, .builtin "claim.caller" {}, default, []⟩) w free gens kept s := by
  intro args hpre hlay ord hord
  obtain ⟨vs, s₁, hlaid, hcode⟩ := hspec args hpre hlay ord hord
  have hal := layAllW_rest _ _ _ hlaid
  obtain ⟨k, r, s', s'', hrun, hsched, hfo, hcase, hos, hkp⟩ := halts_of_wpR (prog := c.prog) (w := w) (t := tree vs) (s := s₁)
    (R := fun r s' => c.Ends s args vs s₁ r s' ∧ s'.os = s.os ∧ kept s'.heap) (Shared.asleep_of_life hal.2.2.2 hz)
    (wpR_mono hcode (fun fin s' ⟨f, e, h1, h2, h3, h4⟩ => ⟨f, e, ⟨h1, h2, h4⟩, leftWithCleanup_false_of_bare h3⟩) fun e s' ⟨h1, h2, h3, h4⟩ => ⟨⟨h1, h2, h4⟩, leftWithCleanup_false_of_bare h3⟩)
  obtain ⟨eh, _, _, eo, _⟩ := Shared.forget_eq hfo
  have hends := hcase.congr eh
  have hkept : kept s'.heap := by rw [eh]; exact hkp
  have hos' : s'.os = s.os := eo.trans hos
  have hlife : s'.heap.life = s.heap.life := (runN_life _ _ _ hrun).trans hal.2.2.2
  refine ⟨vs, s₁, hlaid, k, _, s', hsched, ?_, (fun _ i x hx => by rw [hgens] at hx; simp at hx), hkept, by rw [hlife], Shared.rest_eq hos'⟩
  rcases hends with ⟨v, rfl, d1, d2, d3, d4, d5⟩ | ⟨e, ob, cls, rfl, d1, d2, d3, d4, d5⟩
  · exact .inl ⟨v, rfl, d1, d2, d3, fun b o y _ => d4 b o y, d5⟩
  · exact .inr ⟨e, ob, cls, rfl, d1, d2, d3, d4, fun b o y _ => d5 b o y⟩

abbrev WalkR (q : Program) (loose : List Str) (XP : (Str → Option Value) → Heap → Prop) (YP : World → Heap → Prop) (r : RowW) (d : DefRec) (kwd : List (Str × Expr)) (run : Value → List Value → Sem Value) : Prop :=
  ∀ (w : World) (s₀ s₁ : Shared) (mg mb : Str → Option Value), Ground q loose r.records XP w s₀ mg mb s₁.heap → YP w s₁.heap → ∀ (a : Addr) (o : Obj) (pm cd doc dV kV : Value), s₁.heap.get? a = some o →
    o.data = .func { docDef d.name d.params d.body d.scope pm cd doc with defaults := dV, kwdefaults := kV } → s₁.heap.CodeRec cd d.name → Dflts mg s₁.heap d.params kwd dV kV → mg d.name = some (.ref a) → s₁.gens = #[] →
    ∀ (args : List WData) (vals : List Value) (as : List Addr), r.claim.pre args = true → WData.layableAll args = true → ReadsAllW r.records (classAt s₀.heap) s₁.heap vals args as → WellAll w.params s₁.heap vals args → (∀ a ∈ as, (a == sysModules) = false) →
      wpR (model r.prog w) callerA (run (.ref a) vals) (fun v s' => GoodWG r.claim (classAt s₀.heap) (ExcName.means s₀.heap) args s₁ (.ok (.ret v)) s')
        (fun e s' => GoodWG r.claim (classAt s₀.heap) (ExcName.means s₀.heap) args s₁ (.error e) s') s₁

theorem PySem.W.holds_open {r : OpenRow} {q : Program} {loose : List Str} {Xt : Shared → Bool} {XP : (Str → Option Value) → Heap → Prop} {α : Type} {Yf : Shared → α} {Ya : World → α} {YP : World → Heap → Prop} {d : DefRec} {kwd : List (Str × Expr)} {N : Nat}
    (left : LeftO r.prog q loose Xt Yf Ya N) (hY : ∀ w s, Yf s = Ya w → YP w s.heap) (hYk : ∀ w h h', YP w h → (∀ b o, h.get? b = some o → h'.get? b = some o) → YP w h')
    (hX : ∀ s, Xt s = true → XP (s.heap.nsMap mainGlobals) s.heap) (hXk : ∀ mg h h', XP mg h → (∀ b o, h.get? b = some o → h'.get? b = some o) → XP mg h')
    (hdef : defOf q r.name = some (d, kwd)) (hp : r.prog.theDef r.name = some (d.params, d.body, d.scope)) (hk : kwWritten? d.params.kwonlyargs d.params.kw_defaults = some kwd) (hRf : ∀ s, Xt s = true → RecFacts r.records s.heap) (hwr : (!r.writes || r.records.isEmpty) = true)
    (k1 : r.wellSaid = true) (ok : (chainsOk q && opensWell r.prog && (frees r.toRowW && r.within.isEmpty)) = true) (hb : r.prog.bare) (hw : r.toRowW.promised)
    (call : WalkR q loose XP YP r.toRowW d kwd fun f vs => PySem.call f vs) : r.Holds := by
  obtain ⟨ok, k5⟩ := Bool.and_eq_true_iff.mp ok
  obtain ⟨hch, o1⟩ := Bool.and_eq_true_iff.mp ok
  obtain ⟨k5, k6⟩ := Bool.and_eq_true_iff.mp k5
  obtain ⟨hsame, hu, ha, hap, hm⟩ := frees_parts k5
  refine ⟨k1, hw, ⟨⟨hb, o1, by show r.makers.map _ = []; rw [hm]; rfl⟩, hw.witness, fun w => ⟨(left.behind hX hch w).1, fun s' hs' => ?_⟩⟩⟩
  obtain ⟨s₀, hf, hg0, s, hT, hz, hgens, hg, G00, y⟩ := (left.behind (XP := fun mg h => XP mg h ∧ RecFacts r.records h) (fun s hs => ⟨hX s hs, hRf s hs⟩) hch w).2 s' hs'
  have G0 : Ground q loose [] XP w s (s.heap.nsMap mainGlobals) (s.heap.nsMap builtinsNs) s.heap := ⟨G00.T, G00.B, G00.D, G00.TE, G00.TD, G00.W, G00.X.1, G00.cls, G00.has, G00.apart, G00.once, G00.K⟩
  have RF := G00.X.2
  have hT' := hT
  refine ⟨s₀, hf, hg0, s, hT, (fun n hn => ?_), RF.1, RF.2.1, ?_⟩
  · obtain rfl : n = r.name := by split at hn <;> simp_all
    exact pinned_of_view hg G0 hdef hp hk
  have hgens : s.gens = #[] := Array.eq_empty_of_size_eq_zero (beq_iff_eq.mp hgens)
  have G : Ground q loose r.records XP w s _ _ s.heap := RF.ground G0
  refine callFromR (c := r.toRowW.claim) hz hgens fun args hpre hlay ord hord => ?_
  obtain ⟨⟨vs, s₁⟩, hlaid⟩ := Option.isSome_iff_exists.mp (layAllW_isSome (P := w.params) (ord := ord) G.has args r.args s (pre_splitW hpre).1)
  have keeps := layAllW_keeps _ _ _ hlaid
  have hal := layAllW_rest _ _ _ hlaid
  obtain ⟨as, hrd, hin, hold⟩ := reads_layAllW hord _ _ _ hlaid hlay s₁.heap (fun _ _ e => e)
  have L : Laid r.records w s s₁ args vs as := ⟨⟨ord, hord, hlaid⟩, hrd, hin, hold, keeps, hal.1.trans hgens, hal.2.2.1⟩
  have G₁ := G.keeps hXk keeps
  obtain ⟨a, o, pm, cd, doc, dV, kV, h1, h2, h3, h4, h5⟩ := G₁.fn hdef
  have h := call w s s₁ _ _ G₁ (hYk _ _ _ (hY w s y) keeps) a o pm cd doc dV kV h2 h3 h4 h5 (defOf_name hdef ▸ h1) L.gens args vs as hpre hlay L.reads L.well (L.low G.low)
  have hi := ident_freeW hu ha hap
  have hwi : r.toRowW.claim.within = [] := List.isEmpty_iff.mp k6
  refine ⟨vs, s₁, hlaid, ?_⟩
  refine wpR_bind (toR (wpAny_nsGet G₁.T.g ?_))
  rw [h1]
  exact wpR_bind (wpR_mono h (fun v s' g => wpR_pure ⟨_, rfl, have z := g.laid (c := r.toRowW.claim) hsame hwi hi L; ⟨z.1, z.2.1, z.2.2, fun q => ⟨namesKept_of hT' hg r.keeps keeps g.2.1.old, noTable hwr q⟩⟩⟩)
    fun e s' g => have z := g.laid (c := r.toRowW.claim) hsame hwi hi L; ⟨z.1, z.2.1, z.2.2, fun q => ⟨namesKept_of hT' hg r.keeps keeps g.2.1.old, noTable hwr q⟩⟩)

theorem Lv.top : Lv 0 callerA := ⟨rfl, by decide, by decide, rfl⟩

/-- from the contract of 'law' to what the head asks -/
theorem law_called {Γ : Cx} {k : Nat} {ns : List Int} {l fa : Addr} {vs : List Value} {s₁ : Shared} {Q : Value → Shared → Prop} {E : Value → Shared → Prop}
    (ok : Γ.Ok) (hB : Γ.B = s₁.heap) (hk : k ≤ 8) (hl : s₁.heap.IsList l vs.toArray) (hi : IntsAre vs ns)
    (hc : CallOk Γ k (.ref fa) [.lst (ns.map .int)] (.bool true))
    (hQ : ∀ s', Kp s₁.heap s'.heap → s'.gens = s₁.gens → s'.os = s₁.os → Q (.bool true) s') : wpR Γ.M callerA (PySem.call (.ref fa) [.ref l]) Q E s₁ := by
  refine hc callerA 0 (fun _ => False) s₁ [.ref l] Q E (by omega) Lv.top ok (by rw [hB]; exact fun _ _ e => e) ?_ (fun _ h => h.elim) fun val s' g hv => ?_
  · exact Vs_cons.mpr ⟨_, [], rfl, V_lst.mpr ⟨l, vs.toArray, rfl, id, hl, by simpa using Vs.of_ints hi⟩, Vs_nil.mpr rfl⟩
  · rw [V_bool] at hv; subst hv
    exact hQ s' g.keep g.gens g.os
end Mine

namespace Mine

def adLoop (delta divs : Int) : Int := if h : 455 < delta then adLoop (delta / 35) (divs + 36) else divs + 36 * delta / (delta + 38)
termination_by delta.toNat
decreasing_by omega

def adaptF (delta : Int) (first : Bool) (n : Int) : Int := adLoop ((if first then delta / 700 else delta / 2) + (if first then delta / 700 else delta / 2) / n) 0

/-! ## adapt in numbers -/
theorem adLoop_small {e : Int} (h : e ≤ 455) (d : Int) : adLoop e d = d + 36 * e / (e + 38) := by
  rw [adLoop, dif_neg (by omega)]
theorem adLoop_big {e : Int} (h : 455 < e) (d : Int) : adLoop e d = adLoop (e / 35) (d + 36) := by
  rw [adLoop, dif_pos h]
theorem adLoop_acc (e : Int) : ∀ d : Int, adLoop e d = d + adLoop e 0 := by
  obtain ⟨m, hm⟩ : ∃ m : Nat, e.toNat ≤ m := ⟨_, Nat.le_refl _⟩
  induction m using Nat.strongRecOn generalizing e with
  | ind m ih =>
    intro d
    by_cases h : 455 < e
    · rw [adLoop_big h d, adLoop_big h 0, ih (e / 35).toNat (by omega) (e / 35) (Nat.le_refl _) (d + 36), ih (e / 35).toNat (by omega) (e / 35) (Nat.le_refl _) (0 + 36)]
      omega
    · rw [adLoop_small (by omega), adLoop_small (by omega)]; omega
theorem adLoop_step {e : Int} (h : 455 < e) : adLoop e 0 = 36 + adLoop (e / 35) 0 := by
  rw [adLoop_big h, adLoop_acc (e / 35) (0 + 36)]; omega

/-- e * b ≥ a is e ≥ the quotient rounded up -/
theorem ceil_le {a b e : Int} (hb : 0 < b) : (a + b - 1) / b ≤ e ↔ a ≤ e * b := by
  constructor
  · intro h
    have h1 : a + b - 1 < ((a + b - 1) / b + 1) * b := Int.lt_ediv_add_one_mul_self _ hb
    have h2 : ((a + b - 1) / b + 1) * b ≤ (e + 1) * b := Int.mul_le_mul_of_nonneg_right (by omega) (by omega)
    have h3 : (e + 1) * b = e * b + b := by rw [Int.add_mul, Int.one_mul]
    omega
  · intro h
    have h1 : (a + b - 1) / b * b ≤ a + b - 1 := Int.ediv_mul_le _ (by omega)
    by_cases hc : (a + b - 1) / b ≤ e
    · exact hc
    · have h2 : (e + 1) * b ≤ (a + b - 1) / b * b := Int.mul_le_mul_of_nonneg_right (by omega) (by omega)
      have h3 : (e + 1) * b = e * b + b := by rw [Int.add_mul, Int.one_mul]
      omega

/-- the step of a small number -/
theorem small_step {e s : Int} (he : 0 ≤ e) (hs : s < 36) : s ≤ 36 * e / (e + 38) ↔ (38 * s + 35 - s) / (36 - s) ≤ e := by
  have h1 : (38 * s + 35 - s) = 38 * s + (36 - s) - 1 := by omega
  rw [h1, ceil_le (by omega), Int.le_ediv_iff_mul_le (by omega)]
  have h2 : s * (e + 38) = s * e + s * 38 := Int.mul_add ..
  have h3 : e * (36 - s) = e * 36 - e * s := Int.mul_sub ..
  have h4 : s * e = e * s := Int.mul_comm ..
  omega

/-- the least number with a level and a step -/
def leastF (level step : Int) : Int := if 0 < level ∧ step = 9 then 456 * 35 ^ (level - 1).toNat else (38 * step + 35 - step) / (36 - step) * 35 ^ level.toNat

theorem small_le {e : Int} (he : 0 ≤ e) (h : e ≤ 455) : 36 * e / (e + 38) ≤ 33 := by
  have : 36 * e / (e + 38) < 34 := Int.ediv_lt_of_lt_mul (by omega) (by omega)
  omega
theorem adLoop_nonneg {e : Int} (he : 0 ≤ e) : 0 ≤ adLoop e 0 := by
  obtain ⟨m, hm⟩ : ∃ m : Nat, e.toNat ≤ m := ⟨_, Nat.le_refl _⟩
  induction m using Nat.strongRecOn generalizing e with
  | ind m ih =>
    by_cases h : 455 < e
    · rw [adLoop_step h]
      have := ih (e / 35).toNat (by omega) (e := e / 35) (by omega) (Nat.le_refl _)
      omega
    · rw [adLoop_small (by omega)]
      have : 0 ≤ 36 * e / (e + 38) := Int.ediv_nonneg (by omega) (by omega)
      omega

theorem ceil_pos {s : Int} (h : 9 ≤ s) (h2 : s ≤ 33) : 13 ≤ (38 * s + 35 - s) / (36 - s) := by
  rw [Int.le_ediv_iff_mul_le (by omega)]; omega
theorem ceil_pos' {s : Int} (h : 10 ≤ s) (h2 : s ≤ 33) : 15 ≤ (38 * s + 35 - s) / (36 - s) := by
  rw [Int.le_ediv_iff_mul_le (by omega)]; omega

theorem le_div35 {a e : Int} : a ≤ e / 35 ↔ a * 35 ≤ e := Int.le_ediv_iff_mul_le (by decide)

/-- the heart: from which number on the bias is at least 36 a level and a step -/
theorem bias_ge (level : Nat) : ∀ (step e : Int), 0 ≤ e → 0 ≤ step → step ≤ 33 → (level = 0 ∨ 9 ≤ step) → (36 * (level : Int) + step ≤ adLoop e 0 ↔ leastF level step ≤ e) := by
  induction level with
  | zero =>
    intro step e he h0 h1 _
    have hl : leastF ((0 : Nat) : Int) step = (38 * step + 35 - step) / (36 - step) := by
      unfold leastF
      rw [if_neg (by omega)]
      simp
    rw [hl]
    by_cases h : 455 < e
    · rw [adLoop_step h]
      have := adLoop_nonneg (e := e / 35) (by omega)
      have h2 : (38 * step + 35 - step) / (36 - step) ≤ 455 := by
        have : (38 * step + 35 - step) / (36 - step) < 456 := Int.ediv_lt_of_lt_mul (by omega) (by omega)
        omega
      constructor <;> intro <;> omega
    · rw [adLoop_small (by omega), ← small_step he (by omega)]
      constructor <;> intro <;> omega
  | succ level ih =>
    intro step e he h0 h1 h2
    have h9 : 9 ≤ step := by omega
    have hp : (0 : Int) < 35 ^ level := Int.pow_pos (by decide)
    have hp35 : (35 : Int) ^ (level + 1) = 35 ^ level * 35 := Int.pow_succ ..
    by_cases h : 455 < e
    · rw [adLoop_step h]
      have ih' := ih step (e / 35) (by omega) h0 h1 (.inr h9)
      have e1 : (36 * ((level + 1 : Nat) : Int) + step ≤ 36 + adLoop (e / 35) 0) ↔ (36 * (level : Int) + step ≤ adLoop (e / 35) 0) := by omega
      rw [e1, ih', le_div35]
      unfold leastF
      by_cases h10 : step = 9
      · subst h10
        rw [if_pos (show (0 : Int) < ((level + 1 : Nat) : Int) ∧ (9 : Int) = 9 from ⟨by omega, rfl⟩)]
        have e2 : (((level + 1 : Nat) : Int) - 1).toNat = level := by omega
        rw [e2]
        cases level with
        | zero =>
          rw [if_neg (by omega)]
          have : (38 * 9 + 35 - 9 : Int) / (36 - 9) * 35 ^ (((0 : Nat) : Int)).toNat * 35 = 455 := by decide
          rw [this]
          have : (456 : Int) * 35 ^ 0 = 456 := by decide
          rw [this]
          constructor <;> intro <;> omega
        | succ level =>
          rw [if_pos (show (0 : Int) < ((level + 1 : Nat) : Int) ∧ (9 : Int) = 9 from ⟨by omega, rfl⟩)]
          have e3 : (((level + 1 : Nat) : Int) - 1).toNat = level := by omega
          rw [e3]
          have : (456 : Int) * 35 ^ (level + 1) = 456 * 35 ^ level * 35 := by rw [Int.pow_succ, Int.mul_assoc]
          rw [this]
      · rw [if_neg (by omega), if_neg (by omega)]
        have e2 : (((level + 1 : Nat) : Int)).toNat = level + 1 := by omega
        have e3 : ((level : Nat) : Int).toNat = level := by omega
        rw [e2, e3, hp35, Int.mul_assoc]
    · rw [adLoop_small (by omega)]
      have h3 := small_le he (by omega)
      have h4 : (456 : Int) ≤ leastF ((level + 1 : Nat) : Int) step := by
        unfold leastF
        by_cases h10 : step = 9
        · rw [if_pos ⟨by omega, h10⟩]
          have : (1 : Int) ≤ 35 ^ (((level + 1 : Nat) : Int) - 1).toNat := Int.pow_pos (by decide)
          omega
        · rw [if_neg (by omega)]
          have e2 : (((level + 1 : Nat) : Int)).toNat = level + 1 := by omega
          rw [e2, hp35]
          have h5 := ceil_pos' (s := step) (by omega) h1
          have h6 : 15 * (35 ^ level * 35) ≤ (38 * step + 35 - step) / (36 - step) * ((35 : Int) ^ level * 35) := Int.mul_le_mul_of_nonneg_right h5 (by omega)
          omega
      constructor <;> intro <;> omega

/-- no bias is 34 or 35 above a level's 36, nor, from level one on, less than 9 -/
theorem bias_shape (e : Int) (he : 0 ≤ e) : ∃ (l : Nat) (s : Int), adLoop e 0 = 36 * (l : Int) + s ∧ 0 ≤ s ∧ s ≤ 33 ∧ (l = 0 ∨ 9 ≤ s) := by
  obtain ⟨m, hm⟩ : ∃ m : Nat, e.toNat ≤ m := ⟨_, Nat.le_refl _⟩
  induction m using Nat.strongRecOn generalizing e with
  | ind m ih =>
    by_cases h : 455 < e
    · obtain ⟨l, s, h1, h2, h3, h4⟩ := ih (e / 35).toNat (by omega) (e / 35) (by omega) (Nat.le_refl _)
      refine ⟨l + 1, s, ?_, h2, h3, .inr ?_⟩
      · rw [adLoop_step h, h1]; omega
      · rcases h4 with h4 | h4
        · subst h4
          have := (bias_ge 0 9 (e / 35) (by omega) (by decide) (by decide) (.inl rfl)).mpr (by
            have : leastF ((0 : Nat) : Int) 9 = 13 := by decide
            rw [this]; omega)
          omega
        · exact h4
    · have h1 := small_le he (by omega)
      have h2 : 0 ≤ 36 * e / (e + 38) := Int.ediv_nonneg (by omega) (by omega)
      exact ⟨0, 36 * e / (e + 38), by rw [adLoop_small (by omega)]; omega, h2, h1, .inl rfl⟩

/-- a number and its share reach m just from the number on that the law reckons -/
theorem share_ge {d m n : Int} (hn : 0 < n) (hd : 0 ≤ d) : m ≤ d + d / n ↔ m - m / (n + 1) ≤ d := by
  have h1 := Int.ediv_mul_le d (show n ≠ 0 by omega)
  have h2 := Int.lt_ediv_add_one_mul_self d hn
  have h3 := Int.ediv_mul_le m (show n + 1 ≠ 0 by omega)
  have h4 := Int.lt_ediv_add_one_mul_self m (show 0 < n + 1 by omega)
  generalize hq : d / n = q at *
  generalize hp : m / (n + 1) = p at *
  have e1 : (q + 1) * n = q * n + n := by rw [Int.add_mul, Int.one_mul]
  have e2 : p * (n + 1) = p * n + p := by rw [Int.mul_add, Int.mul_one]
  have e3 : (p + 1) * (n + 1) = p * n + p + n + 1 := by rw [Int.add_mul, e2, Int.one_mul]; omega
  constructor
  · intro h
    by_cases hc : p ≤ q
    · have : p * n ≤ q * n := Int.mul_le_mul_of_nonneg_right hc (by omega)
      by_cases hd2 : m - p ≤ d
      · exact hd2
      · have h5 : d + 1 + p ≤ m := by omega
        by_cases hpq : p = q
        · omega
        · have h6 : (p + 1) * n ≤ q * n := Int.mul_le_mul_of_nonneg_right (by omega) (by omega)
          have e4 : (p + 1) * n = p * n + n := by rw [Int.add_mul, Int.one_mul]
          omega
    · have : (q + 1) * n ≤ p * n := Int.mul_le_mul_of_nonneg_right (by omega) (by omega)
      omega
  · intro h
    by_cases hc : p ≤ q
    · omega
    · have : (q + 1) * n ≤ p * n := Int.mul_le_mul_of_nonneg_right (by omega) (by omega)
      omega

def nextF (level step : Int) : Int := if step < 33 then leastF level (step + 1) else leastF (level + 1) 9
def wholeF (first : Bool) : Int := if first then 700 else 2
def fromF (first : Bool) (n m : Int) : Int := wholeF first * (m - m / (n + 1))

theorem adaptF_ge {delta : Int} {first : Bool} {n : Int} (hd : 0 ≤ delta) (hn : 0 < n) (level : Nat) (step : Int) (h0 : 0 ≤ step) (h1 : step ≤ 33) (h2 : level = 0 ∨ 9 ≤ step) :
    36 * (level : Int) + step ≤ adaptF delta first n ↔ fromF first n (leastF level step) ≤ delta := by
  unfold adaptF fromF wholeF
  cases first with
  | true =>
    simp only [if_true]
    have hq : 0 ≤ delta / 700 := by omega
    have hq2 : 0 ≤ delta / 700 / n := Int.ediv_nonneg hq (by omega)
    rw [bias_ge level step _ (by omega) h0 h1 h2, share_ge hn hq, Int.le_ediv_iff_mul_le (by decide), Int.mul_comm]
  | false =>
    simp only [Bool.false_eq_true, if_false]
    have hq : 0 ≤ delta / 2 := by omega
    have hq2 : 0 ≤ delta / 2 / n := Int.ediv_nonneg hq (by omega)
    rw [bias_ge level step _ (by omega) h0 h1 h2, share_ge hn hq, Int.le_ediv_iff_mul_le (by decide), Int.mul_comm]

theorem adaptF_shape {delta : Int} {first : Bool} {n : Int} (hd : 0 ≤ delta) (hn : 0 < n) : ∃ (l : Nat) (s : Int), adaptF delta first n = 36 * (l : Int) + s ∧ 0 ≤ s ∧ s ≤ 33 ∧ (l = 0 ∨ 9 ≤ s) := by
  unfold adaptF
  refine bias_shape _ ?_
  cases first with
  | true =>
    simp only [if_true]
    have hq2 : 0 ≤ delta / 700 / n := Int.ediv_nonneg (by omega) (by omega)
    omega
  | false =>
    simp only [Bool.false_eq_true, if_false]
    have hq2 : 0 ≤ delta / 2 / n := Int.ediv_nonneg (by omega) (by omega)
    omega

/-- the law's three parts -/
theorem law01 {first : Bool} {n : Int} (hn : 0 < n) (level : Nat) (step : Int) (h0 : 0 ≤ step) (h1 : step ≤ 33) (h2 : level = 0 ∨ 9 ≤ step) {delta : Int} (hd : 0 ≤ delta) :
    (fromF first n (leastF level step) ≤ delta → delta < fromF first n (nextF level step) → adaptF delta first n = 36 * (level : Int) + step) ∧
    (delta < fromF first n (leastF level step) → adaptF delta first n < 36 * (level : Int) + step) ∧
    (fromF first n (nextF level step) ≤ delta → 36 * (level : Int) + step < adaptF delta first n) := by
  have a := adaptF_ge hd hn (first := first) level step h0 h1 h2
  obtain ⟨l, s, e1, e2, e3, e4⟩ := adaptF_shape hd hn (first := first)
  unfold nextF
  by_cases hs : step < 33
  · rw [if_pos hs]
    have b := adaptF_ge hd hn (first := first) level (step + 1) (by omega) (by omega) (h2.imp id fun h => by omega)
    refine ⟨fun c d => ?_, fun c => ?_, fun c => ?_⟩
    · have := a.mpr c
      have h3 : ¬ (36 * (level : Int) + (step + 1) ≤ adaptF delta first n) := fun q => by have := b.mp q; omega
      omega
    · have h3 : ¬ (36 * (level : Int) + step ≤ adaptF delta first n) := fun q => by have := a.mp q; omega
      omega
    · have := b.mpr c; omega
  · rw [if_neg hs]
    have b := adaptF_ge hd hn (first := first) (level + 1) 9 (by omega) (by omega) (.inr (by omega))
    have ec : ((level + 1 : Nat) : Int) = (level : Int) + 1 := by omega
    rw [ec] at b
    refine ⟨fun c d => ?_, fun c => ?_, fun c => ?_⟩
    · have := a.mpr c
      have h3 : ¬ (36 * ((level : Int) + 1) + 9 ≤ adaptF delta first n) := fun q => by have := b.mp q; omega
      omega
    · have h3 : ¬ (36 * (level : Int) + step ≤ adaptF delta first n) := fun q => by have := a.mp q; omega
      omega
    · have := b.mpr c; omega

theorem leastF_nonneg {level step : Int} (h0 : 0 ≤ step) (h1 : step ≤ 33) : 0 ≤ leastF level step := by
  unfold leastF
  split
  · have : (0 : Int) < 35 ^ (level - 1).toNat := Int.pow_pos (by decide)
    omega
  · exact Int.mul_nonneg (Int.ediv_nonneg (by omega) (by omega)) (Int.le_of_lt (Int.pow_pos (by decide)))
theorem leastF_lt {level step : Int} (h0 : 0 ≤ step) (h1 : step ≤ 33) (hl : level ≤ 12) : leastF level step < 2 ^ 74 := by
  have hp : ∀ k : Nat, k ≤ 12 → (35 : Int) ^ k ≤ 35 ^ 12 := fun k hk => by
    have := Nat.pow_le_pow_right (n := 35) (by decide) hk
    exact_mod_cast this
  unfold leastF
  split
  · have := hp (level - 1).toNat (by omega)
    have e : (35 : Int) ^ 12 = 3379220508056640625 := by decide
    omega
  · have h2 : (38 * step + 35 - step) / (36 - step) ≤ 455 := by
      have : (38 * step + 35 - step) / (36 - step) < 456 := Int.ediv_lt_of_lt_mul (by omega) (by omega)
      omega
    have h3 : 0 ≤ (38 * step + 35 - step) / (36 - step) := Int.ediv_nonneg (by omega) (by omega)
    have := hp level.toNat (by omega)
    have h4 : (38 * step + 35 - step) / (36 - step) * 35 ^ level.toNat ≤ 455 * 35 ^ 12 := Int.mul_le_mul h2 this (Int.le_of_lt (Int.pow_pos (by decide))) (by decide)
    have e : (35 : Int) ^ 12 = 3379220508056640625 := by decide
    omega
theorem fromF_nonneg {first : Bool} {n m : Int} (hn : 0 < n) (hm : 0 ≤ m) : 0 ≤ fromF first n m := by
  unfold fromF wholeF
  have : m / (n + 1) ≤ m := Int.ediv_le_self _ hm
  cases first <;> simp <;> omega
end Mine

namespace Mine

/-! ## the plain law of generate_generalized_integer -/

def tF (j bias : Int) : Int := if 36 * (j + 1) - bias < 1 then 1 else if 26 < 36 * (j + 1) - bias then 26 else 36 * (j + 1) - bias
theorem tF_ge (j bias : Int) : 1 ≤ tF j bias := by unfold tF; repeat' split <;> omega
theorem tF_le (j bias : Int) : tF j bias ≤ 26 := by unfold tF; repeat' split <;> omega

def dgs : List UInt8 := [97, 98, 99, 100, 101, 102, 103, 104, 105, 106, 107, 108, 109, 110, 111, 112, 113, 114, 115, 116, 117, 118, 119, 120, 121, 122, 48, 49, 50, 51, 52, 53, 54, 55, 56, 57]
def dB (d : Int) : UInt8 := dgs.getD d.toNat 0

theorem ediv_small {a b : Int} (h : 0 < a) (hb : 2 ≤ b) : a / b < a := by
  have := Int.ediv_lt_of_lt_mul (a := a) (b := a) (c := b) (by omega) (by
    have : a * 2 ≤ a * b := Int.mul_le_mul_of_nonneg_left hb (by omega)
    omega)
  exact this
theorem next_lt {N t : Int} (h1 : 1 ≤ t) (h2 : t ≤ 26) (h : ¬ N < t) : ((N - t) / (36 - t)).toNat < N.toNat := by
  have hb : (N - t) / (36 - t) ≤ N - t := by
    by_cases hz : N - t = 0
    · rw [hz]; simp
    · have := ediv_small (a := N - t) (b := 36 - t) (by omega) (by omega)
      omega
  omega

/-- the numeral's figures -/
def ggiD (N bias : Int) (j : Int) : List Int :=
  if h : N < tF j bias then [N]
  else (tF j bias + (N - tF j bias) % (36 - tF j bias)) :: ggiD ((N - tF j bias) / (36 - tF j bias)) bias (j + 1)
termination_by N.toNat
decreasing_by exact next_lt (tF_ge _ _) (tF_le _ _) h

def ggiB (N bias : Int) : List UInt8 := (ggiD N bias 0).map dB

theorem dB_int {d : Int} : ((dB d).toNat : Int).toNat.toUInt8 = dB d := by simp

theorem ggiD_length_le : ∀ (m : Nat) (N bias j : Int), N < 10 ^ m → (ggiD N bias j).length ≤ m + 1
  | 0, N, bias, j, h => by
    rw [ggiD, dif_pos (by have := tF_ge j bias; omega)]; simp
  | m + 1, N, bias, j, h => by
    rw [ggiD]
    split
    · simp
    · rename_i hn
      have h1 := tF_ge j bias
      have h2 := tF_le j bias
      have : (N - tF j bias) / (36 - tF j bias) < 10 ^ m := by
        refine Int.ediv_lt_of_lt_mul (by omega) ?_
        have h3 : (10 : Int) ^ m * 10 ≤ 10 ^ m * (36 - tF j bias) := Int.mul_le_mul_of_nonneg_left (by omega) (Int.pow_nonneg (by omega))
        rw [Int.pow_succ] at h
        omega
      have := ggiD_length_le m _ bias (j + 1) this
      simpa using this
end Mine

namespace Mine

/-! ## the plain law 04: adding numerals -/
theorem ggiD_range : ∀ (m : Nat) (N bias j : Int), N.toNat ≤ m → 0 ≤ N → ∀ d ∈ ggiD N bias j, 0 ≤ d ∧ d < 36 := by
  intro m
  induction m using Nat.strongRecOn with
  | ind m ih =>
    intro N bias j hm h0 d hd
    have h1 := tF_ge j bias
    have h2 := tF_le j bias
    rw [ggiD] at hd
    split at hd
    · simp at hd; subst hd; omega
    · rename_i hn
      rcases List.mem_cons.mp hd with rfl | hd
      · have := Int.emod_nonneg (N - tF j bias) (b := 36 - tF j bias) (by omega)
        have := Int.emod_lt_of_pos (N - tF j bias) (b := 36 - tF j bias) (by omega)
        omega
      · have := next_lt h1 h2 hn
        exact ih _ (by omega) _ bias (j + 1) (Nat.le_refl _) (Int.ediv_nonneg (by omega) (by omega)) d hd
theorem ggiD_dig {N bias : Int} (h0 : 0 ≤ N) : ∀ d ∈ ggiD N bias 0, 0 ≤ d ∧ d < 36 := ggiD_range _ N bias 0 (Nat.le_refl _) h0

/-- the worth of a run of figures from a place on -/
def valD (bias : Int) : Int → List Int → Int
  | _, [] => 0
  | j, d :: r => d + (36 - tF j bias) * valD bias (j + 1) r
/-- figures as they stand in a numeral: none below its place's limit but the last -/
def okD (bias : Int) : Int → List Int → Prop
  | _, [] => True
  | j, d :: r => 0 ≤ d ∧ d ≤ 35 ∧ (d < tF j bias → r = []) ∧ okD bias (j + 1) r
theorem okD_nonneg (bias : Int) : ∀ (l : List Int) (j : Int), okD bias j l → 0 ≤ valD bias j l
  | [], _, _ => Int.le_refl _
  | d :: r, j, h => by
    have h2 := tF_le j bias
    have := Int.mul_nonneg (a := 36 - tF j bias) (by omega) (okD_nonneg bias r (j + 1) h.2.2.2)
    show 0 ≤ d + _
    have := h.1
    omega
theorem ggiD_okv : ∀ (m : Nat) (N bias j : Int), N.toNat ≤ m → 0 ≤ N → okD bias j (ggiD N bias j) ∧ valD bias j (ggiD N bias j) = N := by
  intro m
  induction m using Nat.strongRecOn with
  | ind m ih =>
    intro N bias j hm h0
    have h1 := tF_ge j bias
    have h2 := tF_le j bias
    rw [ggiD]
    split
    · rename_i hn
      refine ⟨⟨h0, by omega, fun _ => rfl, trivial⟩, ?_⟩
      show N + (36 - tF j bias) * 0 = N
      omega
    · rename_i hn
      have hlt := next_lt h1 h2 hn
      obtain ⟨i1, i2⟩ := ih _ (by omega) ((N - tF j bias) / (36 - tF j bias)) bias (j + 1) (Nat.le_refl _) (Int.ediv_nonneg (by omega) (by omega))
      have m0 := Int.emod_nonneg (N - tF j bias) (b := 36 - tF j bias) (by omega)
      have m1 := Int.emod_lt_of_pos (N - tF j bias) (b := 36 - tF j bias) (by omega)
      refine ⟨⟨by omega, by omega, fun h => by omega, i1⟩, ?_⟩
      show tF j bias + (N - tF j bias) % (36 - tF j bias) + (36 - tF j bias) * valD bias (j + 1) _ = N
      rw [i2]
      have := Int.mul_ediv_add_emod (N - tF j bias) (36 - tF j bias)
      omega

def hd0 : List Int → Int
  | [] => 0
  | d :: _ => d
theorem valD_step (bias j : Int) (l : List Int) : valD bias j l = hd0 l + (36 - tF j bias) * valD bias (j + 1) (l.drop 1) := by
  cases l with
  | nil => simp [valD, hd0]
  | cons d r => rfl
theorem okD_drop {bias j : Int} {l : List Int} (h : okD bias j l) : okD bias (j + 1) (l.drop 1) ∧ 0 ≤ hd0 l ∧ hd0 l ≤ 35 ∧ (hd0 l < tF j bias → l.drop 1 = []) := by
  cases l with
  | nil => exact ⟨trivial, Int.le_refl _, by simp [hd0], fun _ => rfl⟩
  | cons d r => exact ⟨h.2.2.2, h.1, h.2.1, h.2.2.1⟩

/-- one column: the figure that stays, and what is carried -/
theorem column {bias j c f o : Int} {u v : List Int} (hu : okD bias j u) (hv : okD bias j v) (hc : 0 ≤ c) (ho : 0 ≤ o) (hf : c + hd0 u + hd0 v = f + o * (36 - tF j bias)) (hf1 : f ≤ 35) (hf0 : o = 0 ∨ tF j bias ≤ f) :
    0 ≤ f ∧ (f < tF j bias → ggiD (c + valD bias j u + valD bias j v) bias j = [f]) ∧
    (tF j bias ≤ f → ggiD (c + valD bias j u + valD bias j v) bias j = f :: ggiD (o + valD bias (j + 1) (u.drop 1) + valD bias (j + 1) (v.drop 1)) bias (j + 1)) := by
  have h1 := tF_ge j bias
  have h2 := tF_le j bias
  obtain ⟨u1, u2, u3, u4⟩ := okD_drop hu
  obtain ⟨v1, v2, v3, v4⟩ := okD_drop hv
  have nu := okD_nonneg bias _ _ u1
  have nv := okD_nonneg bias _ _ v1
  have hf2 : 0 ≤ f := by
    rcases hf0 with h | h
    · subst h; rw [Int.zero_mul] at hf; omega
    · omega
  have hN : c + valD bias j u + valD bias j v = f + (36 - tF j bias) * (o + valD bias (j + 1) (u.drop 1) + valD bias (j + 1) (v.drop 1)) := by
    rw [valD_step bias j u, valD_step bias j v, Int.mul_add, Int.mul_add, Int.mul_comm (36 - tF j bias) o]
    omega
  refine ⟨hf2, fun hlt => ?_, fun hge => ?_⟩
  · have ho0 : o = 0 := by rcases hf0 with h | h; exact h; omega
    subst ho0
    rw [Int.zero_mul] at hf
    rw [hN, u4 (by omega), v4 (by omega)]
    have : f + (36 - tF j bias) * (0 + valD bias (j + 1) [] + valD bias (j + 1) []) = f := by simp [valD]
    rw [this, ggiD, dif_pos hlt]
  · generalize hM : o + valD bias (j + 1) (u.drop 1) + valD bias (j + 1) (v.drop 1) = M at *
    have hM0 : 0 ≤ M := by omega
    have hp : 0 ≤ (36 - tF j bias) * M := Int.mul_nonneg (by omega) hM0
    rw [hN, ggiD, dif_neg (by omega)]
    have e1 : f + (36 - tF j bias) * M - tF j bias = (f - tF j bias) + (36 - tF j bias) * M := by omega
    rw [e1, Int.add_mul_emod_self_left, Int.add_mul_ediv_left _ _ (by omega), Int.emod_eq_of_lt (by omega) (by omega), Int.ediv_eq_zero_of_lt (by omega) (by omega)]
    have e2 : tF j bias + (f - tF j bias) = f := by omega
    have e3 : 0 + M = M := by omega
    rw [e2, e3]
theorem carry_le {t f o s : Int} (h1 : 1 ≤ t) (h2 : t ≤ 26) (hs : s ≤ 74) (hf : s = f + o * (36 - t)) (hf0 : o = 0 ∨ t ≤ f) : o ≤ 4 := by
  rcases hf0 with h | h
  · omega
  · by_cases hc : o ≤ 4
    · exact hc
    · have : 5 * (36 - t) ≤ o * (36 - t) := Int.mul_le_mul_of_nonneg_right (by omega) (by omega)
      omega
theorem limit_eq (j bias : Int) : max 1 (min 26 (36 * (j + 1) - bias)) = tF j bias := by
  unfold tF
  by_cases h : 36 * (j + 1) - bias < 1
  · rw [if_pos h]; omega
  · rw [if_neg h]
    by_cases h' : 26 < 36 * (j + 1) - bias
    · rw [if_pos h']; omega
    · rw [if_neg h']; omega

theorem one_num {bias : Int} (h0 : 0 ≤ (1 : Int)) : ggiD 1 bias 0 = if bias < 35 then [1] else [1, 0] := by
  by_cases h : bias < 35
  · rw [if_pos h, ggiD, dif_pos]
    rw [← limit_eq]; omega
  · rw [if_neg h, ggiD]
    have ht : tF 0 bias = 1 := by rw [← limit_eq]; omega
    rw [ht, dif_neg (by omega)]
    show [1 + (1 - 1) % (36 - 1)] ++ ggiD ((1 - 1) / (36 - 1)) bias (0 + 1) = _
    have e : ((1 : Int) - 1) / (36 - 1) = 0 := rfl
    rw [e, ggiD, dif_pos (by have := tF_ge (0 + 1) bias; omega)]
    rfl
theorem zero_num {bias : Int} : ggiD 0 bias 0 = [0] := by
  rw [ggiD, dif_pos (by have := tF_ge 0 bias; omega)]
end Mine

namespace Mine

/-! ## the plain law 05: a numeral, cut -/
def preD (bias : Int) : Int → List Int → Int → Int
  | _, [], M => M
  | j, a :: as, M => a + (36 - tF j bias) * preD bias (j + 1) as M
def okP (bias : Int) : Int → List Int → Prop
  | _, [] => True
  | j, a :: as => tF j bias ≤ a ∧ a ≤ 35 ∧ okP bias (j + 1) as
def worthD (bias : Int) : Int → Nat → Int
  | _, 0 => 1
  | j, c + 1 => (36 - tF j bias) * worthD bias (j + 1) c
def limD (bias : Int) : Int → Nat → List Int
  | _, 0 => []
  | j, c + 1 => tF j bias :: limD bias (j + 1) c

theorem worthD_ge (bias : Int) : ∀ (c : Nat) (j : Int), 1 ≤ worthD bias j c
  | 0, _ => Int.le_refl _
  | c + 1, j => by
    have h2 := tF_le j bias
    have := worthD_ge bias c (j + 1)
    have : 1 * 1 ≤ (36 - tF j bias) * worthD bias (j + 1) c := Int.mul_le_mul (by omega) this (by omega) (by omega)
    simpa [worthD] using this
theorem worthD_ge10 (bias : Int) {c : Nat} (h : 1 ≤ c) (j : Int) : 10 ≤ worthD bias j c := by
  cases c with
  | zero => omega
  | succ c =>
    have h2 := tF_le j bias
    have := worthD_ge bias c (j + 1)
    have : 10 * 1 ≤ (36 - tF j bias) * worthD bias (j + 1) c := Int.mul_le_mul (by omega) this (by omega) (by omega)
    simpa [worthD] using this
theorem preD_M (bias : Int) : ∀ (as : List Int) (j M : Int), preD bias j as M = preD bias j as 0 + worthD bias j as.length * M
  | [], j, M => by simp [preD, worthD]
  | a :: as, j, M => by
    simp only [preD, List.length_cons, worthD]
    rw [preD_M bias as (j + 1) M, Int.mul_add, Int.mul_assoc]
    omega
theorem preD_nonneg (bias : Int) : ∀ (as : List Int) (j M : Int), okP bias j as → 0 ≤ M → 0 ≤ preD bias j as M
  | [], j, M, _, h => h
  | a :: as, j, M, h, hM => by
    have h1 := tF_ge j bias
    have h2 := tF_le j bias
    have := Int.mul_nonneg (a := 36 - tF j bias) (by omega) (preD_nonneg bias as (j + 1) M h.2.2 hM)
    have := h.1
    simp only [preD]; omega
theorem ggiD_one {bias j a M : Int} (h1 : tF j bias ≤ a) (h2 : a ≤ 35) (hM : 0 ≤ M) : ggiD (a + (36 - tF j bias) * M) bias j = a :: ggiD M bias (j + 1) := by
  have t1 := tF_ge j bias
  have t2 := tF_le j bias
  have hp : 0 ≤ (36 - tF j bias) * M := Int.mul_nonneg (by omega) hM
  rw [ggiD, dif_neg (by omega)]
  have e1 : a + (36 - tF j bias) * M - tF j bias = (a - tF j bias) + (36 - tF j bias) * M := by omega
  rw [e1, Int.add_mul_emod_self_left, Int.add_mul_ediv_left _ _ (by omega), Int.emod_eq_of_lt (by omega) (by omega), Int.ediv_eq_zero_of_lt (by omega) (by omega)]
  have e2 : tF j bias + (a - tF j bias) = a := by omega
  have e3 : 0 + M = M := by omega
  rw [e2, e3]
/-- figures ahead, and what is behind -/
theorem ggiD_pre (bias : Int) : ∀ (as : List Int) (j M : Int), okP bias j as → 0 ≤ M → ggiD (preD bias j as M) bias j = as ++ ggiD M bias (j + as.length)
  | [], j, M, _, _ => by simp [preD]
  | a :: as, j, M, h, hM => by
    simp only [preD]
    rw [ggiD_one h.1 h.2.1 (preD_nonneg bias as (j + 1) M h.2.2 hM), ggiD_pre bias as (j + 1) M h.2.2 hM]
    simp only [List.cons_append, List.length_cons]
    have : j + 1 + (as.length : Int) = j + ((as.length + 1 : Nat) : Int) := by omega
    rw [this]
/-- a number whose numeral begins so -/
theorem ggiD_take (bias : Int) : ∀ (as : List Int) (j N : Int), 0 ≤ N → okP bias j as → (ggiD N bias j).take as.length = as → ∃ M, 0 ≤ M ∧ N = preD bias j as M
  | [], j, N, h, _, _ => ⟨N, h, rfl⟩
  | a :: as, j, N, h, ok, ht => by
    have t1 := tF_ge j bias
    have t2 := tF_le j bias
    rw [ggiD] at ht
    split at ht
    · rename_i hlt
      simp only [List.length_cons, List.take_succ_cons, List.take_nil, List.cons.injEq] at ht
      have := ok.1; omega
    · rename_i hn
      simp only [List.length_cons, List.take_succ_cons, List.cons.injEq] at ht
      obtain ⟨M, hM, e⟩ := ggiD_take bias as (j + 1) _ (Int.ediv_nonneg (by omega) (by omega)) ok.2.2 ht.2
      refine ⟨M, hM, ?_⟩
      simp only [preD]
      rw [← e, ← ht.1]
      have := Int.mul_ediv_add_emod (N - tF j bias) (36 - tF j bias)
      omega
/-- the figures ahead of the last are in their limits -/
theorem okP_take (bias : Int) : ∀ (c : Nat) (j N : Int), 0 ≤ N → c < (ggiD N bias j).length → okP bias j ((ggiD N bias j).take c) ∧ ((ggiD N bias j).take c).length = c
  | 0, j, N, _, _ => ⟨by simp [okP], by simp⟩
  | c + 1, j, N, h, hl => by
    have t1 := tF_ge j bias
    have t2 := tF_le j bias
    rw [ggiD] at hl ⊢
    split at hl
    · simp at hl
    · rename_i hn
      rw [dif_neg hn]
      simp only [List.length_cons] at hl
      obtain ⟨i1, i2⟩ := okP_take bias c (j + 1) ((N - tF j bias) / (36 - tF j bias)) (Int.ediv_nonneg (by omega) (by omega)) (by omega)
      have m0 := Int.emod_nonneg (N - tF j bias) (b := 36 - tF j bias) (by omega)
      have m1 := Int.emod_lt_of_pos (N - tF j bias) (b := 36 - tF j bias) (by omega)
      rw [List.take_succ_cons]
      exact ⟨⟨by omega, by omega, i1⟩, by simp [i2]⟩
theorem limD_length (bias : Int) : ∀ (c : Nat) (j : Int), (limD bias j c).length = c
  | 0, _ => rfl
  | c + 1, j => by simp [limD, limD_length bias c (j + 1)]
theorem limD_ok (bias : Int) : ∀ (c : Nat) (j : Int), okP bias j (limD bias j c)
  | 0, _ => trivial
  | c + 1, j => ⟨Int.le_refl _, by have := tF_le j bias; omega, limD_ok bias c (j + 1)⟩
/-- between the limits and nines -/
theorem preD_range (bias : Int) : ∀ (as : List Int) (j M : Int), okP bias j as → preD bias j (limD bias j as.length) M ≤ preD bias j as M ∧ preD bias j as M < preD bias j (limD bias j as.length) M + worthD bias j as.length
  | [], j, M, _ => by simp [preD, limD, worthD]; omega
  | a :: as, j, M, h => by
    have t1 := tF_ge j bias
    have t2 := tF_le j bias
    obtain ⟨i1, i2⟩ := preD_range bias as (j + 1) M h.2.2
    have h1 := h.1
    have h2 := h.2.1
    simp only [preD, limD, List.length_cons, worthD]
    have m1 : (36 - tF j bias) * preD bias (j + 1) (limD bias (j + 1) as.length) M ≤ (36 - tF j bias) * preD bias (j + 1) as M := Int.mul_le_mul_of_nonneg_left i1 (by omega)
    have m2 : (36 - tF j bias) * (preD bias (j + 1) as M + 1) ≤ (36 - tF j bias) * (preD bias (j + 1) (limD bias (j + 1) as.length) M + worthD bias (j + 1) as.length) := Int.mul_le_mul_of_nonneg_left (by omega) (by omega)
    rw [Int.mul_add, Int.mul_add, Int.mul_one] at m2
    omega
theorem preD_nines (bias : Int) : ∀ (c : Nat) (j M : Int), preD bias j (List.replicate c 35) M = preD bias j (limD bias j c) M + worthD bias j c - 1
  | 0, j, M => by simp [preD, limD, worthD]
  | c + 1, j, M => by
    simp only [List.replicate_succ, preD, limD, worthD]
    rw [preD_nines bias c (j + 1) M, Int.mul_sub, Int.mul_add, Int.mul_one]
    omega
theorem okP_nines (bias : Int) : ∀ (c : Nat) (j : Int), okP bias j (List.replicate c 35)
  | 0, _ => trivial
  | c + 1, j => ⟨by have := tF_le j bias; omega, Int.le_refl _, okP_nines bias c (j + 1)⟩
/-- any number between has some figures ahead -/
theorem preD_between (bias : Int) : ∀ (c : Nat) (j M d : Int), 0 ≤ M → 0 ≤ d → d < worthD bias j c → ∃ as, as.length = c ∧ okP bias j as ∧ preD bias j (limD bias j c) M + d = preD bias j as M
  | 0, j, M, d, _, h0, h1 => ⟨[], rfl, trivial, by simp only [worthD] at h1; simp only [preD, limD]; omega⟩
  | c + 1, j, M, d, hM, h0, h1 => by
    have t1 := tF_ge j bias
    have t2 := tF_le j bias
    simp only [worthD] at h1
    obtain ⟨as, e1, e2, e3⟩ := preD_between bias c (j + 1) M (d / (36 - tF j bias)) hM (Int.ediv_nonneg h0 (by omega)) (Int.ediv_lt_of_lt_mul (by omega) (by rw [Int.mul_comm]; exact h1))
    have m0 := Int.emod_nonneg d (b := 36 - tF j bias) (by omega)
    have m1 := Int.emod_lt_of_pos d (b := 36 - tF j bias) (by omega)
    refine ⟨(tF j bias + d % (36 - tF j bias)) :: as, by simp [e1], ⟨by omega, by omega, e2⟩, ?_⟩
    simp only [preD, limD]
    rw [← e3, Int.mul_add]
    have := Int.mul_ediv_add_emod d (36 - tF j bias)
    omega

theorem dB_inj' : ((List.range 36).all fun a => (List.range 36).all fun b => (dB (a : Int) != dB (b : Int)) || a == b) = true := by decide +kernel
theorem dB_inj {a b : Int} (ha : 0 ≤ a ∧ a < 36) (hb : 0 ≤ b ∧ b < 36) (h : dB a = dB b) : a = b := by
  have := List.all_eq_true.mp (List.all_eq_true.mp dB_inj' a.toNat (List.mem_range.mpr (by omega))) b.toNat (List.mem_range.mpr (by omega))
  rw [Int.toNat_of_nonneg ha.1, Int.toNat_of_nonneg hb.1, h] at this
  simp at this
  omega
theorem map_dB_inj : ∀ {l l' : List Int}, (∀ a ∈ l, 0 ≤ a ∧ a < 36) → (∀ a ∈ l', 0 ≤ a ∧ a < 36) → l.map dB = l'.map dB → l = l'
  | [], [], _, _, _ => rfl
  | [], _ :: _, _, _, h => by simp at h
  | _ :: _, [], _, _, h => by simp at h
  | a :: l, b :: l', h1, h2, h => by
    simp only [List.map_cons, List.cons.injEq] at h
    rw [dB_inj (h1 a List.mem_cons_self) (h2 b List.mem_cons_self) h.1, map_dB_inj (fun x hx => h1 x (List.mem_cons_of_mem _ hx)) (fun x hx => h2 x (List.mem_cons_of_mem _ hx)) h.2]

structure Cut (N bias : Int) (c : Nat) (as : List Int) (M : Int) : Prop where
  len : as.length = c
  ok : okP bias 0 as
  M0 : 0 ≤ M
  eq : N = preD bias 0 as M
  take : (ggiD N bias 0).take c = as
  drop : (ggiD N bias 0).drop c = ggiD M bias c
theorem Cut.of {N bias : Int} {c : Nat} (h0 : 0 ≤ N) (hc : c < (ggiD N bias 0).length) : ∃ as M, Cut N bias c as M := by
  obtain ⟨o1, o2⟩ := okP_take bias c 0 N h0 hc
  obtain ⟨M, hM, e⟩ := ggiD_take bias _ 0 N h0 o1 (by rw [o2])
  have hp := ggiD_pre bias _ 0 M o1 hM
  rw [← e, o2] at hp
  have e0 : (0 : Int) + (c : Int) = c := by omega
  rw [e0] at hp
  refine ⟨_, M, o2, o1, hM, e, rfl, ?_⟩
  have : ((ggiD N bias 0).take c ++ ggiD M bias c).drop c = ggiD M bias c := by rw [List.drop_append_of_le_length (by omega), List.drop_of_length_le (by omega)]; simp
  rw [← hp] at this
  exact this

section
variable {N bias M : Int} {c : Nat} {as : List Int} (C : Cut N bias c as M)
abbrev leastC (bias M : Int) (c : Nat) : Int := preD bias 0 (limD bias 0 c) M
theorem preB {M : Int} {as : List Int} (ok : okP bias 0 as) (hM : 0 ≤ M) : ggiB (preD bias 0 as M) bias = as.map dB ++ (ggiD M bias as.length).map dB := by
  unfold ggiB
  rw [ggiD_pre bias as 0 M ok hM, List.map_append]
  have e0 : (0 : Int) + (as.length : Int) = as.length := by omega
  rw [e0]
include C in
theorem Cut.least_ge : 1 ≤ leastC bias M c ∨ c = 0 := by
  cases c with
  | zero => exact .inr rfl
  | succ c =>
    left
    have h1 := tF_ge 0 bias
    have h2 := tF_le 0 bias
    have := Int.mul_nonneg (a := 36 - tF 0 bias) (by omega) (preD_nonneg bias (limD bias (0 + 1) c) (0 + 1) M (limD_ok bias c _) C.M0)
    simp only [leastC, limD, preD]; omega
include C in
theorem Cut.t1 : ggiB (leastC bias M c) bias = (limD bias 0 c).map dB ++ (ggiD M bias c).map dB := by
  have := preB (limD_ok bias c 0) C.M0
  rw [limD_length] at this; exact this
include C in
theorem Cut.t2 : ggiB (leastC bias M c + worthD bias 0 c - 1) bias = List.replicate c 57 ++ (ggiD M bias c).map dB := by
  rw [← preD_nines]
  have := preB (okP_nines bias c 0) C.M0
  rw [List.length_replicate] at this
  rw [this, List.map_replicate]; rfl
include C in
theorem Cut.t3 {d : Int} (h0 : 0 ≤ d) (h1 : d < worthD bias 0 c) : (ggiB (leastC bias M c + d) bias).drop c = (ggiD M bias c).map dB := by
  obtain ⟨as', e1, e2, e3⟩ := preD_between bias c 0 M d C.M0 h0 h1
  show (ggiB (preD bias 0 (limD bias 0 c) M + d) bias).drop c = _
  rw [e3, preB e2 C.M0, e1, List.drop_append_of_le_length (by simp [e1]), List.drop_of_length_le (by simp [e1])]; simp
theorem ggiD_ne (N bias j : Int) : ggiD N bias j ≠ [] := by rw [ggiD]; split <;> simp
theorem ggiD_inj {M M' : Int} (h : 0 ≤ M) (h' : 0 ≤ M') {j : Int} (e : ggiD M bias j = ggiD M' bias j) : M = M' := by
  rw [← (ggiD_okv _ M bias j (Nat.le_refl _) h).2, e, (ggiD_okv _ M' bias j (Nat.le_refl _) h').2]
include C in
theorem Cut.t4 {N' : Int} (h0 : 0 ≤ N') (h : (ggiB N' bias).drop c = (ggiD M bias c).map dB) : leastC bias M c ≤ N' ∧ N' < leastC bias M c + worthD bias 0 c := by
  have hl : c < (ggiD N' bias 0).length := by
    have := congrArg List.length h
    simp only [ggiB, List.length_drop, List.length_map] at this
    have h2 : 0 < (ggiD M bias c).length := List.length_pos_iff.mpr (ggiD_ne _ _ _)
    omega
  obtain ⟨as', M', C'⟩ := Cut.of h0 hl
  have e : (ggiB N' bias).drop c = (ggiD M' bias c).map dB := by unfold ggiB; rw [← List.map_drop, C'.drop]
  rw [e] at h
  have := map_dB_inj (ggiD_range _ M' bias c (Nat.le_refl _) C'.M0) (ggiD_range _ M bias c (Nat.le_refl _) C.M0) h
  have hM := ggiD_inj C'.M0 C.M0 this
  subst hM
  have := preD_range bias as' 0 M' C'.ok
  rw [C'.len, ← C'.eq] at this
  exact this
include C in
theorem Cut.t5 : ggiB (preD bias 0 as 0) bias = as.map dB ++ [97] := by
  rw [preB C.ok (Int.le_refl _), ggiD, dif_pos (by have := tF_ge (as.length : Int) bias; omega)]; rfl
include C in
theorem Cut.t6 : (ggiB (N + worthD bias 0 c) bias).take c = as.map dB := by
  have e : N + worthD bias 0 c = preD bias 0 as (M + 1) := by
    rw [C.eq, preD_M bias as 0 M, preD_M bias as 0 (M + 1), C.len, Int.mul_add, Int.mul_one]; omega
  have := C.M0
  rw [e, preB C.ok (by omega), List.take_append_of_le_length (by simp [C.len]), List.take_of_length_le (by simp [C.len])]
include C in
theorem Cut.t7 {d : Int} (h0 : 0 < d) (h1 : d < worthD bias 0 c) : (ggiB (N + d) bias).take c ≠ as.map dB := by
  intro h
  have hN : 0 ≤ N := by rw [C.eq]; exact preD_nonneg bias as 0 M C.ok C.M0
  have hr : ∀ a ∈ as, 0 ≤ a ∧ a < 36 := fun a ha => ggiD_dig hN a (by rw [← C.take] at ha; exact List.mem_of_mem_take ha)
  have e : (ggiD (N + d) bias 0).take c = as := by
    unfold ggiB at h
    rw [← List.map_take] at h
    exact map_dB_inj (fun a ha => ggiD_dig (by omega) a (List.mem_of_mem_take ha)) hr h
  obtain ⟨M', hM', e'⟩ := ggiD_take bias as 0 (N + d) (by omega) C.ok (by rw [C.len]; exact e)
  rw [C.eq, preD_M bias as 0 M, preD_M bias as 0 M', C.len] at e'
  have e2 : d = worthD bias 0 c * (M' - M) := by rw [Int.mul_sub]; omega
  have hw := worthD_ge bias c 0
  by_cases hm : M' - M ≤ 0
  · have : worthD bias 0 c * (M' - M) ≤ 0 := Int.mul_nonpos_of_nonneg_of_nonpos (by omega) hm
    omega
  · have : worthD bias 0 c * 1 ≤ worthD bias 0 c * (M' - M) := Int.mul_le_mul_of_nonneg_left (by omega) (by omega)
    omega
end

/-- what the loop over limits and figures reckons -/
def zipF : List Int → List Int → Int → Int → Int → Int × Int × Int
  | t :: ts, a :: as, l, f, w => zipF ts as (l - (a - t) * w) (f + a * w) (w * (36 - t))
  | _, _, l, f, w => (l, f, w)
theorem zipF_eq (bias : Int) : ∀ (as : List Int) (j l f w : Int), zipF (limD bias j as.length) as l f w = (l - w * (preD bias j as 0 - preD bias j (limD bias j as.length) 0), f + w * preD bias j as 0, w * worthD bias j as.length)
  | [], j, l, f, w => by simp [zipF, limD, preD, worthD]
  | a :: as, j, l, f, w => by
    simp only [List.length_cons, limD, zipF, preD, worthD]
    rw [zipF_eq bias as (j + 1)]
    generalize preD bias (j + 1) as 0 = P
    generalize preD bias (j + 1) (limD bias (j + 1) as.length) 0 = Q
    generalize worthD bias (j + 1) as.length = W
    generalize tF j bias = t
    refine Prod.ext ?_ (Prod.ext ?_ ?_)
    · show l - (a - t) * w - w * (36 - t) * (P - Q) = l - w * (a + (36 - t) * P - (t + (36 - t) * Q))
      have e : w * (a + (36 - t) * P - (t + (36 - t) * Q)) = (a - t) * w + w * (36 - t) * (P - Q) := by
        generalize 36 - t = X
        rw [Int.mul_sub w, Int.mul_add w, Int.mul_add w, Int.mul_sub (w * X), Int.sub_mul a t w, Int.mul_comm w a, Int.mul_comm w t, ← Int.mul_assoc w X P, ← Int.mul_assoc w X Q]; omega
      omega
    · show f + a * w + w * (36 - t) * P = f + w * (a + (36 - t) * P)
      rw [Int.mul_add, Int.mul_comm w a, Int.mul_assoc]; omega
    · show w * (36 - t) * W = w * ((36 - t) * W)
      rw [Int.mul_assoc]
theorem ggiD_long' (N bias : Int) (h : 26 ≤ N) : 2 ≤ (ggiD N bias 0).length := by
  have h2 := tF_le 0 bias
  rw [ggiD, dif_neg (by omega)]
  have : 0 < (ggiD ((N - tF 0 bias) / (36 - tF 0 bias)) bias (0 + 1)).length := List.length_pos_iff.mpr (ggiD_ne _ _ _)
  rw [List.length_cons]; omega
end Mine

namespace Mine
/-! ## generate_integers in numbers -/
def giD (base : Int) : Int → Int → List Int → List Int
  | _, _, [] => []
  | p, b, d :: ds => ggiD d b 0 ++ giD base (p + 1) (adaptF d (decide (p = 0)) (base + p + 1)) ds
theorem giD_length (base : Int) : ∀ (ds : List Int) (p b : Int), (∀ d ∈ ds, d < 10 ^ 20) → (giD base p b ds).length ≤ 21 * ds.length
  | [], _, _, _ => by simp [giD]
  | d :: ds, p, b, h => by
    have h1 := ggiD_length_le 20 d b 0 (h d List.mem_cons_self)
    have h2 := giD_length base ds (p + 1) (adaptF d (decide (p = 0)) (base + p + 1)) fun x hx => h x (List.mem_cons_of_mem _ hx)
    simp only [giD, List.length_append, List.length_cons]; omega
end Mine

namespace Mine
/-! ## thresholds of a bias that adapt gives -/
def levF (e : Int) : Nat := if h : 455 < e then levF (e / 35) + 1 else 0
termination_by e.toNat
decreasing_by omega
def leftF (e : Int) : Int := e / 35 ^ levF e
theorem levF_iff : ∀ (l : Nat) (e : Int), (456 * 35 ^ l ≤ e ↔ l < levF e)
  | 0, e => by
    rw [levF]
    split <;> simp <;> omega
  | l + 1, e => by
    rw [levF]
    have hp : (1 : Int) ≤ 35 ^ l := by
      have : (1 : Nat) ≤ 35 ^ l := Nat.pow_pos (by decide)
      exact_mod_cast this
    split
    · rename_i h
      have := levF_iff l (e / 35)
      rw [Nat.add_lt_add_iff_right, ← this, Int.le_ediv_iff_mul_le (by decide), Int.pow_succ]
      omega
    · rename_i h
      rw [Int.pow_succ]
      constructor
      · intro q; omega
      · intro q; omega
theorem levF_le {e : Int} {l : Nat} (h : e < 456 * 35 ^ l) : levF e ≤ l := by
  have := levF_iff l e
  omega
theorem leftF_eq (e : Int) : leftF e = if 455 < e then leftF (e / 35) else e := by
  unfold leftF
  rw [levF]
  split
  · rename_i h
    rw [Int.pow_succ, Int.mul_comm, Int.ediv_ediv_of_nonneg (by decide)]
  · simp
theorem leftF_range (e : Int) (h : 0 ≤ e) : 0 ≤ leftF e ∧ leftF e ≤ 455 := by
  have : ∀ (m : Nat) (e : Int), e.toNat ≤ m → 0 ≤ e → 0 ≤ leftF e ∧ leftF e ≤ 455 := by
    intro m
    induction m with
    | zero => intro e hm h0; rw [leftF_eq, if_neg (by omega)]; omega
    | succ m ih =>
      intro e hm h0
      rw [leftF_eq]
      split
      · exact ih (e / 35) (by omega) (by omega)
      · omega
  exact this _ e (Nat.le_refl _) h
theorem adLoop_lev (e : Int) (h : 0 ≤ e) : adLoop e 0 = 36 * (levF e : Int) + 36 * leftF e / (leftF e + 38) := by
  have : ∀ (m : Nat) (e : Int), e.toNat ≤ m → 0 ≤ e → adLoop e 0 = 36 * (levF e : Int) + 36 * leftF e / (leftF e + 38) := by
    intro m
    induction m with
    | zero =>
      intro e hm h0
      rw [adLoop_small (by omega), leftF_eq, if_neg (by omega), levF, dif_neg (by omega)]; simp
    | succ m ih =>
      intro e hm h0
      rw [leftF_eq, levF]
      split
      · rename_i h
        rw [adLoop_step h, ih (e / 35) (by omega) (by omega)]
        omega
      · rename_i h
        rw [adLoop_small (by omega)]; simp
  exact this _ e (Nat.le_refl _) h
def midF (left : Int) : Int := min 26 ((1368 + left + 37) / (left + 38))
def limF (level : Nat) (middle : Int) (p : Nat) : Int := if p < level then 1 else if p = level then middle else 26
theorem ceil_mid {x : Int} (h0 : 0 ≤ x) : (1368 + x + 37) / (x + 38) = 36 - 36 * x / (x + 38) := by
  have h1 := Int.mul_ediv_add_emod (36 * x) (x + 38)
  have h2 := Int.emod_nonneg (36 * x) (b := x + 38) (by omega)
  have h3 := Int.emod_lt_of_pos (36 * x) (b := x + 38) (by omega)
  generalize 36 * x / (x + 38) = q at *
  generalize 36 * x % (x + 38) = r at *
  have e : 1368 + x + 37 = (x + 37 - r) + (36 - q) * (x + 38) := by
    rw [Int.sub_mul, Int.mul_comm q]; omega
  rw [e, Int.add_mul_ediv_right _ _ (by omega), Int.ediv_eq_zero_of_lt (by omega) (by omega)]; omega
theorem tF_lim (e : Int) (h : 0 ≤ e) (p : Nat) : tF p (adLoop e 0) = limF (levF e) (midF (leftF e)) p := by
  rw [adLoop_lev e h]
  obtain ⟨l0, l1⟩ := leftF_range e h
  unfold midF
  rw [ceil_mid l0]
  have hq1 := small_le l0 l1
  have hq0 : 0 ≤ 36 * leftF e / (leftF e + 38) := Int.ediv_nonneg (by omega) (by omega)
  generalize 36 * leftF e / (leftF e + 38) = q at *
  unfold limF tF
  split <;> split <;> (try split) <;> (try split) <;> omega
theorem tF_72 (p : Nat) : tF p 72 = limF 2 26 p := by
  unfold limF tF
  split <;> split <;> (try split) <;> (try split) <;> omega
theorem midF_range {left : Int} (h : 0 ≤ left) (h1 : left ≤ 455) : 1 ≤ midF left ∧ midF left ≤ 26 := by
  unfold midF
  rw [ceil_mid h]
  have hq1 := small_le h h1
  omega
/-- bias, level and middle say the same -/
def Same (bias : Int) (level : Nat) (middle : Int) : Prop := ∀ p : Nat, tF p bias = limF level middle p

/-! ## capitals -/
def upB (c : UInt8) : UInt8 := if 97 ≤ c ∧ c ≤ 122 then c - 32 else c
def dU (d : Int) : UInt8 := upB (dB d)
theorem dU_val : ∀ d : Nat, d < 36 → ((dU (d : Int)).toNat : Int) = if (d : Int) < 26 then (d : Int) + 65 else (d : Int) + 22 := by decide +kernel
theorem map_upB (ds : List Int) : (ds.map dB).map upB = ds.map dU := by rw [List.map_map]; rfl
/-! ## law 07 in numbers -/
def cntF (m : Int) : Nat := 1 + ((if m < 0 then -m else m) / 2 % 5).toNat
theorem cntF_range (m : Int) : 1 ≤ cntF m ∧ cntF m ≤ 5 := by unfold cntF; omega
def reachF (b : Int) (c : Nat) : Int := preD b 0 (limD b 0 c) 0
def dltF (b m : Int) : Int := if m % 2 = 0 then reachF b (cntF m) - 1 else reachF b (cntF m)
def figF (b m : Int) : List Int := if m % 2 = 0 then List.replicate (cntF m - 1) 35 ++ [tF ((cntF m : Int) - 1) b - 1] else limD b 0 (cntF m) ++ [0]
theorem limD_snoc (b : Int) : ∀ (c : Nat) (j : Int), limD b j (c + 1) = limD b j c ++ [tF (j + c) b]
  | 0, j => by simp [limD]
  | c + 1, j => by
    rw [limD, limD_snoc b c (j + 1), limD]
    simp only [List.cons_append]
    have : j + 1 + (c : Int) = j + ((c + 1 : Nat) : Int) := by omega
    rw [this]
theorem preD_snoc (b : Int) : ∀ (as : List Int) (j x M : Int), preD b j (as ++ [x]) M = preD b j as (x + (36 - tF (j + as.length) b) * M)
  | [], j, x, M => by simp [preD]
  | a :: as, j, x, M => by
    simp only [List.cons_append, preD, List.length_cons]
    rw [preD_snoc b as (j + 1) x M]
    have : j + 1 + (as.length : Int) = j + ((as.length + 1 : Nat) : Int) := by omega
    rw [this]
theorem ggiD_zero (b j : Int) : ggiD 0 b j = [0] := by rw [ggiD, dif_pos (by have := tF_ge j b; omega)]
theorem ggiD_dlt (b m : Int) : ggiD (dltF b m) b 0 = figF b m := by
  obtain ⟨c1, c5⟩ := cntF_range m
  unfold dltF figF reachF
  split
  · obtain ⟨c, hc⟩ : ∃ c, cntF m = c + 1 := ⟨cntF m - 1, by omega⟩
    rw [hc, limD_snoc, preD_snoc]
    simp only [Int.mul_zero, Int.add_zero, Nat.add_sub_cancel]
    rw [preD_M, limD_length]
    have hn := preD_nines b c 0 (tF (0 + (c : Int)) b - 1)
    have t1 := tF_ge (0 + (c : Int)) b
    have e : preD b 0 (limD b 0 c) 0 + worthD b 0 c * tF (0 + (c : Int)) b - 1 = preD b 0 (List.replicate c 35) (tF (0 + (c : Int)) b - 1) := by
      rw [hn, preD_M b (limD b 0 c) 0 (tF (0 + (c : Int)) b - 1), limD_length, Int.mul_sub, Int.mul_one]; omega
    rw [e, ggiD_pre b _ 0 _ (okP_nines b c 0) (by omega)]
    congr 1
    rw [List.length_replicate, ggiD, dif_pos (by omega)]
    have : (0 : Int) + (c : Int) = ((c + 1 : Nat) : Int) - 1 := by omega
    rw [this]
  · rw [ggiD_pre b _ 0 0 (limD_ok b _ 0) (Int.le_refl _), ggiD_zero]
theorem worthD_le' (bias : Int) : ∀ (c : Nat) (j : Int), worthD bias j c ≤ 35 ^ c
  | 0, _ => by simp [worthD]
  | c + 1, j => by
    have h1 := tF_ge j bias
    have h2 := tF_le j bias
    have i := worthD_le' bias c (j + 1)
    have := worthD_ge bias c (j + 1)
    simp only [worthD]
    rw [Int.pow_succ, Int.mul_comm]
    exact Int.mul_le_mul i (by omega) (by omega) (Int.pow_nonneg (by decide))
theorem reachF_range (b : Int) {c : Nat} (h : 1 ≤ c) (h5 : c ≤ 5) : 1 ≤ reachF b c ∧ reachF b c < 10 ^ 10 := by
  have h0 : ∀ (c : Nat) (j : Int), 0 ≤ preD b j (limD b j c) 0 ∧ preD b j (limD b j c) 0 ≤ 26 * (35 ^ c - 1) := by
    intro c
    induction c with
    | zero => intro j; simp [limD, preD]
    | succ c ih =>
      intro j
      obtain ⟨i1, i2⟩ := ih (j + 1)
      have t1 := tF_ge j b
      have t2 := tF_le j b
      simp only [limD, preD]
      have m1 : 0 ≤ (36 - tF j b) * preD b (j + 1) (limD b (j + 1) c) 0 := Int.mul_nonneg (by omega) i1
      have m2 : (36 - tF j b) * preD b (j + 1) (limD b (j + 1) c) 0 ≤ 35 * (26 * (35 ^ c - 1)) := Int.mul_le_mul (by omega) i2 i1 (by decide)
      rw [Int.pow_succ]
      omega
  unfold reachF
  obtain ⟨d, hd⟩ : ∃ d, c = d + 1 := ⟨c - 1, by omega⟩
  have t1 := tF_ge 0 b
  have t2 := tF_le 0 b
  refine ⟨?_, ?_⟩
  · rw [hd]; simp only [limD, preD]
    have := Int.mul_nonneg (a := 36 - tF 0 b) (by omega) (h0 d (0 + 1)).1
    omega
  · have := (h0 c 0).2
    have h2 : (35 : Int) ^ c ≤ 35 ^ 5 := by
      have : 35 ^ c ≤ 35 ^ 5 := Nat.pow_le_pow_right (by decide) h5
      exact_mod_cast this
    have h3 : (35 : Int) ^ 5 = 52521875 := by decide
    omega
theorem dltF_range (b m : Int) : 0 ≤ dltF b m ∧ dltF b m < 10 ^ 10 := by
  obtain ⟨c1, c5⟩ := cntF_range m
  have := reachF_range b c1 c5
  unfold dltF; split <;> omega
def dlF (signs : Int) : Int → Int → List Int → List Int
  | _, _, [] => []
  | p, b, m :: ms => dltF b m :: dlF signs (p + 1) (adaptF (dltF b m) (decide (p = 0)) (signs + p + 1)) ms
def fgF (signs : Int) : Int → Int → List Int → List Int
  | _, _, [] => []
  | p, b, m :: ms => figF b m ++ fgF signs (p + 1) (adaptF (dltF b m) (decide (p = 0)) (signs + p + 1)) ms
theorem giD_dl (signs : Int) : ∀ (ms : List Int) (p b : Int), giD signs p b (dlF signs p b ms) = fgF signs p b ms
  | [], _, _ => rfl
  | m :: ms, p, b => by
    simp only [dlF, giD, fgF]
    rw [ggiD_dlt, giD_dl signs ms]
theorem dlF_range (signs : Int) : ∀ (ms : List Int) (p b : Int), ∀ d ∈ dlF signs p b ms, 0 ≤ d ∧ d < 10 ^ 10
  | [], _, _, d, h => nomatch h
  | m :: ms, p, b, d, h => by
    simp only [dlF, List.mem_cons] at h
    rcases h with rfl | h
    · exact dltF_range b m
    · exact dlF_range signs ms _ _ d h
theorem dlF_length (signs : Int) : ∀ (ms : List Int) (p b : Int), (dlF signs p b ms).length = ms.length
  | [], _, _ => rfl
  | m :: ms, p, b => by simp only [dlF, List.length_cons, dlF_length signs ms]
theorem figF_length (b m : Int) : (figF b m).length ≤ 6 := by
  obtain ⟨c1, c5⟩ := cntF_range m
  unfold figF; split <;> simp [limD_length] <;> omega
theorem fgF_length (signs : Int) : ∀ (ms : List Int) (p b : Int), (fgF signs p b ms).length ≤ 6 * ms.length
  | [], _, _ => by simp [fgF]
  | m :: ms, p, b => by
    simp only [fgF, List.length_append, List.length_cons]
    have := figF_length b m
    have := fgF_length signs ms (p + 1) (adaptF (dltF b m) (decide (p = 0)) (signs + p + 1))
    omega
theorem limD_dig (b : Int) (c : Nat) (j : Int) : ∀ d ∈ limD b j c, 1 ≤ d ∧ d ≤ 26 := by
  induction c generalizing j with
  | zero => intro d h; exact nomatch h
  | succ c ih =>
    intro d h
    simp only [limD, List.mem_cons] at h
    rcases h with rfl | h
    · exact ⟨tF_ge _ _, tF_le _ _⟩
    · exact ih _ d h
theorem figF_dig (b m : Int) : ∀ d ∈ figF b m, 0 ≤ d ∧ d < 36 := by
  have t1 := tF_ge ((cntF m : Int) - 1) b
  have t2 := tF_le ((cntF m : Int) - 1) b
  unfold figF
  intro d h
  split at h
  · rcases List.mem_append.mp h with h | h
    · have := List.eq_of_mem_replicate h; omega
    · rw [List.mem_singleton] at h; omega
  · rcases List.mem_append.mp h with h | h
    · have := limD_dig b _ _ d h; omega
    · rw [List.mem_singleton] at h; omega
theorem fgF_dig (signs : Int) : ∀ (ms : List Int) (p b : Int), ∀ d ∈ fgF signs p b ms, 0 ≤ d ∧ d < 36
  | [], _, _, d, h => nomatch h
  | m :: ms, p, b, d, h => by
    simp only [fgF, List.mem_append] at h
    rcases h with h | h
    · exact figF_dig b m d h
    · exact fgF_dig signs ms _ _ d h
/-- the law's loop over the limits -/
theorem reach_loop (b : Int) : ∀ (c : Nat) (j r w : Int), (limD b j c).foldl (fun (p : Int × Int) l => (p.1 + l * p.2, p.2 * (36 - l))) (r, w) = (r + w * preD b j (limD b j c) 0, w * worthD b j c)
  | 0, j, r, w => by simp [limD, preD, worthD]
  | c + 1, j, r, w => by
    rw [limD, List.foldl_cons, reach_loop b c (j + 1)]
    simp only [preD, worthD, Prod.mk.injEq]
    rw [Int.mul_add, ← Int.mul_assoc, Int.mul_comm w (tF j b), Int.mul_assoc w]
    constructor
    · rw [← Int.mul_assoc]; omega
    · rw [← Int.mul_assoc]
end Mine

namespace Mine
/-! ## small helps for the walks -/
theorem Paired.maps {α β γ : Type} {R : β → γ → Prop} {f : α → β} {g : α → γ} : ∀ (l : List α), (∀ a ∈ l, R (f a) (g a)) → Paired R (l.map f) (l.map g)
  | [], _ => .nil
  | a :: l, h => .cons (h a List.mem_cons_self) (Paired.maps l fun b hb => h b (List.mem_cons_of_mem _ hb))
theorem filterMap_some {α β : Type} (f : α → β) (l : List α) : (l.map fun a => some (f a)).filterMap id = l.map f := by
  induction l with
  | nil => rfl
  | cons a l ih => simp
theorem cut_to {α : Type} (l : List α) (c : Nat) : cutL l none (some (c : Int)) = l.take c := by
  unfold cutL
  simp only [Option.elim, clipAt_nat, List.drop_zero, Nat.sub_zero]
  by_cases h : c ≤ l.length
  · rw [Nat.min_eq_left h]
  · rw [Nat.min_eq_right (by omega), List.take_of_length_le (Nat.le_refl _), List.take_of_length_le (by omega)]
theorem cut_from {α : Type} (l : List α) (c : Nat) : cutL l (some (c : Int)) none = l.drop c := by
  unfold cutL
  simp only [Option.elim, clipAt_nat]
  by_cases h : c ≤ l.length
  · rw [Nat.min_eq_left h, List.take_of_length_le (by simp)]
  · rw [Nat.min_eq_right (by omega), List.drop_of_length_le (Nat.le_refl _), List.drop_of_length_le (by omega)]; simp
theorem rngItems_map : ∀ (n : Nat) (a : Int), rngItems a 1 n = (List.range n).map fun (p : Nat) => PV.int (a + (p : Int))
  | 0, a => rfl
  | n + 1, a => by
    rw [rngItems, rngItems_map n (a + 1), List.range_succ_eq_map, List.map_cons, List.map_map]
    congr 1
    · congr 1; omega
    · refine List.map_congr_left fun p _ => ?_
      show PV.int (a + 1 + (p : Int)) = PV.int (a + ((p + 1 : Nat) : Int))
      congr 1; omega
theorem limD_map (bias : Int) : ∀ (n : Nat) (a : Int), limD bias a n = (List.range n).map fun (p : Nat) => tF (a + (p : Int)) bias
  | 0, a => rfl
  | n + 1, a => by
    rw [limD, limD_map bias n (a + 1), List.range_succ_eq_map, List.map_cons, List.map_map]
    congr 1
    · congr 1; omega
    · refine List.map_congr_left fun p _ => ?_
      show tF (a + 1 + (p : Int)) bias = tF (a + ((p + 1 : Nat) : Int)) bias
      congr 1; omega
theorem lookup_noTup {σ : Loc} (h : (σ.all fun p => noTup p.2) = true) : ∀ x v, σ.lookup x = some v → noTup v = true := by
  intro x v hx
  exact List.all_eq_true.mp h (x, v) (PySem.mem_of_lookup hx)
theorem dB_back : ∀ d : Nat, d < 36 → (if ((dB (d : Int)).toNat : Int) > 96 then ((dB (d : Int)).toNat : Int) - 97 else ((dB (d : Int)).toNat : Int) - 22) = (d : Int) := by decide +kernel
theorem dB_fore : ∀ d : Nat, d < 36 → (if (d : Int) < 26 then (d : Int) + 97 else (d : Int) + 22).toNat.toUInt8 = dB (d : Int) := by decide +kernel
theorem signs_eq {ds : List Int} (hd : ∀ d ∈ ds, 0 ≤ d ∧ d < 36) : ds.map dB = (ds.map fun d => if d < 26 then d + 97 else d + 22).map fun n => n.toNat.toUInt8 := by
  rw [List.map_map]
  refine List.map_congr_left fun d hm => ?_
  obtain ⟨h0, h1⟩ := hd d hm
  have hb := dB_fore d.toNat (by omega)
  rw [Int.toNat_of_nonneg h0] at hb
  exact hb.symm
theorem toUpper_eq : Builtin.Bytes.toUpper = upB := by
  funext c
  unfold Builtin.Bytes.toUpper upB Builtin.Bytes.isLower
  by_cases h : 97 ≤ c ∧ c ≤ 122
  · rw [if_pos h, if_pos (by simpa using h)]
  · rw [if_neg h, if_neg (by simpa using h)]
end Mine

set_option maxRecDepth 100000
namespace Mine

section
variable {Γ : Cx} {k : Nat} {sc : Scope} {σ : Loc} {μ : Own} {pos : Pos}

/-! ## text -/
theorem str_len (l : List Nat) : (Str.mk l.toArray).length = l.length := by show l.toArray.size = _; simp
theorem str_app (a b : List Nat) : (Str.mk a.toArray) ++ (Str.mk b.toArray) = Str.mk (a ++ b).toArray := by
  show Str.mk (a.toArray ++ b.toArray) = _
  simp
theorem Op2.addS {a b : List Nat} (h : a.length + b.length < 2 ^ 20) : Op2 Γ (binaryOp .Add) (.str a) (.str b) (.str (a ++ b)) := by
  intro A n D s x y Q E _ _ _ _ hx hy _ hQ
  obtain ⟨t, rfl⟩ := V_str.mp hx; obtain ⟨u, rfl⟩ := V_str.mp hy
  refine PyProof.Rows.add_str (fun t' tk => hQ _ _ (Gr.toks tk) ?_) (by rw [str_len, str_len, sizeLine_eq]; omega)
  rw [str_app]; exact V.str _ _
theorem Op2.iaddS {a b : List Nat} (h : a.length + b.length < 2 ^ 20) : Op2 Γ (inplaceOp .Add) (.str a) (.str b) (.str (a ++ b)) := by
  intro A n D s x y Q E _ _ _ _ hx hy _ hQ
  obtain ⟨t, rfl⟩ := V_str.mp hx; obtain ⟨u, rfl⟩ := V_str.mp hy
  refine PyProof.Rows.iadd_str (fun t' tk => hQ _ _ (Gr.toks tk) ?_) (by rw [str_len, str_len, sizeLine_eq]; omega)
  rw [str_app]; exact V.str _ _
theorem Op2.eqS {a b : List Nat} : Op2 Γ (compareOp .Eq) (.str a) (.str b) (.bool (a == b)) := by
  intro A n D s x y Q E _ _ _ _ hx hy _ hQ
  obtain ⟨t, rfl⟩ := V_str.mp hx; obtain ⟨u, rfl⟩ := V_str.mp hy
  exact P.eq_str (hQ _ _ (Gr.refl s) (by simpa using V.bool _))
theorem Op2.neS {a b : List Nat} : Op2 Γ (compareOp .NotEq) (.str a) (.str b) (.bool (a != b)) := by
  intro A n D s x y Q E _ _ _ _ hx hy _ hQ
  obtain ⟨t, rfl⟩ := V_str.mp hx; obtain ⟨u, rfl⟩ := V_str.mp hy
  exact P.ne_str (hQ _ _ (Gr.refl s) (by simpa using V.bool _))
def isNoneP : PV → Bool
  | .none => true
  | _ => false
def noObj : PV → Bool
  | .obj _ => false
  | _ => true
theorem V.isNone {D : Addr → Prop} {h : Heap} {p : PV} {v : Value} (ho : noObj p = true) (e : V D h p v) : (v == .none) = isNoneP p := by
  cases p with
  | none => rw [V_none] at e; subst e; rfl
  | bool b => rw [V_bool] at e; subst e; rfl
  | int i => obtain ⟨t, rfl⟩ := V_int.mp e; rfl
  | str l => obtain ⟨t, rfl⟩ := V_str.mp e; rfl
  | bytes l => obtain ⟨t, rfl⟩ := V_bytes.mp e; rfl
  | obj w => cases ho
  | tup xs => obtain ⟨a, items, rfl, _⟩ := V_tup.mp e; rfl
  | lst xs => obtain ⟨a, items, rfl, _⟩ := V_lst.mp e; rfl
  | ref a => rw [V_ref] at e; subst e; rfl
  | rng a b c => obtain ⟨r, t, u, z, rfl, _⟩ := V_rng.mp e; rfl
theorem Op2.is0 {p : PV} (ho : noObj p = true) : Op2 Γ (compareOp .Is) p .none (.bool (isNoneP p)) := by
  intro A n D s x y Q E _ _ _ _ hx hy _ hQ
  rw [V_none] at hy; subst hy
  refine is_none_gen ?_
  rw [hx.isNone ho]
  exact hQ _ _ (Gr.refl s) (V.bool _)
theorem Op2.isNot0 {p : PV} (ho : noObj p = true) : Op2 Γ (compareOp .IsNot) p .none (.bool (!isNoneP p)) := by
  intro A n D s x y Q E _ _ _ _ hx hy _ hQ
  rw [V_none] at hy; subst hy
  refine isnot_none_gen ?_
  rw [hx.isNone ho]
  exact hQ _ _ (Gr.refl s) (V.bool _)
theorem CallOk.len_str {l : List Nat} (h : l.length < 2 ^ 62) : CallOk Γ k (.builtin "len") [.str l] (.int l.length) := by
  intro A n D s vals Q E _ _ _ _ hvs _ hQ
  rw [Vs_cons] at hvs
  obtain ⟨v, r, rfl, hv, hr⟩ := hvs
  rw [Vs_nil] at hr; subst hr
  obtain ⟨t, rfl⟩ := V_str.mp hv
  refine toR (P.len_str (by rw [str_len]; omega) (hQ _ _ (Gr.toks _) ?_))
  rw [str_len]; exact V.int _ _
theorem CallOk.chr {i : Int} (h0 : 0 ≤ i) (h1 : i ≤ 1114111) : CallOk Γ k (.builtin "chr") [.int i] (.str [i.toNat]) := by
  intro A n D s vals Q E _ _ _ _ hvs _ hQ
  rw [Vs_cons] at hvs
  obtain ⟨v, r, rfl, hv, hr⟩ := hvs
  rw [Vs_nil] at hr; subst hr
  obtain ⟨t, rfl⟩ := V_int.mp hv
  exact toR (chr_of_range h0 h1 (hQ _ _ (Gr.toks _) (V.str [i.toNat] _)))
theorem CallOk.ord {c : Nat} : CallOk Γ k (.builtin "ord") [.str [c]] (.int c) := by
  intro A n D s vals Q E _ _ _ _ hvs _ hQ
  rw [Vs_cons] at hvs
  obtain ⟨v, r, rfl, hv, hr⟩ := hvs
  rw [Vs_nil] at hr; subst hr
  obtain ⟨t, rfl⟩ := V_str.mp hv
  exact toR (P.ord_of_char (hQ _ _ (Gr.toks _) (V.int _ _)))
theorem CallOk.divmod {a b : Int} (hb : 0 < b) (hs : b < 2 ^ 30) : CallOk Γ k (.builtin "divmod") [.int a, .int b] (.tup [.int (a / b), .int (a % b)]) := by
  intro A n D s vals Q E _ _ _ _ hvs _ hQ
  rw [Vs_cons] at hvs
  obtain ⟨v, r, rfl, hv, hr⟩ := hvs
  rw [Vs_cons] at hr
  obtain ⟨v2, r2, rfl, hv2, hr2⟩ := hr
  rw [Vs_nil] at hr2; subst hr2
  obtain ⟨t, rfl⟩ := V_int.mp hv
  obtain ⟨u, rfl⟩ := V_int.mp hv2
  refine toR (divmod_int (by omega) (hQ _ _ (Gr.heap _ (Kp.push _ _)) ?_) (.inl (PyProof.noPylong_of_log2 ?_)))
  · rw [Int.fdiv_eq_ediv_of_nonneg _ (by omega), Int.fmod_eq_emod_of_nonneg _ (by omega)]
    exact V.newTup (xs := [.int (a / b), .int (a % b)]) (vs := [.int (a / b) s.toks, .int (a % b) (s.toks + 1)]) (Vs_cons.mpr ⟨_, _, rfl, V.int _ _, Vs_cons.mpr ⟨_, _, rfl, V.int _ _, Vs_nil.mpr rfl⟩⟩)
  · have : b.natAbs < 2 ^ 64 := by omega
    have h1 : b.natAbs.log2 < 64 := (Nat.log2_lt (by omega)).mpr this
    omega

/-! ### slices and items -/
theorem getItem_slice {prog : Program} {w : World} {A : Around} {E : Value → Shared → Prop} {s : Shared} {x : Str} {t : Tok} {sl : Addr} {vl vu : Value} {lo hi : Option Int} {Q : Value → Shared → Prop}
    (hs : s.heap.IsSliceOf sl vl vu .none) (pl : IsPart vl lo) (pu : IsPart vu hi) (hz : x.length ≤ sizeLine) (hQ : ∀ t' k, Q (.str (Txt.slice x lo hi) t') { s with toks := k }) : wpAny (model prog w) A (getItem (.str x t) (.ref sl)) Q E s := by
  cases pl with
  | none =>
    cases pu with
    | none => exact wpAny_getItem_str_slice (l := none) (u := none) (st := none) hs rfl (post_val_or_str ⟨Nat.le_trans (Txt.slice_le x _ _) hz, fun t' k => hQ t' k⟩)
    | int j uj => exact wpAny_getItem_str_slice (l := none) (u := some (j, uj)) (st := none) hs rfl (post_val_or_str ⟨Nat.le_trans (Txt.slice_le x _ _) hz, fun t' k => hQ t' k⟩)
  | int i ui =>
    cases pu with
    | none => exact wpAny_getItem_str_slice (l := some (i, ui)) (u := none) (st := none) hs rfl (post_val_or_str ⟨Nat.le_trans (Txt.slice_le x _ _) hz, fun t' k => hQ t' k⟩)
    | int j uj => exact wpAny_getItem_str_slice (l := some (i, ui)) (u := some (j, uj)) (st := none) hs rfl (post_val_or_str ⟨Nat.le_trans (Txt.slice_le x _ _) hz, fun t' k => hQ t' k⟩)
theorem SliceOk.strTo {l : List Nat} {c : Nat} (hc : c ≤ l.length) (hz : l.length < 2 ^ 20) : SliceOk Γ (.str l) none (some (c : Int)) none (.str (l.take c)) := by
  intro A n D s x sl vl vu vs Q E _ _ hv hD hs pl pu ps hQ
  obtain ⟨t, rfl⟩ := V_str.mp hv
  cases ps
  refine getItem_slice hs pl pu (by rw [str_len, sizeLine_eq]; omega) fun t' k => hQ _ _ (Gr.toks k) ?_
  have e : Txt.slice ⟨l.toArray⟩ none (some (c : Int)) = ⟨(l.take c).toArray⟩ := by
    show StrLaws.sliceText ⟨l.toArray⟩ none (some (c : Int)) = _
    rw [StrLaws.sliceText_to ⟨by omega, by simp; omega⟩]
    simp
  rw [e]; exact V.str _ _
theorem SliceOk.strFrom {l : List Nat} {c : Nat} (hc : c ≤ l.length) (hz : l.length < 2 ^ 20) : SliceOk Γ (.str l) (some (c : Int)) none none (.str (l.drop c)) := by
  intro A n D s x sl vl vu vs Q E _ _ hv hD hs pl pu ps hQ
  obtain ⟨t, rfl⟩ := V_str.mp hv
  cases ps
  refine getItem_slice hs pl pu (by rw [str_len, sizeLine_eq]; omega) fun t' k => hQ _ _ (Gr.toks k) ?_
  have e : Txt.slice ⟨l.toArray⟩ (some (c : Int)) none = ⟨(l.drop c).toArray⟩ := by
    show StrLaws.sliceText ⟨l.toArray⟩ (some (c : Int)) none = _
    rw [StrLaws.sliceText_from ⟨by omega, by simp; omega⟩]
    simp only [Int.toNat_natCast]
    rw [List.take_of_length_le (by simp)]
  rw [e]; exact V.str _ _
theorem Op2.itemS {l : List Nat} {i c : Nat} (h : l[i]? = some c) (hz : l.length < 2 ^ 20) : Op2 Γ getItem (.str l) (.int (i : Int)) (.str [c]) := by
  intro A n D s x y Q E _ _ _ _ hv hy _ hQ
  obtain ⟨t, rfl⟩ := V_str.mp hv
  obtain ⟨u, rfl⟩ := V_int.mp hy
  have hlt : i < l.length := (List.getElem?_eq_some_iff.mp h).1
  refine P.getItem_str (c := c) (by simp; omega) ?_ (hQ _ _ (Gr.toks _) (V.str [c] _))
  rw [str_len]
  have e : seqIndex? (i : Int) l.length = some i := by
    unfold seqIndex?
    simp
    omega
  rw [e]
  simpa using h

/-! ### join -/
theorem strsAre {D : Addr → Prop} {h : Heap} : ∀ {ls : List (List Nat)} {vs : List Value}, Vs D h (ls.map .str) vs → StrsAre vs (ls.map fun l => Str.mk l.toArray)
  | [], vs, e => by simp only [List.map_nil, Vs_nil] at e; subst e; exact .nil
  | l :: ls, vs, e => by
    simp only [List.map_cons, Vs_cons] at e
    obtain ⟨v, r, rfl, e2, e3⟩ := e
    obtain ⟨t, rfl⟩ := V_str.mp e2
    exact .cons _ _ (strsAre e3)
theorem join_flat : ∀ (ls : List (List Nat)), Str.join ⟨#[]⟩ (ls.map fun l => Str.mk l.toArray) = Str.mk ls.flatten.toArray
  | [] => rfl
  | [l] => by show Str.mk l.toArray = _; simp
  | l :: m :: ls => by
    have ih := join_flat (m :: ls)
    show Str.mk l.toArray ++ ⟨#[]⟩ ++ Str.join ⟨#[]⟩ ((m :: ls).map fun l => Str.mk l.toArray) = _
    rw [ih]
    show Str.mk ((l.toArray ++ #[]) ++ (m :: ls).flatten.toArray) = _
    simp
theorem CallOk.join {ls : List (List Nat)} (hw : (ls.map (·.length)).sum + ls.length < 2 ^ 20) : CallOk Γ k (.builtin "str.join") [.str [], .lst (ls.map .str)] (.str ls.flatten) := by
  intro A n D s vals Q E _ hA _ _ hvs _ hQ
  rw [Vs_cons] at hvs
  obtain ⟨v, r, rfl, hv, hr⟩ := hvs
  rw [Vs_cons] at hr
  obtain ⟨v2, r2, rfl, hv2, hr2⟩ := hr
  rw [Vs_nil] at hr2; subst hr2
  obtain ⟨t, rfl⟩ := V_str.mp hv
  obtain ⟨a, items, rfl, _, hl, he⟩ := V_lst.mp hv2
  refine toR (join_listW hl (strsAre he) (by decide) ?_ fun t' k => hQ _ _ (Gr.toks k) ?_)
  · rw [List.map_map, List.length_map]
    have : ((fun x : Str => x.length) ∘ fun l : List Nat => Str.mk l.toArray) = (·.length) := by funext l; exact str_len l
    rw [this]; omega
  · have e : Txt.join ⟨([] : List Nat).toArray⟩ (ls.map fun l => Str.mk l.toArray) = Str.mk ls.flatten.toArray := (StrLaws.glued_eq_join _ _).trans (join_flat ls)
    rw [e]; exact V.str _ _
theorem flatten_ones {α β : Type} (f : α → β) : ∀ l : List α, (l.map fun a => [f a]).flatten = l.map f
  | [] => rfl
  | a :: l => by rw [List.map_cons, List.flatten_cons, flatten_ones f l]; rfl

/-! ### max, rfind -/
def maxN : List Nat → Nat
  | [] => 0
  | a :: l => l.foldl max a
theorem iter_str {prog : Program} {w : World} {A : Around} {E : Value → Shared → Prop} {s : Shared} {x : Str} {t : Tok} (hh : A.handled = none) {Q : Value → Shared → Prop}
    (h : ∀ St, Walks prog w A s.heap.objs.size [s.heap.objs.size] [s.heap.objs.size] x.cps.size (SignAt x) St → ∀ o, St 0 (s.heap.push o) → Q (.ref s.heap.objs.size) { s with heap := s.heap.push o }) :
    wpAny (model prog w) A (pyIter (.str x t)) Q E s := by
  refine wpAny_pyIter_strU ?_
  unfold strIterType
  split
  · exact h _ (Walks.strAscii hh _ x t) _ ⟨_, Heap.get?_push_size _ rfl, rfl, rfl⟩
  · exact h _ (Walks.strWide hh _ x t) _ ⟨_, Heap.get?_push_size _ rfl, rfl, rfl⟩
theorem cmp_signs {prog : Program} {w : World} {A : Around} (x : Str) : CmpOf prog w A .Gt (SignAt x) (fun i j => decide ((x.cps.getD i 0) > (x.cps.getD j 0))) := fun i j vi vj s Q E hi hj h => by
  obtain ⟨c, u, hc, rfl⟩ := hi
  obtain ⟨d, z, hd, rfl⟩ := hj
  refine richCompare_gives (op := .Gt) (typeIs_str s _ _) (typeIs_str s _ _) PySem.F.slot_str_gt PySem.F.entry_str_gt (PySem.F.args_str_gt_2 _ _) (gives_str_gt _ _ _ _) (fun x => nomatch x) ?_
  have e : decide ((#[d] : Array Nat).toList < (#[c] : Array Nat).toList) = decide ((x.cps.getD i 0) > (x.cps.getD j 0)) := by
    have h1 : x.cps.getD i 0 = c := by rw [Array.getD_eq_getD_getElem?, hc]; rfl
    have h2 : x.cps.getD j 0 = d := by rw [Array.getD_eq_getD_getElem?, hd]; rfl
    rw [h1, h2]
    have : ([d] < [c]) ↔ c > d := by
      rw [List.cons_lt_cons_iff]; simp
    exact decide_eq_decide.mpr this
  show Q (.bool (decide ((#[d] : Array Nat).toList < (#[c] : Array Nat).toList))) s
  rw [e]; exact h
theorem argBest_gtN (f : Nat → Nat) : ∀ n, argBest (fun i j => decide (f i > f j)) n ≤ n ∧ ∀ j, j ≤ n → f j ≤ f (argBest (fun i j => decide (f i > f j)) n) := by
  intro n
  have h := argBest_gt (fun i => (f i : Int)) n
  have e : (fun i j => decide (((f i : Nat) : Int) > ((f j : Nat) : Int))) = (fun i j => decide (f i > f j)) := by
    funext i j; exact decide_eq_decide.mpr (by omega)
  rw [e] at h
  exact ⟨h.1, fun j hj => by have := h.2 j hj; omega⟩
def topOf (l : List Nat) (m : Nat) : Prop := m ∈ l ∧ ∀ a ∈ l, a ≤ m
theorem CallOk.maxS {l : List Nat} {m : Nat} (hm : topOf l m) : CallOk Γ k (.builtin "max") [.str l] (.str [m]) := by
  intro A n D s vals Q E _ hA _ _ hvs _ hQ
  rw [Vs_cons] at hvs
  obtain ⟨v, r, rfl, hv, hr⟩ := hvs
  rw [Vs_nil] at hr; subst hr
  obtain ⟨t, rfl⟩ := V_str.mp hv
  have hlen : 0 < l.length := List.length_pos_of_mem hm.1
  refine toR (call_max_walk (iter_str (A := A.in1) hA.handled fun St W o hst => ⟨_, _, _, _, _, _, _, rfl, W, hst, ?_, ?_, cmp_signs _, fun v h' tk hP hk => ?_⟩))
  · intro b hb
    rw [List.mem_singleton] at hb; subst hb
    show _ < (s.heap.push o).objs.size
    rw [Heap.size_push]; exact Nat.lt_succ_self _
  · simpa using hlen
  · obtain ⟨c, u, hc, rfl⟩ := hP
    refine hQ _ _ (Gr.heap tk fun b ob e => hk b ob (fun q => by rw [List.mem_singleton] at q; exact absurd (q ▸ Heap.lt_size e) (Nat.lt_irrefl _)) (Heap.get?_push_of_some _ e)) ?_
    have hb := argBest_gtN (fun i => (l.toArray).getD i 0) (l.toArray.size - 1)
    obtain ⟨b1, b2⟩ := hb
    have hc' : (l.toArray).getD (argBest (fun i j => decide ((l.toArray).getD i 0 > (l.toArray).getD j 0)) (l.toArray.size - 1)) 0 = c := by
      rw [Array.getD_eq_getD_getElem?]
      have hc2 : (l.toArray)[argBest (fun i j => decide ((l.toArray).getD i 0 > (l.toArray).getD j 0)) (l.toArray.size - 1)]? = some c := hc
      rw [hc2]; rfl
    have e : c = m := by
      have c_in : c ∈ l := by
        have hc2 : (l.toArray)[argBest (fun i j => decide ((l.toArray).getD i 0 > (l.toArray).getD j 0)) (l.toArray.size - 1)]? = some c := hc
        have := Array.mem_of_getElem? hc2
        simpa using this
      have h1 := hm.2 c c_in
      obtain ⟨j, hj, hje⟩ := List.getElem_of_mem hm.1
      have h2 := b2 j (by simp; omega)
      rw [hc'] at h2
      have h3 : (l.toArray).getD j 0 = m := by rw [Array.getD_eq_getD_getElem?]; simp [hj, hje]
      omega
    rw [← e]
    exact V.str [c] _

theorem CallOk.rfind {l : List Nat} {c i : Nat} (h : l[i]? = some c) (hn : ∀ j, i < j → l[j]? ≠ some c) : CallOk Γ k (.builtin "str.rfind") [.str l, .str [c]] (.int (i : Int)) := by
  intro A n D s vals Q E _ hA _ _ hvs _ hQ
  rw [Vs_cons] at hvs
  obtain ⟨v, r, rfl, hv, hr⟩ := hvs
  rw [Vs_cons] at hr
  obtain ⟨v2, r2, rfl, hv2, hr2⟩ := hr
  rw [Vs_nil] at hr2; subst hr2
  obtain ⟨t, rfl⟩ := V_str.mp hv
  obtain ⟨u, rfl⟩ := V_str.mp hv2
  have hat : ∀ j, StrLaws.At ⟨l.toArray⟩ ⟨[c].toArray⟩ (Str.mk l.toArray).length j ↔ l[j]? = some c := by
    intro j
    unfold StrLaws.At
    rw [str_len, str_len]
    constructor
    · rintro ⟨h1, h2⟩
      have h3 : (l.toArray.extract j (j + 1)).toList = [c] := by
        have := eq_of_beq h2
        have h4 : l.toArray.extract j (j + 1) = #[c] := this
        rw [h4]
      have h5 : j < l.length := by simp at h1; omega
      rw [Array.toList_extract] at h3
      simp at h3
      have h6 : (l.drop j).take 1 = [c] := by simpa [List.extract] using h3
      have : ((l.drop j).take 1)[0]? = some c := by rw [h6]; rfl
      rw [List.getElem?_take, List.getElem?_drop] at this
      simpa using this
    · intro h1
      have h5 : j < l.length := (List.getElem?_eq_some_iff.mp h1).1
      refine ⟨by simp; omega, ?_⟩
      show (l.toArray.extract j (j + 1) == #[c]) = true
      have : l.toArray.extract j (j + 1) = #[c] := by
        apply Array.toList_inj.mp
        rw [Array.toList_extract]
        have h6 : (l.drop j).take 1 = [c] := by
          have := List.getElem?_eq_getElem h5
          rw [h1] at this
          rw [List.drop_eq_getElem_cons h5, List.take_succ_cons, List.take_zero, ← Option.some.inj this]
        simpa [List.extract] using h6
      rw [this]
      exact beq_self_eq_true _
  have e : Txt.rfind ⟨l.toArray⟩ ⟨[c].toArray⟩ = (i : Int) := by
    rcases rfind_whole ⟨l.toArray⟩ ⟨[c].toArray⟩ with ⟨_, h0⟩ | ⟨q, h0, h1, h2⟩
    · exact absurd ((hat i).mpr h) (h0 i)
    · rw [h0]
      have h3 := (hat q).mp h1
      have : ¬ i < q := fun x => hn q x h3
      have : ¬ q < i := fun x => h2 i x ((hat i).mpr h)
      omega
  exact toR (SC.rfind (by rw [e]; exact hQ _ _ (Gr.toks _) (V.int _ _)))
end
end Mine

set_option maxRecDepth 100000
namespace Mine
section
variable {Γ : Cx} {k : Nat}
theorem Lv.room {n : Nat} {A : Around} (h : Lv n A) (hn : n ≤ 8) : A.units + 64 < cLine := by
  have := h.units
  show A.units + 64 < _
  unfold cLine
  omega
/-! ### lists of ints: ==, != -/
theorem Op2.eqI {as bs : List Int} : Op2 Γ (compareOp .Eq) (.lst (as.map .int)) (.lst (bs.map .int)) (.bool (decide (as = bs))) := by
  intro A n D s x y Q E hn hA _ _ hx hy _ hQ
  obtain ⟨a, items, rfl, _, hl, he⟩ := V_lst.mp hx
  obtain ⟨b, items2, rfl, _, hl2, he2⟩ := V_lst.mp hy
  exact ke_eq_ints (xs := items.toList) (ys := items2.toList) (by simpa using hl) (by simpa using hl2) he.ints he2.ints (hA.room hn) (hQ _ _ (Gr.refl s) (V.bool _))
theorem Op2.neI {as bs : List Int} : Op2 Γ (compareOp .NotEq) (.lst (as.map .int)) (.lst (bs.map .int)) (.bool (!decide (as = bs))) := by
  intro A n D s x y Q E hn hA _ _ hx hy _ hQ
  obtain ⟨a, items, rfl, _, hl, he⟩ := V_lst.mp hx
  obtain ⟨b, items2, rfl, _, hl2, he2⟩ := V_lst.mp hy
  exact ke_ne_ints (xs := items.toList) (ys := items2.toList) (by simpa using hl) (by simpa using hl2) he.ints he2.ints (hA.room hn) (hQ _ _ (Gr.refl s) (V.bool _))
end
end Mine

namespace Mine
/-! ## insertion_sort in numbers -/
def stepC (c : Int) : Int := if 1114111 < c then 63 else c
def putN (base : List Nat) (p : Int) (c : Int) : List Nat := base.take p.toNat ++ c.toNat :: base.drop p.toNat
theorem putN_length (base : List Nat) (p c : Int) : (putN base p c).length = base.length + 1 := by
  unfold putN; simp [List.length_take, List.length_drop]; omega
def insF : List Nat → Int → Int → List Int → List Nat
  | base, _, _, [] => base
  | base, char, pos, d :: ds =>
    insF (putN base ((pos + (d + 1)) % ((base.length : Int) + 1)) (stepC (char + (pos + (d + 1)) / ((base.length : Int) + 1)))) (stepC (char + (pos + (d + 1)) / ((base.length : Int) + 1))) ((pos + (d + 1)) % ((base.length : Int) + 1)) ds
/-- no code point too great -/
def noOv : List Nat → Int → Int → List Int → Prop
  | _, _, _, [] => True
  | base, char, pos, d :: ds => char + (pos + (d + 1)) / ((base.length : Int) + 1) ≤ 1114111 ∧
    noOv (putN base ((pos + (d + 1)) % ((base.length : Int) + 1)) (char + (pos + (d + 1)) / ((base.length : Int) + 1))) (char + (pos + (d + 1)) / ((base.length : Int) + 1)) ((pos + (d + 1)) % ((base.length : Int) + 1)) ds
theorem stepC_id {c : Int} (h : c ≤ 1114111) : stepC c = c := by unfold stepC; rw [if_neg (by omega)]
theorem insF_length : ∀ (ds : List Int) (base : List Nat) (char pos : Int), (insF base char pos ds).length = base.length + ds.length
  | [], base, _, _ => rfl
  | d :: ds, base, char, pos => by
    simp only [insF]
    rw [insF_length ds, putN_length]; simp; omega
theorem ggiD_pos (N bias j : Int) : 1 ≤ (ggiD N bias j).length := by rw [ggiD]; split <;> simp
theorem giD_dig (base : Int) : ∀ (ds : List Int) (p b : Int), (∀ d ∈ ds, 0 ≤ d) → ∀ x ∈ giD base p b ds, 0 ≤ x ∧ x < 36
  | [], _, _, _, x, h => nomatch h
  | d :: ds, p, b, hd, x, h => by
    simp only [giD, List.mem_append] at h
    rcases h with h | h
    · exact ggiD_dig (hd d List.mem_cons_self) x h
    · exact giD_dig base ds _ _ (fun y hy => hd y (List.mem_cons_of_mem _ hy)) x h
def strictL : List Nat := [115, 116, 114, 105, 99, 116]
end Mine

namespace Mine
/-! ## law 09 in numbers -/
/-- the state behind a row of numbers -/
def insS : List Nat → Int → Int → List Int → List Nat × Int × Int
  | base, char, pos, [] => (base, char, pos)
  | base, char, pos, d :: ds =>
    insS (putN base ((pos + (d + 1)) % ((base.length : Int) + 1)) (char + (pos + (d + 1)) / ((base.length : Int) + 1))) (char + (pos + (d + 1)) / ((base.length : Int) + 1)) ((pos + (d + 1)) % ((base.length : Int) + 1)) ds
theorem insF_app : ∀ (xs ys : List Int) (base : List Nat) (char pos : Int), noOv base char pos xs →
    insF base char pos (xs ++ ys) = insF (insS base char pos xs).1 (insS base char pos xs).2.1 (insS base char pos xs).2.2 ys
  | [], ys, base, char, pos, _ => rfl
  | x :: xs, ys, base, char, pos, h => by
    simp only [noOv] at h
    simp only [List.cons_append, insF, insS]
    rw [stepC_id h.1]
    exact insF_app xs ys _ _ _ h.2
theorem noOv_app : ∀ (xs ys : List Int) (base : List Nat) (char pos : Int),
    (noOv base char pos (xs ++ ys) ↔ noOv base char pos xs ∧ noOv (insS base char pos xs).1 (insS base char pos xs).2.1 (insS base char pos xs).2.2 ys)
  | [], ys, base, char, pos => by simp [noOv, insS]
  | x :: xs, ys, base, char, pos => by
    simp only [List.cons_append, noOv, insS]
    rw [noOv_app xs ys]
    constructor
    · rintro ⟨a, b, c⟩; exact ⟨⟨a, b⟩, c⟩
    · rintro ⟨⟨a, b⟩, c⟩; exact ⟨a, b, c⟩
theorem insF_S (xs : List Int) (base : List Nat) (char pos : Int) (h : noOv base char pos xs) : insF base char pos xs = (insS base char pos xs).1 := by
  have := insF_app xs [] base char pos h
  rw [List.append_nil] at this
  rw [this]; rfl
/-- signs up to the sign; none of it behind the place -/
structure JF (base : List Nat) (char pos : Int) : Prop where
  le : ∀ a ∈ base, (a : Int) ≤ char
  none : ∀ j : Nat, pos < (j : Int) → ∀ a, base[j]? = some a → (a : Int) ≠ char
  c0 : 128 ≤ char
  p0 : -1 ≤ pos
  p1 : pos ≤ base.length
theorem putN_mem {base : List Nat} {p c : Int} {a : Nat} (h : a ∈ putN base p c) : a ∈ base ∨ a = c.toNat := by
  unfold putN at h
  rcases List.mem_append.mp h with h | h
  · exact .inl (List.mem_of_mem_take h)
  · rcases List.mem_cons.mp h with h | h
    · exact .inr h
    · exact .inl (List.mem_of_mem_drop h)
theorem putN_at {base : List Nat} {p c : Int} (h0 : 0 ≤ p) (h1 : p ≤ base.length) : (putN base p c)[p.toNat]? = some c.toNat := by
  unfold putN
  rw [List.getElem?_append_right (by simp [List.length_take]; omega)]
  have : p.toNat - (base.take p.toNat).length = 0 := by simp [List.length_take]; omega
  rw [this]; rfl
theorem putN_behind {base : List Nat} {p c : Int} (h0 : 0 ≤ p) (h1 : p ≤ base.length) {j : Nat} (hj : p < (j : Int)) : (putN base p c)[j]? = base[j - 1]? := by
  unfold putN
  have hl : (base.take p.toNat).length = p.toNat := by simp [List.length_take]; omega
  rw [List.getElem?_append_right (by omega), hl]
  obtain ⟨i, hi⟩ : ∃ i, j - p.toNat = i + 1 := ⟨j - p.toNat - 1, by omega⟩
  rw [hi, List.getElem?_cons_succ, List.getElem?_drop]
  congr 1; omega
theorem JF.step {base : List Nat} {char pos d : Int} (J : JF base char pos) (hd : 0 ≤ d) :
    JF (putN base ((pos + (d + 1)) % ((base.length : Int) + 1)) (char + (pos + (d + 1)) / ((base.length : Int) + 1))) (char + (pos + (d + 1)) / ((base.length : Int) + 1)) ((pos + (d + 1)) % ((base.length : Int) + 1)) ∧
    (putN base ((pos + (d + 1)) % ((base.length : Int) + 1)) (char + (pos + (d + 1)) / ((base.length : Int) + 1)))[((pos + (d + 1)) % ((base.length : Int) + 1)).toNat]? = some (char + (pos + (d + 1)) / ((base.length : Int) + 1)).toNat ∧
    0 ≤ (pos + (d + 1)) % ((base.length : Int) + 1) := by
  obtain ⟨le, no, c0, p0, p1⟩ := J
  have hP : 0 ≤ pos + (d + 1) := by omega
  have q0 : 0 ≤ (pos + (d + 1)) / ((base.length : Int) + 1) := Int.ediv_nonneg hP (by omega)
  have m0 : 0 ≤ (pos + (d + 1)) % ((base.length : Int) + 1) := Int.emod_nonneg _ (by omega)
  have m1 : (pos + (d + 1)) % ((base.length : Int) + 1) < (base.length : Int) + 1 := Int.emod_lt_of_pos _ (by omega)
  have me := Int.mul_ediv_add_emod (pos + (d + 1)) ((base.length : Int) + 1)
  generalize (pos + (d + 1)) / ((base.length : Int) + 1) = q at *
  generalize (pos + (d + 1)) % ((base.length : Int) + 1) = m at *
  refine ⟨⟨fun a ha => ?_, fun j hj a ha => ?_, by omega, by omega, by rw [putN_length]; omega⟩, putN_at m0 (by omega), m0⟩
  · rcases putN_mem ha with h | h
    · have := le a h; omega
    · omega
  · rw [putN_behind m0 (by omega) hj] at ha
    by_cases hq : q = 0
    · subst hq
      have := no (j - 1) (by omega) a ha
      omega
    · have := le a (List.mem_of_getElem? ha)
      omega
theorem JF.run : ∀ (ds : List Int) (base : List Nat) (char pos : Int), JF base char pos → (∀ d ∈ ds, 0 ≤ d) → ds ≠ [] →
    JF (insS base char pos ds).1 (insS base char pos ds).2.1 (insS base char pos ds).2.2 ∧ (insS base char pos ds).1[(insS base char pos ds).2.2.toNat]? = some (insS base char pos ds).2.1.toNat ∧ 0 ≤ (insS base char pos ds).2.2
  | [], _, _, _, _, _, h => absurd rfl h
  | [d], base, char, pos, J, hd, _ => by
    simp only [insS]
    exact J.step (hd d List.mem_cons_self)
  | d :: e :: ds, base, char, pos, J, hd, _ => by
    have h := J.step (hd d List.mem_cons_self)
    have := JF.run (e :: ds) _ _ _ h.1 (fun x hx => hd x (List.mem_cons_of_mem _ hx)) (by simp)
    rw [insS]; exact this
theorem noOv_small : ∀ (ds : List Int) (base : List Nat) (char pos : Int), (∀ d ∈ ds, 0 ≤ d ∧ d < 10000) → 0 ≤ char → -1 ≤ pos → pos ≤ base.length → char + 10001 * ds.length ≤ 1114111 → noOv base char pos ds
  | [], _, _, _, _, _, _, _, _ => trivial
  | d :: ds, base, char, pos, hd, c0, p0, p1, hb => by
    obtain ⟨d0, d1⟩ := hd d List.mem_cons_self
    have hP : 0 ≤ pos + (d + 1) := by omega
    have q0 : 0 ≤ (pos + (d + 1)) / ((base.length : Int) + 1) := Int.ediv_nonneg hP (by omega)
    have q1 : (pos + (d + 1)) / ((base.length : Int) + 1) ≤ 10001 := by
      refine Int.le_of_lt_add_one (Int.ediv_lt_of_lt_mul (by omega) ?_)
      have : (10001 + 1) * ((base.length : Int) + 1) = 10002 * base.length + 10002 := by omega
      omega
    have m0 : 0 ≤ (pos + (d + 1)) % ((base.length : Int) + 1) := Int.emod_nonneg _ (by omega)
    have m1 : (pos + (d + 1)) % ((base.length : Int) + 1) < (base.length : Int) + 1 := Int.emod_lt_of_pos _ (by omega)
    simp only [List.length_cons] at hb
    refine ⟨by omega, noOv_small ds _ _ _ (fun x hx => hd x (List.mem_cons_of_mem _ hx)) (by omega) (by omega) (by rw [putN_length]; omega) (by omega)⟩
theorem insS_length : ∀ (ds : List Int) (base : List Nat) (char pos : Int), (insS base char pos ds).1.length = base.length + ds.length
  | [], base, _, _ => rfl
  | d :: ds, base, char, pos => by
    simp only [insS]
    rw [insS_length ds, putN_length]; simp; omega
/-- begun anew -/
theorem insF_anew {stage : List Nat} {char pos n : Int} {ds : List Int} : insF stage 128 (-1) (((char - 128) * ((stage.length : Int) + 1) + pos + 1 + n) :: ds) = insF stage char pos (n :: ds) ∧
    (noOv stage 128 (-1) (((char - 128) * ((stage.length : Int) + 1) + pos + 1 + n) :: ds) ↔ noOv stage char pos (n :: ds)) := by
  have e : -1 + ((char - 128) * ((stage.length : Int) + 1) + pos + 1 + n + 1) = (pos + (n + 1)) + (char - 128) * ((stage.length : Int) + 1) := by omega
  have e1 : 128 + (-1 + ((char - 128) * ((stage.length : Int) + 1) + pos + 1 + n + 1)) / ((stage.length : Int) + 1) = char + (pos + (n + 1)) / ((stage.length : Int) + 1) := by
    rw [e, Int.add_mul_ediv_right _ _ (by omega)]; omega
  have e2 : (-1 + ((char - 128) * ((stage.length : Int) + 1) + pos + 1 + n + 1)) % ((stage.length : Int) + 1) = (pos + (n + 1)) % ((stage.length : Int) + 1) := by
    rw [e, Int.add_mul_emod_self_right]
  simp only [insF, noOv]
  rw [e1, e2]
  exact ⟨rfl, Iff.rfl⟩
theorem filterMap_if {α β : Type} (p : α → Bool) (f : α → β) : ∀ l : List α, (l.map fun a => if p a then some (f a) else none).filterMap id = (l.filter p).map f
  | [] => rfl
  | a :: l => by
    rw [List.map_cons, List.filter_cons]
    cases h : p a
    · simp [filterMap_if p f l]
    · simp [filterMap_if p f l]
end Mine

namespace Mine
/-! ## law 02 in numbers -/
def lvT (l : Nat) : Int → Nat → List (Int × Int)
  | _, 0 => []
  | s, n + 1 => (36 * (l : Int) + s, leastF l s) :: lvT l (s + 1) n
def tabT : List (Int × Int) := (0, 0) :: (lvT 0 1 33 ++ (lvT 1 9 25 ++ lvT 2 9 25))
theorem lvT_mem {l : Nat} : ∀ {n : Nat} {s : Int} {x : Int × Int}, x ∈ lvT l s n ↔ ∃ t : Int, s ≤ t ∧ t < s + n ∧ x = (36 * (l : Int) + t, leastF l t)
  | 0, s, x => by simp [lvT]; intro t _ _; omega
  | n + 1, s, x => by
    simp only [lvT, List.mem_cons]
    rw [lvT_mem]
    constructor
    · rintro (h | ⟨t, h1, h2, h3⟩)
      · exact ⟨s, Int.le_refl _, by omega, h⟩
      · exact ⟨t, by omega, by omega, h3⟩
    · rintro ⟨t, h1, h2, h3⟩
      by_cases h : t = s
      · subst h; exact .inl h3
      · exact .inr ⟨t, by omega, by omega, h3⟩
theorem tabT_mem {x : Int × Int} : x ∈ tabT ↔ ∃ (l : Nat) (s : Int), l ≤ 2 ∧ 0 ≤ s ∧ s ≤ 33 ∧ (l = 0 ∨ 9 ≤ s) ∧ x = (36 * (l : Int) + s, leastF l s) := by
  unfold tabT
  simp only [List.mem_cons, List.mem_append, lvT_mem]
  constructor
  · rintro (h | ⟨t, h1, h2, h3⟩ | ⟨t, h1, h2, h3⟩ | ⟨t, h1, h2, h3⟩)
    · refine ⟨0, 0, by omega, by omega, by omega, .inl rfl, ?_⟩
      rw [h]; decide
    · exact ⟨0, t, by omega, by omega, by omega, .inl rfl, h3⟩
    · exact ⟨1, t, by omega, by omega, by omega, .inr h1, h3⟩
    · exact ⟨2, t, by omega, by omega, by omega, .inr h1, h3⟩
  · rintro ⟨l, s, h1, h2, h3, h4, h5⟩
    match l, h1 with
    | 0, _ =>
      by_cases hs : s = 0
      · subst hs; left; rw [h5]; decide
      · exact .inr (.inl ⟨s, by omega, by omega, h5⟩)
    | 1, _ => exact .inr (.inr (.inl ⟨s, by omega, by omega, h5⟩))
    | 2, _ => exact .inr (.inr (.inr ⟨s, by omega, by omega, h5⟩))
theorem tabT_length : tabT.length = 84 := by decide
theorem tab_le {x : Int × Int} (hx : x ∈ tabT) {e : Int} (he : 0 ≤ e) : x.1 ≤ adLoop e 0 ↔ x.2 ≤ e := by
  obtain ⟨l, s, h1, h2, h3, h4, rfl⟩ := tabT_mem.mp hx
  exact bias_ge l s e he h2 h3 h4
theorem tab_has {e : Int} (he : 0 ≤ e) (h2 : e < 456 * 35 ^ 2) : ∃ x ∈ tabT, x.1 = adLoop e 0 ∧ x.2 ≤ e := by
  obtain ⟨l, s, e1, e2, e3, e4⟩ := bias_shape e he
  have hl : l ≤ 2 := by
    by_cases q : l ≤ 2
    · exact q
    · have h3 := (bias_ge 3 9 e he (by decide) (by decide) (.inr (by decide))).mp (by omega)
      have h4 : leastF ((3 : Nat) : Int) 9 = 456 * 35 ^ 2 := by decide
      omega
  have hm : (36 * (l : Int) + s, leastF l s) ∈ tabT := tabT_mem.mpr ⟨l, s, hl, e2, e3, e4, rfl⟩
  exact ⟨_, hm, e1.symm, (tab_le hm he).mp (by omega)⟩
/-- count signs are enough just up to the law's last -/
theorem last_iff {size least count : Int} (h0 : 0 ≤ size) (h1 : size < least) (hc : 0 < count) : least ≤ size + size / count ↔ count ≤ size / (least - size) := by
  have a : least ≤ size + size / count ↔ least - size ≤ size / count := by omega
  rw [a, Int.le_ediv_iff_mul_le hc, Int.le_ediv_iff_mul_le (by omega), Int.mul_comm]
def aloneL (size : Int) : List Int := (tabT.filter fun x => decide (x.2 ≤ size)).map (·.1)
def lastsT (size : Int) : List (Int × Int) := (tabT.filter fun x => decide (size < x.2) && decide (x.2 ≤ 2 * size)).map fun x => (x.1, size / (x.2 - size))
def dueL (alone size count : Int) : List Int := alone :: ((lastsT size).filter fun x => decide (count ≤ x.2)).map (·.1)
theorem aloneL_ne (size : Int) (h : 0 ≤ size) : aloneL size ≠ [] := by
  have : (0 : Int) ∈ aloneL size := by
    refine List.mem_map.mpr ⟨(0, 0), List.mem_filter.mpr ⟨?_, by simpa using h⟩, rfl⟩
    unfold tabT; exact List.mem_cons_self
  intro q; rw [q] at this; exact nomatch this
theorem due_is {alone size count : Int} (h0 : 0 ≤ size) (h1 : size < 10 ^ 5) (hc : 0 < count) (ha : alone ∈ aloneL size) (hm : ∀ b ∈ aloneL size, b ≤ alone) :
    adLoop (size + size / count) 0 ∈ dueL alone size count ∧ ∀ b ∈ dueL alone size count, b ≤ adLoop (size + size / count) 0 := by
  have q0 : 0 ≤ size / count := Int.ediv_nonneg h0 (by omega)
  have q1 : size / count ≤ size := Int.ediv_le_self _ h0
  have e0 : 0 ≤ size + size / count := by omega
  have e2 : size + size / count < 456 * 35 ^ 2 := by
    have : (456 : Int) * 35 ^ 2 = 558600 := by decide
    omega
  obtain ⟨x, hx, hx1, hx2⟩ := tab_has e0 e2
  have hale : alone ≤ adLoop (size + size / count) 0 := by
    obtain ⟨y, hy, rfl⟩ := List.mem_map.mp ha
    obtain ⟨hy1, hy2⟩ := List.mem_filter.mp hy
    have : y.2 ≤ size := by simpa using hy2
    exact (tab_le hy1 e0).mpr (by omega)
  refine ⟨?_, fun b hb => ?_⟩
  · by_cases hs : x.2 ≤ size
    · have h3 : x.1 ∈ aloneL size := List.mem_map.mpr ⟨x, List.mem_filter.mpr ⟨hx, by simpa using hs⟩, rfl⟩
      have := hm _ h3
      have : adLoop (size + size / count) 0 = alone := by omega
      rw [this]; exact List.mem_cons_self
    · refine List.mem_cons_of_mem _ (List.mem_map.mpr ⟨(x.1, size / (x.2 - size)), List.mem_filter.mpr ⟨List.mem_map.mpr ⟨x, List.mem_filter.mpr ⟨hx, ?_⟩, rfl⟩, ?_⟩, hx1⟩)
      · simp; omega
      · have := (last_iff h0 (by omega) hc).mp hx2
        simpa using this
  · rcases List.mem_cons.mp hb with rfl | hb
    · exact hale
    · obtain ⟨z, hz, rfl⟩ := List.mem_map.mp hb
      obtain ⟨hz1, hz2⟩ := List.mem_filter.mp hz
      obtain ⟨y, hy, rfl⟩ := List.mem_map.mp hz1
      obtain ⟨hy1, hy2⟩ := List.mem_filter.mp hy
      have hy3 : size < y.2 ∧ y.2 ≤ 2 * size := by simpa using hy2
      have hz3 : count ≤ size / (y.2 - size) := by simpa using hz2
      exact (tab_le hy1 e0).mpr ((last_iff h0 hy3.1 hc).mpr hz3)
theorem lasts_range {size : Int} (h0 : 0 ≤ size) : ∀ x ∈ lastsT size, 1 ≤ x.2 ∧ x.2 ≤ size := by
  intro x hx
  obtain ⟨y, hy, rfl⟩ := List.mem_map.mp hx
  obtain ⟨hy1, hy2⟩ := List.mem_filter.mp hy
  have hy3 : size < y.2 ∧ y.2 ≤ 2 * size := by simpa using hy2
  refine ⟨?_, Int.ediv_le_self _ h0⟩
  show 1 ≤ size / (y.2 - size)
  rw [Int.le_ediv_iff_mul_le (by omega)]; omega
theorem lasts_length (size : Int) : (lastsT size).length ≤ 84 := by
  unfold lastsT
  rw [List.length_map]
  exact Nat.le_trans (List.length_filter_le _ _) (by rw [tabT_length]; omega)
theorem aloneL_length (size : Int) : (aloneL size).length ≤ 84 := by
  unfold aloneL
  rw [List.length_map]
  exact Nat.le_trans (List.length_filter_le _ _) (by rw [tabT_length]; omega)
theorem lastsT_least {x : Int × Int} (hx : x ∈ tabT) : 0 ≤ x.2 ∧ x.2 < 10 ^ 7 := by
  have : (tabT.all fun x => decide (0 ≤ x.2) && decide (x.2 < 10 ^ 7)) = true := by decide +kernel
  have := List.all_eq_true.mp this x hx
  simpa using this
end Mine

namespace Mine
local macro_rules | `(tactic| wtm_at "side") => `(tactic| first | with_reducible assumption | omega | decide | (simp; done) | (simp; omega) | skip)
local macro_rules | `(tactic| wtm_at "mul") => `(tactic| first | exact IntMulOk.of_left (intBits_le_64 (by omega) (by omega)) | exact IntMulOk.of_right (intBits_le_64 (by omega) (by omega)) | skip)
local macro_rules | `(tactic| wtm_at "cl") => `(tactic| fail "no contract")
local macro_rules | `(tactic| wtm_at "op") => `(tactic| first
  | with_reducible exact Op2.add | with_reducible exact Op2.sub
  | ((with_reducible refine' Op2.fdiv ?s1 ?s2); (case s1 => wtm_at "side"); (case s2 => wtm_at "side"))
  | ((with_reducible refine' Op2.mod ?s1); (case s1 => wtm_at "side"))
  | with_reducible exact Op2.eq | with_reducible exact Op2.lt | with_reducible exact Op2.gt | with_reducible exact Op2.le | with_reducible exact Op2.ge | with_reducible exact Op2.ne
  | ((with_reducible refine' Op2.mul ?s1); (case s1 => wtm_at "mul"))
  | with_reducible exact Op2.iadd | with_reducible exact Op2.isub
  | ((with_reducible refine' Op2.ifdiv ?s1 ?s2); (case s1 => wtm_at "side"); (case s2 => wtm_at "side"))
  | ((with_reducible refine' Op2.imul ?s1); (case s1 => wtm_at "mul"))
  | fail "no operation")
local macro_rules | `(tactic| wtm_at "evx") => `(tactic| fail "no expression")
local macro_rules | `(tactic| wtm_at "ev") => `(tactic| first
  | with_reducible exact Ev.cint | with_reducible exact Ev.cbool | with_reducible exact Ev.cnone | with_reducible exact Ev.cbytes
  | ((with_reducible refine' Ev.name ?hx); (case hx => exact rfl))
  | ((with_reducible refine' Ev.glob ?hx); (case hx => first | exact rfl | assumption))
  | ((with_reducible refine' Ev.bin ?hl ?hr ?ho); (case hl => wtm_at "ev"); (case hr => wtm_at "ev"); (case ho => wtm_at "op"))
  | ((with_reducible refine' Ev.cmp ?hl ?hr ?ho); (case hl => wtm_at "ev"); (case hr => wtm_at "ev"); (case ho => wtm_at "op"))
  | ((with_reducible refine' Ev.call ?hf ?hk ?ha ?hc); (case hf => wtm_at "ev"); (case hk => wtm_at "kp"); (case ha => wtm_at "es"); (case hc => wtm_at "cl"))
  | ((with_reducible refine' Ev.neg ?hl); (case hl => wtm_at "ev"))
  | ((with_reducible refine' Ev.tuple ?hl ?hs); (case hl => wtm_at "es"); (case hs => (simp; done)))
  | ((with_reducible refine' Ev.list ?hl ?hs); (case hl => wtm_at "es"); (case hs => (simp; done)))
  | wtm_at "evx")
local macro_rules | `(tactic| wtm_at "kp") => `(tactic| first | with_reducible exact KeepOk.builtin | with_reducible exact KeepOk.type | with_reducible assumption)
local macro_rules | `(tactic| wtm_at "es") => `(tactic| first | with_reducible exact Es.nil | ((with_reducible refine' Es.cons ?hl ?hr); (case hl => wtm_at "ev"); (case hr => wtm_at "es")))
local macro_rules | `(tactic| wtm_at "truth") => `(tactic| first | with_reducible exact Truth.bool | with_reducible exact Truth.int)
local macro_rules | `(tactic| wtm_at "tr") => `(tactic| first
  | ((with_reducible refine' Tr.cmp ?hl ?hr ?ho); (case hl => wtm_at "ev"); (case hr => wtm_at "ev"); (case ho => wtm_at "op"))
  | ((with_reducible refine' Tr.not ?hl); (case hl => wtm_at "tr"))
  | ((with_reducible refine' Tr.and2 ?hl (fun h => ?hr)); (case hl => wtm_at "tr"); (case hr => wtm_at "tr"))
  | ((with_reducible refine' Tr.or2 ?hl (fun h => ?hr)); (case hl => wtm_at "tr"); (case hr => wtm_at "tr"))
  | ((with_reducible refine' Tr.val ?hl ?hr); (case hl => wtm_at "ev"); (case hr => wtm_at "truth"))
  | fail "no test")
local macro_rules | `(tactic| wtm_at "sub") => `(tactic| repeat' (first | exact True.intro | refine And.intro (by exact rfl) ?_))

abbrev pg := PySem.Challenge.pw_dm0101_02
variable {Γ : Cx}

theorem adapt_tail {delta n : Int} (hd : 0 ≤ delta) (hn : 0 < n) (hn2 : n < 2 ^ 64) :
    Xs Γ 0 (fnAt pg 1).2.2 [("delta", .int delta), ("numchars", .int n)] [] (fnAt pg 1).2.1.tail (fun fl _ _ => fl = .ret (.int (adLoop (delta + delta / n) 0))) := by
  refine Xs.cons (X1.aug rfl (by wtm_at "ev") (by wtm_at "op") ?_)
  refine Xs.cons (X1.assign (by wtm_at "ev") ?_)
  refine Xs.cons (X1.while ?_)
  have hd' : 0 ≤ delta / n := Int.ediv_nonneg hd (by omega)
  generalize he : delta + delta / n = e
  have he0 : 0 ≤ e := by omega
  clear he hd hd'
  refine Wh.sub (σ' := [("delta", .int e), ("divisions", .int 0)]) ⟨rfl, rfl, trivial⟩ ?_
  generalize hR : adLoop e 0 = R
  generalize hdv : (0 : Int) = dv at hR
  have he0' : 0 ≤ e := he0
  clear hdv he0
  obtain ⟨m, hm⟩ : ∃ m : Nat, e.toNat ≤ m := ⟨_, Nat.le_refl _⟩
  induction m using Nat.strongRecOn generalizing e dv with
  | ind m ih =>
    refine Wh.step (by wtm_at "tr") (fun hc => ?_) (fun hc => ?_)
    · have hc' := of_decide_eq_true hc
      refine Xs.cons (X1.assign (by wtm_at "ev") ?_)
      refine Xs.cons (X1.aug rfl (by wtm_at "ev") (by wtm_at "op") ?_)
      refine Xs.nil ?_
      refine Wh.sub (σ' := [("delta", .int (e / 35)), ("divisions", .int (dv + 36))]) ⟨rfl, rfl, trivial⟩ ?_
      rw [adLoop, dif_pos hc'] at hR
      exact ih (e / 35).toNat (by omega) (e / 35) (dv + 36) hR (by omega) (Nat.le_refl _)
    · have hc' := of_decide_eq_false hc
      refine Xs.nil ?_
      refine Xs.cons (X1.assign (by wtm_at "ev") ?_)
      refine Xs.cons (X1.ret (by wtm_at "ev") ?_)
      rw [adLoop, dif_neg hc'] at hR
      rw [hR]

theorem adapt_ok {a : Addr} (hA : DefAt Γ a "adapt" (fnAt pg 1)) {delta n : Int} {first : Bool} (hd : 0 ≤ delta) (hn : 0 < n) (hn2 : n < 2 ^ 64) :
    CallOk Γ 1 (.ref a) [.int delta, .bool first, .int n] (.int (adaptF delta first n)) := by
  refine DefAt.call hA ?_ ?_
  · refine Xs.cons (X1.ite (by wtm_at "tr") (fun hc => ?_) (fun hc => ?_))
    · subst hc
      refine Xs.cons (X1.aug rfl (by wtm_at "ev") (by wtm_at "op") ?_)
      refine Xs.nil ?_
      exact Xs.sub (σ' := [("delta", .int (delta / 700)), ("numchars", .int n)]) ⟨rfl, rfl, trivial⟩ (adapt_tail (by omega) hn hn2)
    · subst hc
      refine Xs.cons (X1.aug rfl (by wtm_at "ev") (by wtm_at "op") ?_)
      refine Xs.nil ?_
      exact Xs.sub (σ' := [("delta", .int (delta / 2)), ("numchars", .int n)]) ⟨rfl, rfl, trivial⟩ (adapt_tail (by omega) hn hn2)
  · intro pm cd doc vals h
    match vals, h with
    | [x, y, z], _ => rfl



/-! ### _law_table -/
abbrev pv2 (x : Int × Int) : PV := .tup [.int x.1, .int x.2]
abbrev gl2 (aA aB : Addr) : List (Str × PV) := [("adapt", .obj (.ref aA)), ("_law_table", .obj (.ref aB)),
  ("list", .obj (.type "list")), ("range", .obj (.type "range")), ("len", .obj (.builtin "len")), ("abs", .obj (.builtin "abs")), ("max", .obj (.builtin "max"))]
abbrev G2 (w : World) (B : Heap) (aA aB : Addr) : Cx := ⟨PySem.Challenge.pw_dm0101_02, w, B, gl2 aA aB⟩
structure Has2 (w : World) (B : Heap) (aA aB : Addr) : Prop where
  dA : DefAt (G2 w B aA aB) aA "adapt" (fnAt pg 1)
  dB : DefAt (G2 w B aA aB) aB "_law_table" (fnAt pg 3)
local macro_rules | `(tactic| wtm_at "cl") => `(tactic| first
  | with_reducible exact CallOk.abs
  | with_reducible exact CallOk.range1
  | with_reducible exact CallOk.range2
  | ((with_reducible refine' CallOk.range3 ?s1 ?s2); (case s1 => decide); (case s2 => decide))
  | ((with_reducible refine' CallOk.len_lst ?s1); (case s1 => wtm_at "side"))
  | fail "no contract")
section
variable {w : World} {B : Heap} {aA aB : Addr} (H : Has2 w B aA aB)
set_option maxRecDepth 100000 in
include H in
theorem table_ok : CallOk (G2 w B aA aB) 1 (.ref aB) [] (.lst (tabT.map pv2)) := by
  refine DefAt.call H.dB ?_ ?_
  · refine Xs.cons (X1.own (EvN.list (vs := [pv2 (0, 0)]) (by wtm_at "es") (by simp)) fun a _ => ?_)
    refine Xs.cons (X1.for (p := .rng 0 3 1) (by wtm_at "ev") (IterOk.upTo (n := 3) rfl (by decide)) ?_)
    refine Fo.sub (σ' := [("table", .ref a)]) (by wtm_at "sub") ?_
    -- one level
    have lev : ∀ (lv : Nat) (s0 : Int) (n0 : Nat) (acc : List (Int × Int)) (σ : Loc) (P : Fl → Loc → Own → Prop) (sts : List Stmt), lv ≤ 2 → 1 ≤ s0 → s0 + n0 = 34 → n0 < 40 → acc.length + n0 < 1000 → s0 = (if lv = 0 then 1 else 9) →
        sts = (match (fnAt pg 3).2.1 with | _ :: .For _ _ b _ _ :: _ => b | _ => []) → Sub σ [("table", .ref a), ("level", .int (lv : Int))] →
        (∀ σ', Sub σ' [("table", .ref a)] → P .next σ' [(a, .list ((acc ++ lvT lv s0 n0).map pv2))]) →
        Xs (G2 w B aA aB) 0 (fnAt pg 3).2.2 σ [(a, .list (acc.map pv2))] sts P := by
      intro lv s0 n0 acc σ P sts h2 h1 h34 h40 hacc hs0 he hsub hP
      subst he
      refine Xs.sub (σ' := [("table", .ref a), ("level", .int (lv : Int))]) hsub ?_
      refine Xs.cons (X1.for (p := .rng s0 34 1) (xs := rngItems s0 1 n0) (Ev.call (by wtm_at "ev") (by wtm_at "kp") (Es.cons (v := .int s0) (Ev.ifexp (by wtm_at "tr") (fun hc => ?_) (fun hc => ?_)) (Es.cons (by wtm_at "ev") Es.nil)) CallOk.range2) (IterOk.rng (small_one (by omega) (by omega) (by omega) (by omega)) n0 ?_) ?_)
      · have := of_decide_eq_true hc
        rw [hs0, if_pos (by omega)]; wtm_at "ev"
      · have := of_decide_eq_false hc
        rw [hs0, if_neg (by omega)]; wtm_at "ev"
      · rw [rangeSize_one]; split <;> omega
      clear hs0 h40
      induction n0 generalizing s0 acc with
      | zero =>
        refine Fo.nil (Xs.nil (Xs.nil ?_))
        have := hP [("table", .ref a), ("level", .int (lv : Int))] (by wtm_at "sub")
        simpa [lvT] using this
      | succ n ih =>
        refine Fo.cons As.name ?_
        refine Xs.cut [("table", .ref a), ("level", .int (lv : Int)), ("step", .int s0), ("least", .int (leastF lv s0))] [(a, .list (acc.map pv2))] ?_ ?_
        · refine X1.ite (by wtm_at "tr") (fun hc => ?_) (fun hc => ?_)
          · have hc' : 0 < (lv : Int) ∧ s0 = 9 := by simpa using hc
            have e : leastF lv s0 = 456 * 35 ^ (lv - 1) := by
              unfold leastF; rw [if_pos hc']
              have : ((lv : Int) - 1).toNat = lv - 1 := by omega
              rw [this]
            rw [e]
            refine Xs.cons (X1.assign (Ev.bin (by wtm_at "ev") (Ev.bin (by wtm_at "ev") (by wtm_at "ev") (Op2.pow (m := lv - 1) (by omega) (by decide) (by omega))) (Op2.mul (by wtm_at "mul"))) (Xs.nil ⟨rfl, by wtm_at "sub", rfl⟩))
          · have hc' : ¬ (0 < (lv : Int) ∧ s0 = 9) := by
              intro q
              have : (decide ((0 : Int) < (lv : Int)) && decide (s0 = 9)) = true := by rw [decide_eq_true q.1, decide_eq_true q.2]; rfl
              rw [this] at hc; cases hc
            have e : leastF lv s0 = (38 * s0 + 35 - s0) / (36 - s0) * 35 ^ lv := by
              unfold leastF; rw [if_neg hc']
              have : ((lv : Int)).toNat = lv := by omega
              rw [this]
            rw [e]
            have q0 : 0 ≤ (38 * s0 + 35 - s0) / (36 - s0) := Int.ediv_nonneg (by omega) (by omega)
            have q1 : (38 * s0 + 35 - s0) / (36 - s0) < 2 ^ 30 := Int.ediv_lt_of_lt_mul (by omega) (by omega)
            refine Xs.cons (X1.assign (Ev.bin (Ev.bin (by wtm_at "ev") (by wtm_at "ev") (Op2.fdiv (by omega) (by omega))) (Ev.bin (by wtm_at "ev") (by wtm_at "ev") (Op2.pow (m := lv) (by omega) (by decide) rfl)) (Op2.mul (by wtm_at "mul"))) (Xs.nil ⟨rfl, by wtm_at "sub", rfl⟩))
        refine Xs.cons (X1.meth (μ₁ := []) (μ₂ := []) (a := a) (o := .list (acc.map pv2)) rfl (Es.cons (v := pv2 (36 * (lv : Int) + s0, leastF lv s0)) (by wtm_at "ev") Es.nil) (MethOk.list_append (by simp; omega)) PySem.F.plainAttrs_list PySem.F.slot_list_append PySem.F.type_list_append ?_)
        refine Xs.nil ?_
        have ea : acc.map pv2 ++ [pv2 (36 * (lv : Int) + s0, leastF lv s0)] = (acc ++ [(36 * (lv : Int) + s0, leastF lv s0)]).map pv2 := by simp
        rw [ea]
        refine Fo.sub (by wtm_at "sub") (ih (s0 + 1) (acc ++ [(36 * (lv : Int) + s0, leastF lv s0)]) (by omega) (by omega) (by simp; omega) ?_)
        intro σ' hσ
        have := hP σ' hσ
        rw [lvT, List.append_cons] at this
        exact this
    refine Fo.cons As.name (lev 0 1 33 [(0, 0)] _ _ _ (by omega) (by omega) (by omega) (by omega) (by simp) rfl rfl (by wtm_at "sub") fun σ1 h1 => ?_)
    refine Fo.sub h1 ?_
    refine Fo.cons As.name (lev 1 9 25 ([(0, 0)] ++ lvT 0 1 33) _ _ _ (by omega) (by omega) (by omega) (by omega) (by decide) rfl rfl (by wtm_at "sub") fun σ2 h2 => ?_)
    refine Fo.sub h2 ?_
    refine Fo.cons As.name (lev 2 9 25 ([(0, 0)] ++ lvT 0 1 33 ++ lvT 1 9 25) _ _ _ (by omega) (by omega) (by omega) (by omega) (by decide) rfl rfl (by wtm_at "sub") fun σ3 h3 => ?_)
    refine Fo.sub h3 ?_
    refine Fo.nil (Xs.nil ?_)
    refine Xs.freeze0 (x := ("table" : Str)) rfl ?_
    have et : [(0, 0)] ++ lvT 0 1 33 ++ lvT 1 9 25 ++ lvT 2 9 25 = tabT := by unfold tabT; simp
    rw [et]
    exact Xs.cons (X1.ret (by wtm_at "ev") rfl)
  · intro pm cd doc vals h
    match vals, h with
    | [], _ => rfl

theorem range2 : ∀ n : Nat, n < 64 → Builtin.Range.small 0 (n : Int) 2 = true ∧ Builtin.Range.rangeSize 0 (n : Int) 2 = (((n + 1) / 2 : Nat) : Int) := by decide +kernel
theorem adaptF_size {size count r : Int} (h0 : 0 ≤ r) (h1 : r < 700) : adaptF (700 * size + r) true count = adLoop (size + size / count) 0 := by
  unfold adaptF
  have : (700 * size + r) / 700 = size := by omega
  simp only [if_true, this]
theorem adaptF_size2 {size count r : Int} (h0 : 0 ≤ r) (h1 : r < 2) : adaptF (2 * size + r) false count = adLoop (size + size / count) 0 := by
  unfold adaptF
  have : (2 * size + r) / 2 = size := by omega
  simp only [Bool.false_eq_true, if_false, this]
def cntsF (acc : List Int) : List (Int × Int) → List Int
  | [] => acc
  | x :: xs => cntsF (acc ++ [x.2] ++ [x.2 + 1]) xs
theorem cntsF_mem : ∀ (xs : List (Int × Int)) (acc : List Int) (c : Int), c ∈ cntsF acc xs → c ∈ acc ∨ ∃ x ∈ xs, c = x.2 ∨ c = x.2 + 1
  | [], acc, c, h => .inl h
  | x :: xs, acc, c, h => by
    rcases cntsF_mem xs _ c h with h | ⟨y, hy, h⟩
    · rcases List.mem_append.mp h with h | h
      · rcases List.mem_append.mp h with h | h
        · exact .inl h
        · rw [List.mem_singleton] at h; exact .inr ⟨x, List.mem_cons_self, .inl h⟩
      · rw [List.mem_singleton] at h; exact .inr ⟨x, List.mem_cons_self, .inr h⟩
    · exact .inr ⟨y, List.mem_cons_of_mem _ hy, h⟩
theorem cntsF_length : ∀ (xs : List (Int × Int)) (acc : List Int), (cntsF acc xs).length = acc.length + 2 * xs.length
  | [], acc => by simp [cntsF]
  | x :: xs, acc => by rw [cntsF, cntsF_length xs]; simp; omega

set_option maxRecDepth 100000 in
set_option maxHeartbeats 4000000 in
include H in
theorem law_body {ns : List Int} (hn : ns.length ≤ 63) :
    Xs (G2 w B aA aB) 2 (fnAt pg 4).2.2 [("script", .lst (ns.map .int))] [] (fnAt pg 4).2.1 (fun fl _ _ => fl = .ret (.bool true)) := by
  have kA := H.dA.keep
  have kB := H.dB.keep
  obtain ⟨nums, hnums, hlen, hne⟩ : ∃ nums : List Int, nums = (if ns = [] then [20, 0] else ns) ∧ nums.length ≤ 63 ∧ 0 < nums.length := ⟨_, rfl, by split <;> first | (simp; done) | omega, by
    split
    · simp
    · rename_i h; exact List.length_pos_iff.mpr h⟩
  refine Xs.cut [("numbers", .lst (nums.map .int))] [] (X1.assign (v := .lst (nums.map .int)) (Ev.ifexp (c := !(ns.map PV.int).isEmpty) (Tr.val (by wtm_at "ev") (Truth.lst (xs := ns.map PV.int) (by simp; omega))) (fun hc => ?_) (fun hc => ?_)) ⟨rfl, by wtm_at "sub", rfl⟩) ?_
  · have : ns ≠ [] := by rintro rfl; simp at hc
    rw [if_neg this] at hnums; subst hnums
    refine Ev.call (by wtm_at "ev") KeepOk.type (by wtm_at "es") (CallOk.list_lst (by simp; omega))
  · have : ns = [] := by simpa using hc
    rw [if_pos this] at hnums; subst hnums
    show Ev _ _ _ _ _ _ (.lst [.int 20, .int 0])
    wtm_at "ev"
  refine Xs.cons (X1.assign (Ev.call (by wtm_at "ev") (by wtm_at "kp") Es.nil (CallOk.mono (table_ok H) (by decide))) ?_)
  have htl := tabT_length
  obtain ⟨r1, r2⟩ := range2 nums.length (by omega)
  refine Xs.cons (X1.for (p := .rng 0 ((nums.map PV.int).length : Int) 2) (by wtm_at "ev") (by rw [List.length_map]; exact IterOk.rng r1 ((nums.length + 1) / 2) r2) ?_)
  refine Fo.sub (σ' := [("numbers", .lst (nums.map .int)), ("table", .lst (tabT.map pv2))]) (by wtm_at "sub") ?_
  refine (?_ : ∀ (m i : Nat), 2 * (i + m) ≤ nums.length + 1 → Fo (G2 w B aA aB) 2 (fnAt pg 4).2.2 [("numbers", .lst (nums.map .int)), ("table", .lst (tabT.map pv2))] [] _ _ _ (rngItems ((2 * i : Nat) : Int) 2 m) _) ((nums.length + 1) / 2) 0 (by omega)
  intro m
  induction m with
  | zero =>
    intro i _
    refine Fo.nil (Xs.nil ?_)
    exact Xs.cons (X1.ret (by wtm_at "ev") rfl)
  | succ m ih =>
    intro i hi
    have hlt : 2 * i < nums.length := by omega
    refine Fo.cons As.name ?_
    have hx : (nums.map PV.int)[((2 * i : Nat) : Int).toNat]? = some (.int nums[2 * i]) := by rw [Int.toNat_natCast, List.getElem?_map, List.getElem?_eq_getElem hlt]; rfl
    generalize nums[2 * i] = x at hx
    have s0 : 0 ≤ (if x < 0 then -x else x) % 10 ^ 5 := Int.emod_nonneg _ (by decide)
    have s1 : (if x < 0 then -x else x) % 10 ^ 5 < 10 ^ 5 := Int.emod_lt_of_pos _ (by decide)
    refine Xs.cons (X1.assign (Ev.bin (Ev.call (by wtm_at "ev") (by wtm_at "kp") (Es.cons (Ev.sub (by wtm_at "ev") (by wtm_at "ev") (Op2.item (Int.natCast_nonneg _) hx (by simp; omega)) HasItem.lst) Es.nil) CallOk.abs) (Ev.bin (by wtm_at "ev") (by wtm_at "ev") (Op2.pow (m := 5) (by omega) (by decide) (by rfl))) (Op2.mod (by decide))) ?_)
    generalize (if x < 0 then -x else x) % 10 ^ 5 = size at s0 s1
    have hm0 : 0 ≤ (((2 * i : Nat) : Int) + 1) % ((nums.map PV.int).length : Int) := Int.emod_nonneg _ (by rw [List.length_map]; omega)
    have hm1 : (((2 * i : Nat) : Int) + 1) % ((nums.map PV.int).length : Int) < ((nums.map PV.int).length : Int) := Int.emod_lt_of_pos _ (by rw [List.length_map]; omega)
    obtain ⟨q, hq⟩ : ∃ q : Nat, (((2 * i : Nat) : Int) + 1) % ((nums.map PV.int).length : Int) = (q : Int) := ⟨_, (Int.toNat_of_nonneg hm0).symm⟩
    have hql : q < nums.length := by rw [hq, List.length_map] at hm1; omega
    have hy : (nums.map PV.int)[((((2 * i : Nat) : Int) + 1) % ((nums.map PV.int).length : Int)).toNat]? = some (.int nums[q]) := by rw [hq, Int.toNat_natCast, List.getElem?_map, List.getElem?_eq_getElem hql]; rfl
    generalize nums[q] = other at hy
    refine Xs.cons (X1.assign (Ev.sub (by wtm_at "ev") (Ev.bin (by wtm_at "ev") (by wtm_at "ev") (Op2.mod (by rw [List.length_map]; omega))) (Op2.item hm0 hy (by simp; omega)) HasItem.lst) ?_)
    refine Xs.cons (X1.assign (by wtm_at "ev") ?_)
    refine Xs.cons (X1.assign (by wtm_at "ev") ?_)
    generalize hfirst : decide (other % 2 = 1) = first
    obtain ⟨delta, d0, d1, hd⟩ : ∃ delta : Int, 0 ≤ delta ∧ delta = (if first then 700 * size + other / 2 % 700 else 2 * size + other / 2 % 2) ∧ ∀ count : Int, adaptF delta first count = adLoop (size + size / count) 0 := by
      refine ⟨_, ?_, rfl, fun count => ?_⟩
      · split <;> omega
      · cases first with
        | true => simp only [if_true]; exact adaptF_size (by omega) (by omega)
        | false => simp only [Bool.false_eq_true, if_false]; exact adaptF_size2 (by omega) (by omega)
    refine Xs.cut [("numbers", .lst (nums.map .int)), ("table", .lst (tabT.map pv2)), ("size", .int size), ("other", .int other), ("first", .bool first), ("delta", .int delta)] [] ?_ ?_
    · refine X1.ite (by wtm_at "tr") (fun hc => ?_) (fun hc => ?_)
      · rw [hc] at d1
        simp only [if_true] at d1
        refine Xs.cons (X1.assign (v := .int delta) (by rw [d1]; wtm_at "ev") (Xs.nil ⟨rfl, ?_, rfl⟩))
        wtm_at "sub"
      · rw [hc] at d1
        simp only [Bool.false_eq_true, if_false] at d1
        subst d1
        exact Xs.nil ⟨rfl, by wtm_at "sub", rfl⟩
    -- alone
    have hane := aloneL_ne size s0
    have hal := aloneL_length size
    refine Xs.cons (X1.assign (Ev.call (by wtm_at "ev") (by wtm_at "kp") (Es.cons (v := .lst ((aloneL size).map .int)) (EvN.ev ?_) Es.nil) (CallOk.maxL hane)) ?_)
    · have e : (aloneL size).map PV.int = (tabT.map fun x => if decide (x.2 ≤ size) then some (PV.int x.1) else none).filterMap id := by
        rw [filterMap_if]; unfold aloneL; rw [List.map_map]; rfl
      rw [e]
      refine EvN.comp (σf := [("size", .int size)]) (by wtm_at "ev") IterOk.lst ?_ (by simp; omega) (by wtm_at "sub")
      refine Paired.maps _ fun x hm => ?_
      exact Turn.if (b := decide (x.2 ≤ size)) (fun μ => As.tuple2 As.name As.name) (by wtm_at "sub") (fun μ => by wtm_at "tr") fun _ μ => by wtm_at "ev"
    have ha := maxZ_mem hane
    have hm : ∀ b ∈ aloneL size, b ≤ maxZ (aloneL size) := fun b hb => maxZ_ge hb
    generalize maxZ (aloneL size) = alone at ha hm
    -- lasts
    refine Xs.cons (X1.ownComp (σf := [("size", .int size)]) (rs := tabT.map fun x => if decide (size < x.2) && decide (x.2 ≤ 2 * size) then some (pv2 (x.1, size / (x.2 - size))) else none) (by wtm_at "ev") IterOk.lst ?_ (by simp; omega) (by wtm_at "sub") fun al _ => ?_)
    · refine Paired.maps _ fun x hm => ?_
      have hr := lastsT_least hm
      refine Turn.if (b := decide (size < x.2) && decide (x.2 ≤ 2 * size)) (fun μ => As.tuple2 As.name As.name) (by wtm_at "sub") (fun μ => Tr.cmp2 (by wtm_at "ev") (by wtm_at "ev") (by wtm_at "op") (fun _ => by wtm_at "ev") (fun _ => by wtm_at "op")) fun hc μ => ?_
      have hc' : size < x.2 ∧ x.2 ≤ 2 * size := by simpa using hc
      exact Ev.tuple (Es.cons (by wtm_at "ev") (Es.cons (Ev.bin (by wtm_at "ev") (by wtm_at "ev") (Op2.fdiv (by omega) (by omega))) Es.nil)) (by simp)
    have el : (tabT.map fun x => if decide (size < x.2) && decide (x.2 ≤ 2 * size) then some (pv2 (x.1, size / (x.2 - size))) else none).filterMap id = (lastsT size).map pv2 := by
      rw [filterMap_if]; unfold lastsT; rw [List.map_map]; rfl
    rw [el]
    refine Xs.freeze0 (x := ("lasts" : Str)) rfl ?_
    have hlr := lasts_range s0
    have hll := lasts_length size
    -- counts
    refine Xs.cons (X1.own (EvN.list (vs := [.int (1 + other / 2 % 50), .int (size + 1 + other % 9)]) (by wtm_at "es") (by simp)) fun ac _ => ?_)
    refine Xs.cut [("numbers", .lst (nums.map .int)), ("table", .lst (tabT.map pv2)), ("size", .int size), ("other", .int other), ("first", .bool first), ("delta", .int delta), ("alone", .int alone), ("lasts", .lst ((lastsT size).map pv2)), ("counts", .ref ac)] [(ac, .list ((cntsF [1 + other / 2 % 50, size + 1 + other % 9] (lastsT size)).map .int))] ?_ ?_
    · refine X1.for (by wtm_at "ev") IterOk.lst ?_
      refine Fo.sub (σ' := [("numbers", .lst (nums.map .int)), ("table", .lst (tabT.map pv2)), ("size", .int size), ("other", .int other), ("first", .bool first), ("delta", .int delta), ("alone", .int alone), ("lasts", .lst ((lastsT size).map pv2)), ("counts", .ref ac)]) (by wtm_at "sub") ?_
      generalize hC : cntsF [1 + other / 2 % 50, size + 1 + other % 9] (lastsT size) = CC
      refine (?_ : ∀ (xs : List (Int × Int)) (acc : List Int), acc.length + 2 * xs.length < 1000 → cntsF acc xs = CC →
        Fo (G2 w B aA aB) 2 (fnAt pg 4).2.2 [("numbers", .lst (nums.map .int)), ("table", .lst (tabT.map pv2)), ("size", .int size), ("other", .int other), ("first", .bool first), ("delta", .int delta), ("alone", .int alone), ("lasts", .lst ((lastsT size).map pv2)), ("counts", .ref ac)] [(ac, .list (acc.map .int))] _ _ _ (xs.map pv2) _) (lastsT size) [1 + other / 2 % 50, size + 1 + other % 9] (by simp; omega) hC
      intro xs
      induction xs with
      | nil =>
        intro acc _ he
        simp only [cntsF] at he
        subst he
        exact Fo.nil (Xs.nil ⟨rfl, by wtm_at "sub", rfl⟩)
      | cons y xs ihx =>
        intro acc hz he
        simp only [List.length_cons] at hz
        refine Fo.cons (As.tuple2 As.name As.name) ?_
        refine Xs.cons (X1.meth (μ₁ := []) (μ₂ := []) (a := ac) (o := .list (acc.map .int)) rfl (by wtm_at "es") (MethOk.list_append (by simp; omega)) PySem.F.plainAttrs_list PySem.F.slot_list_append PySem.F.type_list_append ?_)
        refine Xs.cons (X1.meth (μ₁ := []) (μ₂ := []) (a := ac) (o := .list (acc.map .int ++ [.int y.2])) rfl (by wtm_at "es") (MethOk.list_append (by simp; omega)) PySem.F.plainAttrs_list PySem.F.slot_list_append PySem.F.type_list_append ?_)
        refine Xs.nil ?_
        have ea : acc.map PV.int ++ [.int y.2] ++ [.int (y.2 + 1)] = (acc ++ [y.2] ++ [y.2 + 1]).map .int := by simp
        rw [ea]
        exact Fo.sub (by wtm_at "sub") (ihx (acc ++ [y.2] ++ [y.2 + 1]) (by simp; omega) he)
    have hcr : ∀ c ∈ cntsF [1 + other / 2 % 50, size + 1 + other % 9] (lastsT size), 0 < c ∧ c < 2 ^ 40 := by
      intro c hc
      rcases cntsF_mem _ _ c hc with h | ⟨y, hy, h⟩
      · simp only [List.mem_cons, List.not_mem_nil, or_false] at h
        rcases h with rfl | rfl <;> omega
      · have := hlr y hy
        rcases h with rfl | rfl <;> omega
    have hcl := cntsF_length (lastsT size) [1 + other / 2 % 50, size + 1 + other % 9]
    generalize cntsF [1 + other / 2 % 50, size + 1 + other % 9] (lastsT size) = CC at hcr hcl
    refine Xs.freeze0 (x := ("counts" : Str)) rfl ?_
    refine Xs.cons (X1.for (by wtm_at "ev") IterOk.lst ?_)
    refine Fo.sub (σ' := [("numbers", .lst (nums.map .int)), ("table", .lst (tabT.map pv2)), ("size", .int size), ("first", .bool first), ("delta", .int delta), ("alone", .int alone), ("lasts", .lst ((lastsT size).map pv2))]) (by wtm_at "sub") ?_
    clear hcl
    induction CC with
    | nil =>
      refine Fo.nil (Xs.nil (Xs.nil ?_))
      have e : ((2 * i : Nat) : Int) + 2 = ((2 * (i + 1) : Nat) : Int) := by omega
      rw [e]
      exact Fo.sub (by wtm_at "sub") (ih (i + 1) (by omega))
    | cons c CC ihc =>
      obtain ⟨c0, c1⟩ := hcr c List.mem_cons_self
      refine Fo.cons As.name ?_
      obtain ⟨du1, du2⟩ := due_is (count := c) s0 s1 c0 ha hm
      have hdue := maxZ_is du1 du2
      refine Xs.cons (X1.assign (Ev.call (by wtm_at "ev") (by wtm_at "kp") (Es.cons (v := .lst ((dueL alone size c).map .int)) ?_ Es.nil) (CallOk.maxL (by unfold dueL; simp))) ?_)
      · have e2 : (dueL alone size c).map PV.int = [PV.int alone] ++ (((lastsT size).filter fun x => decide (c ≤ x.2)).map (·.1)).map .int := by unfold dueL; simp
        rw [e2]
        refine Ev.bin (by wtm_at "ev") (EvN.ev ?_) (Op2.addL (by
          have := List.length_filter_le (fun x : Int × Int => decide (c ≤ x.2)) (lastsT size)
          simp only [List.length_map, List.length_cons, List.length_nil]; omega))
        have e : (((lastsT size).filter fun x => decide (c ≤ x.2)).map (·.1)).map PV.int = ((lastsT size).map fun x => if decide (c ≤ x.2) then some (PV.int x.1) else none).filterMap id := by
          rw [filterMap_if, List.map_map]; rfl
        rw [e]
        refine EvN.comp (σf := [("count", .int c)]) (by wtm_at "ev") IterOk.lst ?_ (by simp; omega) (by wtm_at "sub")
        refine Paired.maps _ fun x hm => ?_
        exact Turn.if (b := decide (c ≤ x.2)) (fun μ => As.tuple2 As.name As.name) (by wtm_at "sub") (fun μ => by wtm_at "tr") fun _ μ => by wtm_at "ev"
      rw [← hdue]
      refine Xs.cons (X1.ite (c := false) (Tr.cmp (Ev.call (by wtm_at "ev") (by wtm_at "kp") (by wtm_at "es") (CallOk.mono (adapt_ok H.dA d0 (by omega) (by omega)) (by decide))) (by wtm_at "ev") ?_) (fun hc => nomatch hc) (fun _ => Xs.nil ?_))
      · rw [hd c]
        have := Op2.ne (Γ := G2 w B aA aB) (a := adLoop (size + size / c) 0) (b := adLoop (size + size / c) 0)
        simpa using this
      refine Xs.nil ?_
      exact Fo.sub (by wtm_at "sub") (ihc fun d hd => hcr d (List.mem_cons_of_mem _ hd))
end
end Mine

namespace Mine
theorem law_ok {w : World} {B : Heap} {aA aB aW : Addr} (H : Has2 w B aA aB) (hW : DefAt (G2 w B aA aB) aW "law" (fnAt pg 4)) {ns : List Int} (hn : ns.length ≤ 63) :
    CallOk (G2 w B aA aB) 3 (.ref aW) [.lst (ns.map .int)] (.bool true) := by
  refine DefAt.callC hW (law_body H hn) ?_
  intro pm cd doc vals h
  match vals, h with
  | [x], _ => rfl

def tokOf (o : Option (Option Value)) : Tok := match o with | some (some (.bytes _ t)) => t | _ => 0
theorem GlOk.topBytes {p : Program} {loose : List Str} {mean : ExcName → Option Value} {mg mb : Str → Option Value} {B : Heap} (T : Top p loose mean mg mb B) {K : Frag} (X : K.In B) {x : Str} {l : List UInt8}
    (e : nsIn K mainGlobals x = some (some (.bytes l.toArray (tokOf (nsIn K mainGlobals x))))) : ∃ v', GloV B x v' ∧ ∀ D h, V D h (.bytes l) v' := GlOk.bytes (GloV.top T X e)
theorem GlOk.bi1 {p : Program} {loose : List Str} {mean : ExcName → Option Value} {mg mb : Str → Option Value} {B : Heap} (T : Top p loose mean mg mb B) {K : Frag} (X : K.In B) {x : Str} {v : Value} (e : nsIn K mainGlobals x = some none) (hv : bootBuiltins x = some v) (hn : x ≠ "__name__") :
    ∃ v', GloV B x v' ∧ ∀ D h, V D h (.obj v) v' := GlOk.one (GloV.bi T X e hv hn)
set_option maxRecDepth 100000 in
set_option maxHeartbeats 8000000 in
theorem holds02 : PySem.Challenge.rw_dm0101_02.Holds := by
  w_on
  o_law
  k_head
  (case hw => w_witness2)
  k_fill
  intro w s₀ s₁ mg mb G Y fa o pm cd doc dV kV ho hd hcd hD hmg hg args vals as hpre hlay hrd hwl hlo
  have KX := kIn_of Y
  refine Ground.open G ?_
  intro T B D TE TW
  wrow_args hpre hlay hrd hwl hlo
  rename_i ns hs hlay0 hL1 hr1 hl2 w4 w3 l vs w0 hL ra w1 r0 hI hr hcond1 hcond
  obtain ⟨aA, eaA, daA⟩ := DefAt.of T 0 1 "adapt" PySem.Challenge.pw_dm0101_02 (by kernel_rfl)
  obtain ⟨aB, eaB, daB⟩ := DefAt.of T 1 3 "_law_table" PySem.Challenge.pw_dm0101_02 (by kernel_rfl)
  obtain ⟨aW, eW, dW⟩ := DefAt.of T 2 4 "law" PySem.Challenge.pw_dm0101_02 (by kernel_rfl)
  have efa : fa = aW := by have := hmg.symm.trans eW; cases this; rfl
  subst efa
  refine law_called (Γ := G2 w s₁.heap aA aB) (k := 3) (ns := ns) ⟨?_, T.nolimit⟩ rfl (by decide) hL hI (law_ok ⟨daA _ rfl, daB _ rfl⟩ (dW _ rfl) (by omega)) ?_
  · refine GlOk.to ⟨GlOk.one (GloV.fn T eaA), GlOk.one (GloV.fn T eaB), GlOk.bi1 T KX (by k_is) (by boot_by_name) (by decide), GlOk.bi1 T KX (by k_is) (by boot_by_name) (by decide), GlOk.bi1 T KX (by k_is) (by boot_by_name) (by decide), GlOk.bi1 T KX (by k_is) (by boot_by_name) (by decide), GlOk.bi1 T KX (by k_is) (by boot_by_name) (by decide), trivial⟩
  · intro s' hk hgens hos
    refine GoodW.toG ⟨.inl ⟨_, _, [], rfl, fun cls => rfl, .bool true, postW_of rfl (w_eq_bool (w_res rfl) w_lit) rfl, unshared_nil⟩, hk, hos, hgens.trans hg⟩
end Mine
theorem PySem.Challenge.cw_dm0101_02_holds : PySem.Challenge.rw_dm0101_02.Holds :=
  Mine.holds02
