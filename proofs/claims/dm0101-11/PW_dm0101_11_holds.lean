import PyProof.Rows.All
import Wide.All
import OpenK.AllK
import Wide.FinOn
import PySem.Challenge.RW_dm0101_11
open PySem PySem.W PyProof.Rows PySem.Calls
set_option Elab.async false
set_option linter.all false

namespace Mine
open Sem (wp)

/-! ## the logic, over contexts where no decoder holds a buffer
A bytearray's resize looks at the whole stack for a decoder that holds it; wpAny says nothing of the built-ins on the stack.
So: the same as wpAny and codeAny, but over the contexts whose codes are no such decoders. -/

def QuietC (c : Code) : Bool := match c with
  | .builtin id _ => !Builtin.Bytes.decodersThatHold.contains id
  | _ => true
def GoodB (Γ : Ctx) : Prop := ∀ x ∈ Γ.below, QuietC x.1 = true
def GoodC (Γ : Ctx) : Prop := QuietC Γ.code = true ∧ GoodB Γ

def wpR {α : Type} (M : Model) (A : Around) (t : Sem α) (Q : α → Shared → Prop) (E : Value → Shared → Prop) (s : Shared) : Prop :=
  ∀ Γ p, Γ.In A → GoodC Γ → wp M Γ t (fun a _ s' => Q a s') (fun e _ s' => E e s') p s
def codeR (M : Model) (A : Around) (c : Code) (R : Result → Shared → Prop) (s : Shared) : Prop :=
  ∀ Γ p, Γ.code = c → Γ.Below A → GoodB Γ → wpCode M Γ R p s

section
variable {α β : Type} {M : Model} {A : Around} {E : Value → Shared → Prop} {s : Shared}

theorem toR {t : Sem α} {Q : α → Shared → Prop} (h : wpAny M A t Q E s) : wpR M A t Q E s := fun Γ p hΓ _ => h Γ p hΓ
theorem codeToR {c : Code} {R : Result → Shared → Prop} (h : codeAny M A c R s) : codeR M A c R s := fun Γ p hc hΓ _ => h Γ p hc hΓ

theorem wpR_pure {a : α} {Q : α → Shared → Prop} (h : Q a s) : wpR M A (pure a) Q E s := fun _ _ _ _ => h
theorem wpR_mono {t : Sem α} {Q Q' : α → Shared → Prop} {E' : Value → Shared → Prop} (h : wpR M A t Q E s)
    (hQ : ∀ a s, Q a s → Q' a s) (hE : ∀ e s, E e s → E' e s) : wpR M A t Q' E' s :=
  fun Γ p hΓ hg => Sem.wp_mono M Γ t (fun a _ s => hQ a s) (fun e _ s => hE e s) p s (h Γ p hΓ hg)
theorem wpR_bind {m : Sem α} {f : α → Sem β} {Q : β → Shared → Prop} (h : wpR M A m (fun a s' => wpR M A (f a) Q E s') E s) : wpR M A (m >>= f) Q E s := fun Γ p hΓ hg => by
  rw [Sem.wp_bind']
  exact Sem.wp_mono M Γ m (fun a p' s' h' => h' Γ p' hΓ hg) (fun _ _ _ h' => h') p s (h Γ p hΓ hg)
theorem wpR_onRaise {m : Sem α} {k : Value → Sem Unit} {Q : α → Shared → Prop}
    (h : wpR M A m Q (fun e s' => wpR M A (k e) (fun _ s'' => E e s'') E s') s) : wpR M A (m.onRaise k) Q E s := fun Γ p hΓ hg => by
  rw [Sem.wp_onRaise]
  exact Sem.wp_mono M Γ m (fun _ _ _ h' => h') (fun e p' s' h' => h' Γ p' hΓ hg) p s (h Γ p hΓ hg)
theorem wpR_attempt {m : Sem α} {Q : Except Value α → Shared → Prop} (h : wpR M A m (fun a => Q (.ok a)) (fun e => Q (.error e)) s) :
    wpR M A m.attempt Q E s := fun Γ p hΓ hg => by rw [Sem.wp_attempt]; exact h Γ p hΓ hg
theorem wpR_holding {vs : List Value} {m : Sem α} {Q : α → Shared → Prop} (h : wpR M A m Q E s) : wpR M A (holding vs m) Q E s :=
  fun Γ p hΓ hg => by rw [Sem.wp_holding]; exact h Γ p hΓ hg
theorem wpR_operate {vs : List Value} {m : Sem Value} {Q : Value → Shared → Prop} (h : wpR M A m Q E s) : wpR M A (operate vs m) Q E s :=
  fun Γ p hΓ hg => by rw [Sem.wp_operate]; exact h Γ p hΓ hg
theorem wpR_of_eq {t : Sem α} {a : α} {Q : α → Shared → Prop} (e : t = pure a) (h : Q a s) : wpR M A t Q E s := by rw [e]; exact wpR_pure h
theorem wpR_standAt {pos : Pos} {Q : Unit → Shared → Prop} (h : Q () s) : wpR M A (standAt pos) Q E s := fun _ _ _ _ => h
theorem wpR_rule {tag : String} {Q : Unit → Shared → Prop} (h : Q () s) : wpR M A (rule tag) Q E s := fun _ _ _ _ => h
theorem wpR_point {Q : Unit → Shared → Prop} (h : Q () s) : wpR M A point Q E s := fun _ _ _ _ => h
theorem wpR_release {vs keep : List Value} {Q : Unit → Shared → Prop} (h : Q () s) : wpR M A (release vs keep) Q E s := toR (wpAny_release' h)
theorem wpR_keep {vs : List Value} {m : Sem α} {Q : α → Shared → Prop} (h : wpR M A m Q E s) : wpR M A (m.keep vs) Q E s :=
  fun Γ p hΓ hg => by rw [Sem.wp_keep]; exact h Γ p hΓ hg
theorem GoodC.enter {Γ : Ctx} (hg : GoodC Γ) (c : Code) (h : Option Value) (p : Pos) : GoodB (Γ.enter c h p) := by
  intro x hx
  rcases List.mem_cons.mp hx with rfl | hx
  · exact hg.1
  · exact hg.2 x hx

theorem wpR_run {c : Code} {h : Option Value} {Q : Flow → Shared → Prop}
    (hc : codeR M (A.mark h) c (fun r s' => match r with | .ok f => Q f s' | .error e => E e s') s) (hnb : h ≠ some byPass := by intro x; cases x) : wpR M A (run c h) Q E s :=
  fun Γ p hΓ hg => by rw [Sem.wp_run]; exact hc _ p rfl (hΓ.enter c h p hnb) (hg.enter c h p)
theorem wpR_runValue {c : Code} {Q : Value → Shared → Prop}
    (hc : codeR M A c (fun r s' => match r with | .ok (.ret v) => Q v s' | .ok _ => False | .error e => E e s') s) : wpR M A (runValue c) Q E s :=
  fun Γ p hΓ hg => by rw [Sem.wp_runValue]; exact hc _ p rfl (hΓ.enter c none p (by intro x; cases x)) (hg.enter c none p)
theorem wpR_call {f : Value} {pos : List Value} {kw : List (Str × Value)} {Q : Value → Shared → Prop}
    (hc : codeR M A (.call f ⟨pos, kw⟩) (fun r s' => match r with | .ok (.ret v) => Q v s' | .ok _ => False | .error e => E e s') s) : wpR M A (call f pos kw) Q E s := wpR_runValue hc

theorem codeR_of_tree {c : Code} {R : Result → Shared → Prop} (hq : QuietC c = true)
    (h : wpR M (A.under c) (M.den c) (fun fin s' => match fin with | .done f => R (.ok f) s' | .again c' => c'.quiet = true ∧ codeR M A c' R s') (fun e s' => R (.error e) s') s) : codeR M A c R s := fun Γ p hc hΓ hg => by
  rw [wpCode_iff_wp, hc]
  refine Sem.wp_mono M Γ _ (fun fin p' s' h' => ?_) (fun _ _ _ h' => h') p s (h Γ p (hc ▸ hΓ.in) ⟨hc ▸ hq, hg⟩)
  cases fin with
  | done f => exact h'
  | again c' => exact ⟨h'.1, h'.2 (Γ.goto c') p' rfl (hΓ.goto c') hg⟩
theorem codeR_mono {c : Code} {R R' : Result → Shared → Prop} (h : codeR M A c R s) (hR : ∀ r s, R r s → R' r s) : codeR M A c R' s :=
  fun Γ p hc hΓ hg => wpCode_mono hR (h Γ p hc hΓ hg)

/-- what a resize asks -/
theorem wpR_exported {v : Value} {g : List Code} {Q : Bool → Shared → Prop} (hg : A.guards = some g) (hno : g = []) (h : Q false s) : wpR M A (Builtin.Bytes.exported v) Q E s := by
  intro Γ p hΓ hgood
  show Q (((Γ.code, p) :: Γ.below).any _) s
  have hgs : guardsOf ((Γ.code, p) :: Γ.below) = [] := by rw [guardsOf_cons]; exact (hΓ.2.2.2.1 g hg).trans hno
  have key : ∀ l : List (Code × Pos), guardsOf l = [] → (∀ x ∈ l, QuietC x.1 = true) → (l.any fun
    | (.builtin "bytearray.__contains__" ⟨v' :: _, _⟩, _) | (.builtin "bytearray.__mod__" ⟨v' :: _, _⟩, _)
    | (.builtin "bytearray.__rmod__" ⟨_ :: v' :: _, _⟩, _) | (.builtin "_struct.pack_into.held" ⟨v' :: _, _⟩, _) => Builtin.Bytes.sameRef v' v
    | (.builtin "bytearray.find.held" ⟨_ :: _ :: held, _⟩, _) => held.any (Builtin.Bytes.sameRef v)
    | (.builtin id ⟨v' :: _, _⟩, _) => Builtin.Bytes.sameRef v' v && Builtin.Bytes.decodersThatHold.contains id
    | _ => false) = false := by
    intro l
    induction l with
    | nil => intro _ _; rfl
    | cons x l ih =>
      intro hl hq
      obtain ⟨c, q⟩ := x
      rw [guardsOf_cons, List.append_eq_nil_iff] at hl
      have hng : c.isGuard = false := by
        cases hcg : c.isGuard with
        | false => rfl
        | true => have := hl.1; simp [Code.guards, hcg] at this
      have hqc := hq (c, q) (.head _)
      rw [List.any_cons, ih hl.2 fun x hx => hq x (.tail _ hx), Bool.or_false]
      split
      · rename_i heq; cases heq; exact absurd hng (by simp [Code.isGuard, guardIds])
      · rename_i heq; cases heq; exact absurd hng (by simp [Code.isGuard, guardIds])
      · rename_i heq; cases heq; exact absurd hng (by simp [Code.isGuard, guardIds])
      · rename_i heq; cases heq; exact absurd hng (by simp [Code.isGuard, guardIds])
      · rename_i heq; cases heq; exact absurd hng (by simp [Code.isGuard, guardIds])
      · rename_i id v' _ _ _ _ _ _ _ _ heq
        cases heq
        simp only [QuietC, Bool.not_eq_true'] at hqc
        rw [hqc, Bool.and_false]
      · rfl
  have := key ((Γ.code, p) :: Γ.below) hgs (fun x hx => by
    rcases List.mem_cons.mp hx with rfl | hx
    · exact hgood.1
    · exact hgood.2 x hx)
  exact Eq.mpr (congrArg (fun b => Q b s) this) h
end

/-! ### the compound rules -/
section
variable {M : Model} {A : Around} {E : Value → Shared → Prop} {s : Shared} {env : Env}

theorem wpR_BinOp {l op r pos} {Q : Value → Shared → Prop}
    (h : wpR M A (eval l env) (fun a s₁ => wpR M A (eval r env) (fun b s₂ => wpR M A (binaryOp op a b) Q E s₂) E s₁) E s) : wpR M A (eval (.BinOp l op r pos) env) Q E s := by
  rw [eval_BinOp]
  exact wpR_bind (wpR_mono h (fun a s₁ h₁ => wpR_bind (wpR_holding (wpR_mono h₁ (fun b s₂ h₂ => wpR_bind (wpR_standAt (wpR_operate h₂))) fun _ _ e => e))) fun _ _ e => e)
theorem wpR_Compare1 {l op r pos} {Q : Value → Shared → Prop}
    (h : wpR M A (eval l env) (fun a s₁ => wpR M A (eval r env) (fun b s₂ => wpR M A (compareOp op a b) Q E s₂) E s₁) E s) (hm : behindInMarks op r = false) : wpR M A (eval (.Compare l [op] [r] pos) env) Q E s := by
  rw [eval_Compare1, markedBehindIn_of_false hm]
  exact wpR_bind (wpR_mono h (fun a s₁ h₁ => wpR_bind (wpR_holding (wpR_mono h₁ (fun b s₂ h₂ => wpR_bind (wpR_standAt (wpR_operate h₂))) fun _ _ e => e))) fun _ _ e => e)
theorem wpR_isTrue_Compare1 {l op r pos whole} {Q : Bool → Shared → Prop}
    (h : wpR M A (eval l env) (fun a s₁ => wpR M A (eval r env) (fun b s₂ => wpR M A (compareOp op a b) (fun c s₃ => wpR M A (truthy c) Q E s₃) E s₂) E s₁) E s)
    (hm : behindInMarks op r = false) : wpR M A (isTrue (.Compare l [op] [r] pos) env whole) Q E s := by
  rw [isTrue_Compare1, markedBehindIn_of_false hm]
  exact wpR_bind (wpR_mono h (fun a s₁ h₁ => wpR_bind (wpR_holding (wpR_mono h₁ (fun b s₂ h₂ => wpR_bind (wpR_standAt (wpR_bind (wpR_operate (wpR_mono h₂ (fun c s₃ h₃ => wpR_holding h₃) fun _ _ e => e))))) fun _ _ e => e))) fun _ _ e => e)
theorem wpR_isTrue_value {e : Expr} {whole : Sem Value} {Q : Bool → Shared → Prop} (h : wpR M A whole (fun v s₁ => wpR M A (truthy v) Q E s₁) E s)
    (he : isTrue e env whole = (do let v ← whole; standAt e.pos; holding [v] (truthy v))) : wpR M A (isTrue e env whole) Q E s := by
  rw [he]
  exact wpR_bind (wpR_mono h (fun v s₁ h₁ => wpR_bind (wpR_standAt (wpR_holding h₁))) fun _ _ x => x)
theorem wpR_isTrue_BoolOp {op : BoolOp} {values : List Expr} {pos : Pos} {whole : Sem Value} {Q : Bool → Shared → Prop} (h : wpR M A (allTrue op values env) Q E s) : wpR M A (isTrue (.BoolOp op values pos) env whole) Q E s := by
  rw [arm_isTrue_BoolOp]; exact h
theorem wpR_allTrue_And_cons {x : Expr} {rest : List Expr} {Q : Bool → Shared → Prop}
    (h : wpR M A (isTrue x env (eval x env)) (fun b s₁ => if b then wpR M A (allTrue .And rest env) Q E s₁ else Q false s₁) E s) : wpR M A (allTrue .And (x :: rest) env) Q E s := by
  show wpR M A (do match BoolOp.And, ← isTrue x env (eval x env) with | .And, false => pure false | .Or, true => pure true | _, _ => allTrue .And rest env) Q E s
  refine wpR_bind (wpR_mono h (fun b s₁ h₁ => ?_) fun _ _ x => x)
  cases b
  · exact wpR_pure h₁
  · exact h₁
theorem wpR_allTrue_And_nil {Q : Bool → Shared → Prop} (h : Q true s) : wpR M A (allTrue .And [] env) Q E s := wpR_pure h
theorem wpR_UnaryOp {op : UnaryOp} {x : Expr} {pos : Pos} {Q : Value → Shared → Prop} (h : wpR M A (eval x env) (fun v s₁ => wpR M A (unaryOp op v) Q E s₁) E s) : wpR M A (eval (.UnaryOp op x pos) env) Q E s := by
  rw [arm_eval_UnaryOp]
  exact wpR_bind (wpR_mono h (fun v s₁ h₁ => wpR_bind (wpR_standAt (wpR_holding h₁))) fun _ _ x => x)
theorem wpR_items_cons {pos : Pos} {e : Expr} {rest : List Expr} {Q : List Value → Shared → Prop}
    (h : wpR M A (eval e env) (fun v s₁ => wpR M A (spliced (backTo pos (starEach rest env))) (fun vs s₂ => Q (v :: vs) s₂) E s₁) E s)
    (he : starEach (e :: rest) env = (false, eval e env) :: starEach rest env) : wpR M A (spliced (backTo pos (starEach (e :: rest) env))) Q E s := by
  rw [he]
  show wpR M A (do
    let v ← eval e env
    let here ← (pure [v] : Sem (List Value))
    return here ++ (← holding here (spliced (backTo pos (starEach rest env))))) Q E s
  exact wpR_bind (wpR_mono h (fun v s₁ h₁ => wpR_bind (wpR_pure (wpR_bind (wpR_holding (wpR_mono h₁ (fun vs s₂ h₂ => wpR_pure h₂) fun _ _ x => x))))) fun _ _ x => x)
theorem wpR_Tuple {elts : List Expr} {k : Nat} {pos : Pos} {Q : Value → Shared → Prop}
    (h : wpR M A (spliced (backTo pos (starEach elts env))) (fun vs s₁ => vs.length ≤ sizeLine ∧ Q (.ref s₁.heap.objs.size) { s₁ with heap := s₁.heap.push { cls := .type "tuple", data := .seq vs.toArray } }) E s) : wpR M A (eval (.Tuple elts k pos) env) Q E s := by
  rw [arm_eval_Tuple]
  exact wpR_bind (wpR_standAt (wpR_bind (wpR_mono h (fun vs s₁ h₁ => toR (wpAny_newObj_type h₁.2 (by show vs.toArray.size ≤ sizeLine; rw [List.size_toArray]; exact h₁.1))) fun _ _ x => x)))
theorem wpR_List {elts : List Expr} {pos : Pos} {Q : Value → Shared → Prop}
    (h : wpR M A (spliced (backTo pos (starEach elts env))) (fun vs s₁ => vs.length ≤ sizeLine ∧ Q (.ref s₁.heap.objs.size) { s₁ with heap := s₁.heap.push { cls := .type "list", data := .seq vs.toArray } }) E s) : wpR M A (eval (.List elts pos) env) Q E s := by
  rw [arm_eval_List]
  exact wpR_bind (wpR_standAt (wpR_bind (wpR_mono h (fun vs s₁ h₁ => toR (wpAny_newObj_type h₁.2 (by show vs.toArray.size ≤ sizeLine; rw [List.size_toArray]; exact h₁.1))) fun _ _ x => x)))
theorem wpR_CallName {id : Str} {p pos : Pos} {args : List Expr} {Q : Value → Shared → Prop}
    (h : wpR M A (eval (.Name id p) env) (fun f s₁ => wpR M A (callWith pos f [] (backTo pos (starEach args env)) []) Q E s₁) E s) : wpR M A (eval (.Call (.Name id p) args [] pos) env) Q E s := by
  show wpR M A (do callWith pos (← eval (.Name id p) env) [] (backTo pos (starEach args env)) (backToKw pos (keywordEach [] env))) Q E s
  exact wpR_bind h
theorem wpR_callWith {P : Heap → Prop} {pos : Pos} {f : Value} {first : List Value} {args : List (Bool × Sem Value)} {Q : Value → Shared → Prop} (hplain : args.any (·.1) = false)
    (hk : ∀ h, P h → ∃ k, (k = Keeper.frame ∨ k = Keeper.machine ∨ k = Keeper.boundFrame) ∧ Looks M h (keeperOf f) k)
    (h : wpR M A (evalArgs f true args []) (fun a s₁ => P s₁.heap ∧ wpR M A (call f (first ++ a.pos) a.kw) Q E s₁) E s) : wpR M A (callWith pos f first args []) Q E s := by
  unfold callWith
  refine wpR_bind (wpR_holding (wpR_mono h (fun a s₁ h₁ => wpR_bind (wpR_standAt ?_)) fun _ _ x => x))
  obtain ⟨k, hk', L⟩ := hk _ h₁.1
  simp only [hplain, List.any_nil, Bool.or_false]
  refine wpR_bind (toR (L.here ?_))
  have tail : ∀ {t : Sem Value}, wpR M A t Q E s₁ → wpR M A (t >>= fun r => holding [r] point >>= fun _ => pure r) Q E s₁ :=
    fun ht => wpR_bind (wpR_mono ht (fun r s₂ hr => wpR_bind (wpR_holding (wpR_point (wpR_pure hr)))) fun _ _ x => x)
  have marked (mk : Value) : wpR M A (callMarked mk f (first ++ a.pos) a.kw) Q E s₁ := by unfold callMarked; exact wpR_keep h₁.2
  rcases hk' with rfl | rfl | rfl <;> dsimp only <;> first | exact tail h₁.2 | (split <;> first | exact tail h₁.2 | exact tail (marked _))
theorem wpR_evalArgs {f : Value} {es : List Expr} {pos : Pos} {Q : Args → Shared → Prop} (hp : es.any isStarred = false)
    (h : wpR M A (spliced (backTo pos (starEach es env))) (fun vs s' => Q ⟨vs, []⟩ s') E s) : wpR M A (evalArgs f true (backTo pos (starEach es env)) []) Q E s := by
  cases es with
  | nil =>
    unfold evalArgs
    show wpR M A (spliced [] >>= _) Q E s
    refine wpR_bind (wpR_mono h (fun vs s' h' => ?_) fun _ _ x => x)
    refine wpR_bind (wpR_pure ?_)
    refine wpR_holding ?_
    exact wpR_bind (wpR_pure (wpR_bind (wpR_pure (wpR_pure h'))))
  | cons e es =>
    rw [List.any_cons, Bool.or_eq_false_iff] at hp
    have he := hp.1
    have key : ∀ (x : Sem Value) (rest : List (Bool × Sem Value)), wpR M A (spliced ((false, x) :: rest)) (fun vs s' => Q ⟨vs, []⟩ s') E s → wpR M A (evalArgs f true ((false, x) :: rest) []) Q E s := by
      intro x rest h
      unfold evalArgs
      show wpR M A (spliced ((false, x) :: rest) >>= _) Q E s
      refine wpR_bind (wpR_mono h (fun vs s' h' => ?_) fun _ _ x => x)
      refine wpR_holding ?_
      exact wpR_bind (wpR_pure (wpR_bind (wpR_pure (wpR_pure h'))))
    cases e with
    | Starred v p => cases he
    | _ => exact key _ _ h
theorem wpR_Subscript {value slice pos} {Q : Value → Shared → Prop}
    (h : wpR M A (eval value env) (fun o s₁ => wpR M A (eval slice env) (fun i s₂ => wpR M A (subscriptTail value slice o i) Q E s₂) E s₁) E s) : wpR M A (eval (.Subscript value slice pos) env) Q E s := by
  rw [eval_Subscript]
  exact wpR_bind (wpR_mono h (fun o s₁ h₁ => wpR_bind (wpR_holding (wpR_mono h₁ (fun i s₂ h₂ => wpR_bind (wpR_standAt h₂)) fun _ _ x => x))) fun _ _ x => x)
theorem wpR_Slice {lower upper step : Option Expr} {p : Pos} {Q : Value → Shared → Prop}
    (h : wpR M A (evalPart lower env) (fun l s₁ => wpR M A (evalPart upper env) (fun u s₂ => wpR M A (evalPart step env) (fun st s₃ =>
      Q (.ref s₃.heap.objs.size) { s₃ with heap := s₃.heap.push { cls := .type "slice", data := .fields #[l, u, st] } }) E s₂) E s₁) E s) : wpR M A (eval (.Slice lower upper step p) env) Q E s := by
  rw [arm_eval_Slice]
  refine wpR_bind (wpR_mono h (fun l s₁ h₁ => wpR_bind (wpR_holding (wpR_mono h₁ (fun u s₂ h₂ => wpR_bind (wpR_holding (wpR_mono h₂ (fun st s₃ h₃ => ?_) fun _ _ x => x))) fun _ _ x => x))) fun _ _ x => x)
  exact toR (wpAny_newObj_type h₃)

theorem wpR_execs_nil {Q : Flow → Shared → Prop} (h : Q .next s) : wpR M A (execs [] env) Q E s := fun _ _ _ _ => h
theorem wpR_execs_cons {st rest} {Q : Flow → Shared → Prop}
    (h : wpR M A (exec st env) (fun f s' => match f with | .next => wpR M A (execs rest env) Q E s' | f => Q f s') E s) : wpR M A (execs (st :: rest) env) Q E s := by
  rw [execs_cons]
  refine wpR_bind (wpR_mono h (fun f s' h' => ?_) fun _ _ e => e)
  cases f <;> first | exact h' | exact wpR_pure h'
theorem wpR_bindName {x : Str} {v : Value} {Q : Unit → Shared → Prop} (h : wpR M A (storeName env x v) Q E s) : wpR M A (bindName env x v) Q E s :=
  fun Γ p hΓ hg => by rw [Sem.wp_bindName]; exact h Γ p hΓ hg
theorem wpR_Assign_Name {x pos' value pos} {Q : Flow → Shared → Prop}
    (h : wpR M A (eval value env) (fun v s₁ => wpR M A (storeName env x v) (fun _ => Q .next) E s₁) E s)
    (hs : swapsWith value (some (.Name x pos')) pos.line env = pure false) : wpR M A (exec (.Assign [.Name x pos'] value pos) env) Q E s := by
  rw [exec_Assign_Name env x pos' value pos hs]
  exact wpR_bind (wpR_standAt (wpR_bind (wpR_mono h (fun v s₁ h₁ => wpR_bind (wpR_standAt (wpR_bind (wpR_bindName (wpR_mono h₁ (fun _ s₂ h₂ => wpR_pure h₂) fun _ _ e => e))))) fun _ _ e => e)))
theorem wpR_AugAssign_Name {x pos' op value pos} {Q : Flow → Shared → Prop}
    (h : wpR M A (loadName env x) (fun old s₁ => wpR M A (eval value env) (fun v s₂ => wpR M A (inplaceOp op old v)
      (fun r s₃ => wpR M A (storeName env x r) (fun _ => Q .next) E s₃) E s₂) E s₁) E s) : wpR M A (exec (.AugAssign (.Name x pos') op value pos) env) Q E s := by
  rw [exec_AugAssign_Name]
  exact wpR_bind (wpR_standAt (wpR_bind (wpR_mono h (fun old s₁ h₁ => wpR_bind (wpR_holding (wpR_mono h₁ (fun v s₂ h₂ => wpR_bind (wpR_standAt (wpR_bind (wpR_operate (wpR_mono h₂ (fun r s₃ h₃ =>
    wpR_bind (wpR_standAt (wpR_bind (wpR_bindName (wpR_mono h₃ (fun _ s₄ h₄ => wpR_pure h₄) fun _ _ e => e))))) fun _ _ e => e))))) fun _ _ e => e))) fun _ _ e => e)))
theorem wpR_If {test body orelse pos} {Q : Flow → Shared → Prop}
    (h : wpR M A (isTrue test env (eval test env)) (fun b s₂ => if b then wpR M A (execs body env) Q E s₂ else wpR M A (execs orelse env) Q E s₂) E s) : wpR M A (exec (.If test body orelse pos) env) Q E s := by
  rw [exec_If]
  refine wpR_bind (wpR_standAt (wpR_bind (wpR_mono h (fun b s₂ h₂ => ?_) fun _ _ e => e)))
  cases b <;> exact h₂
theorem wpR_Return_some {e pos} {Q : Flow → Shared → Prop} (h : wpR M A (eval e env) (fun v => Q (.ret v)) E s) : wpR M A (exec (.Return (some e) pos) env) Q E s := by
  rw [exec_Return_some]
  exact wpR_bind (wpR_standAt (wpR_bind (wpR_mono h (fun v s₁ h₁ => wpR_pure h₁) fun _ _ e => e)))

/-- what comes back out of a block of the frame's own, raised (nothing here raises through it: E is free) -/
def backBy (M : Model) (A : Around) (env : Env) (E : Value → Shared → Prop) : Value → Shared → Prop :=
  fun x s' => wpR M A (do
    if (← field x 1) == .none then unsupported "frame.own-activation:exception-without-traceback"
    setFlight x env.frame) (fun _ s'' => E x s'') E s'
theorem wpR_runOwn {c : Code} {h : Option Value} {Q : Flow → Shared → Prop}
    (hc : codeR M (A.mark h) c (fun r s' => match r with | .ok f => Q f s' | .error e => backBy M A env E e s') s) (hnb : h ≠ some byPass := by intro x; cases x) : wpR M A (runOwn c env h) Q E s := by
  unfold runOwn
  exact wpR_onRaise (wpR_run hc hnb)
theorem wpR_While {test body orelse pos} {Q : Flow → Shared → Prop}
    (h : codeR M A (.whileLoop test body orelse env) (fun r s' => match r with | .ok f => Q f s' | .error e => backBy M A env E e s') s) : wpR M A (exec (.While test body orelse pos) env) Q E s := by
  rw [exec_While]; exact wpR_bind (wpR_standAt (wpR_runOwn h))
theorem wpR_For {target iter body orelse pos} {Q : Flow → Shared → Prop}
    (h : wpR M A (eval iter env) (fun x s₁ => wpR M A (pyIter x) (fun it s₂ =>
      codeR M A (.forLoop target it body orelse env) (fun r s' => match r with | .ok f => Q f s' | .error e => backBy M A env E e s') s₂) E s₁) E s)
    (hs : ∀ x, foldedSetIterable iter env x = pure x) : wpR M A (exec (.For target iter body orelse pos) env) Q E s := by
  rw [exec_For]
  exact wpR_bind (wpR_standAt (wpR_bind (wpR_mono h (fun x s₁ h₁ => wpR_bind (wpR_of_eq (hs x) (wpR_bind (wpR_standAt (wpR_bind (wpR_holding
    (wpR_mono h₁ (fun it s₂ h₂ => wpR_runOwn h₂) fun _ _ h' => h'))))))) fun _ _ h' => h')))

/-- an exception in a loop's turn is noted -/
def noted (M : Model) (A : Around) (env : Env) (E : Value → Shared → Prop) : Value → Shared → Prop :=
  fun x s' => wpR M A (noteFrame x env) (fun _ s'' => E x s'') E s'
theorem wpR_noted {α : Type} {m : Sem α} {Q : α → Shared → Prop} (h : wpR M A m Q (noted M A env E) s) : wpR M A (m.onRaise fun x => do noteFrame x env; theTreesLotGoes x) Q E s :=
  wpR_onRaise (wpR_mono h (fun _ _ q => q) fun _ _ hx => wpR_bind (wpR_mono hx (fun _ _ e => toR (wpAny_theTreesLotGoes e)) fun _ _ e => e))
end

section
variable {prog : Program} {w : World} {A : Around} {E : Value → Shared → Prop} {s : Shared} {env : Env} {R : Result → Shared → Prop}
theorem codeR_block {stmts : List Stmt}
    (h : wpR (model prog w) A (execs stmts env) (fun f s' => R (.ok f) s') (noted (model prog w) A env fun e s' => R (.error e) s') s) : codeR (model prog w) A (.block stmts env) R s := by
  refine codeR_of_tree rfl ?_
  show wpR _ _ (do return Fin.done (← (execs stmts env).onRaise (fun x => do noteFrame x env; theTreesLotGoes x))) _ _ s
  exact wpR_bind (wpR_noted (wpR_mono h (fun f s' h' => wpR_pure h') fun _ _ h' => h'))
theorem codeR_while1 {test : Expr} {body orelse : List Stmt}
    (h : wpR (model prog w) A (isTrue test env (eval test env)) (fun b s₂ =>
        if b then wpR (model prog w) A (execs body env) (fun f s₃ => match f with
            | .next | .cont => codeR (model prog w) A (.whileLoop test body orelse env) R s₃
            | .brk => R (.ok .next) s₃
            | .ret v => R (.ok (.ret v)) s₃) (noted (model prog w) A env fun e s' => R (.error e) s') s₂
        else wpR (model prog w) A (execs orelse env) (fun f s₃ => R (.ok f) s₃) (noted (model prog w) A env fun e s' => R (.error e) s') s₂)
      (noted (model prog w) A env fun e s' => R (.error e) s') s) :
    codeR (model prog w) A (.whileLoop test body orelse env) R s := by
  refine codeR_of_tree rfl ?_
  show wpR _ A ((whileTurn test body orelse env).onRaise (fun x => do noteFrame x env; theTreesLotGoes x)) _ _ s
  refine wpR_noted ?_
  simp only [whileTurn]
  refine wpR_bind (wpR_mono h (fun b s₂ h₂ => ?_) fun _ _ h' => h')
  cases b with
  | false =>
    simp only [Bool.false_eq_true, if_false] at h₂ ⊢
    exact wpR_bind (wpR_mono h₂ (fun f s₃ h₃ => wpR_pure h₃) fun _ _ h' => h')
  | true =>
    simp only [if_true] at h₂ ⊢
    refine wpR_bind (wpR_mono h₂ (fun f s₃ h₃ => ?_) fun _ _ h' => h')
    cases f with
    | next => exact wpR_pure ⟨rfl, h₃⟩
    | cont => exact wpR_pure ⟨rfl, h₃⟩
    | brk => exact wpR_pure h₃
    | ret v => exact wpR_pure h₃
theorem codeR_for1 {target : Expr} {it : Addr} {body orelse : List Stmt}
    (h : wpR (model prog w) A (pyNext (.ref it)) (fun r s₁ => match r with
      | none => wpR (model prog w) A (execs orelse env) (fun f s₃ => R (.ok f) s₃) (noted (model prog w) A env fun e s' => R (.error e) s') s₁
      | some v => wpR (model prog w) A (letOwnedTupleGo target (.ref it) v) (fun _ s₁' => wpR (model prog w) A (assign target env v) (fun _ s₂ => wpR (model prog w) A (execs body env) (fun f s₃ => match f with
          | .next | .cont => codeR (model prog w) A (.forLoop target (.ref it) body orelse env) R s₃
          | .brk => R (.ok .next) s₃
          | .ret v => R (.ok (.ret v)) s₃) (noted (model prog w) A env fun e s' => R (.error e) s') s₂) (noted (model prog w) A env fun e s' => R (.error e) s') s₁') (noted (model prog w) A env fun e s' => R (.error e) s') s₁)
      (noted (model prog w) A env fun e s' => R (.error e) s') s) :
    codeR (model prog w) A (.forLoop target (.ref it) body orelse env) R s := by
  refine codeR_of_tree rfl ?_
  show wpR _ _ ((forTurn target (.ref it) body orelse env).onRaise (fun x => do noteFrame x env; theTreesLotGoes x)) _ _ s
  refine wpR_noted ?_
  simp only [forTurn]
  refine wpR_bind (wpR_standAt (wpR_bind (wpR_onRaise (wpR_mono h (fun r s₁ h₁ => ?_) fun _ _ h' => wpR_standAt h'))))
  cases r with
  | none => exact wpR_pure ⟨rfl, codeR_block h₁⟩
  | some v =>
    refine wpR_bind (wpR_mono h₁ (fun _ s₁' h₁' => ?_) fun _ _ h' => h')
    refine wpR_bind (wpR_mono h₁' (fun _ s₂ h₂ => wpR_bind (wpR_mono h₂ (fun f s₃ h₃ => ?_) fun _ _ h' => h')) fun _ _ h' => h')
    cases f with
    | next => exact wpR_pure ⟨rfl, h₃⟩
    | cont => exact wpR_pure ⟨rfl, h₃⟩
    | brk => exact wpR_pure h₃
    | ret v => exact wpR_pure h₃

/-- the frame of a def -/
theorem codeR_func {body : List Stmt}
    (h : wpR (model prog w) (A.deeper env) (execs body env) (fun f s' => R (.ok (.ret (match f with | .ret v => v | _ => .none))) s')
      (fun e s' => wpR (model prog w) (A.deeper env) (leaving env e) (fun _ s'' => R (.error e) s'') (fun e' s'' => R (.error e') s'') s') s) :
    codeR (model prog w) A (.func body env) R s := by
  refine codeR_of_tree rfl ?_
  show wpR _ (A.deeper env) (do point; match ← (execs body env).onRaise (leaving env) with | .ret v => ret v | _ => ret .none) _ _ s
  refine wpR_bind (wpR_point (wpR_bind (wpR_onRaise (wpR_mono h (fun f s' h' => ?_) fun _ _ h' => h'))))
  cases f <;> exact wpR_pure h'
theorem codeR_call_function {a : Addr} {args : Args} {o : Obj} {fd : FuncData} {body : List Stmt} (hroom : A.depth < recursionLimit)
    (ho : s.heap.get? a = some o) (hd' : o.data = .func fd) (hco : fd.scope.isCoroutine = false) (hgen : fd.scope.isGenerator = false) (hbody : fd.body = .stmts body) (hcd : s.heap.CodeRec fd.code fd.qualname)
    (h : wpR (model prog w) A.in1 (bindArgs fd args) (fun binds s₁ =>
      wpR (model prog w) A.in1 (newFunctionEnv fd.scope fd.globals fd.closure binds (fd.qualname ++ ".<locals>.") (some a) fd.code none fd.builtins)
        (fun env s₂ => s₂.heap.NoLimit ∧ codeR (model prog w) A (.func body env) R s₂) (fun e s' => R (.error e) s') s₁) (fun e s' => R (.error e) s') s) :
    codeR (model prog w) A (.call (.ref a) args) R s := by
  refine codeR_of_tree rfl ?_
  show wpR _ A.in1 (callAny (.ref a) args) _ _ s
  simp only [callAny]
  refine wpR_bind (toR (wpAny_load ho ?_))
  obtain ⟨c, oc, vs, tq, hc, hoc, hdc, hq⟩ := hcd
  simp only [hd', callFunction, hco, hgen, hbody, hc]
  rw [hc] at h
  refine wpR_bind (m := field (.ref c) 1) (toR (wpAny_field hoc hdc hq (wpR_bind (wpR_pure ?_))))
  exact wpR_bind (wpR_mono h (fun binds s₁ h₁ => wpR_bind (wpR_mono h₁ (fun env s₂ h₂ => wpR_bind (toR (wpAny_enterFrame h₂.1 hroom
    (wpR_pure (And.intro rfl h₂.2))))) fun _ _ h' => h')) fun _ _ h' => h')
theorem codeR_call_plain {name : Str} {params : Arguments} {body : List Stmt} {scope : Scope} {pm cd doc : Value} {a : Addr} {o : Obj} {args : List Value} {binds : List (Str × Value)}
    (hroom : A.depth < recursionLimit) (ho : s.heap.get? a = some o) (hdata : o.data = .func (docDef name params body scope pm cd doc)) (hlim : s.heap.NoLimit) (hcd : s.heap.CodeRec cd name)
    (hbind : bindArgs (docDef name params body scope pm cd doc) ⟨args, []⟩ = pure binds) (hloc : ∀ x ∈ binds, scope.names.lookup x.1 = some .local)
    (h : ∀ h₁, Fr s.heap s.heap.objs.size h₁ (fun x => binds.reverse.lookup x) →
      wpR (model prog w) (A.deeper (envOf name scope s.heap.objs.size a cd)) (execs body (envOf name scope s.heap.objs.size a cd))
        (fun f s' => R (.ok (.ret (match f with | .ret v => v | _ => .none))) s')
        (fun e s' => wpR (model prog w) (A.deeper (envOf name scope s.heap.objs.size a cd)) (leaving (envOf name scope s.heap.objs.size a cd) e)
          (fun _ s'' => R (.error e) s'') (fun e' s'' => R (.error e') s'') s')
        { s with heap := h₁, toks := s.toks + binds.length })
    (hco : scope.isCoroutine = false) (hgen : scope.isGenerator = false) (hk : scope.kind = .function) (hcell : ∀ x ∈ scope.names, x.2 ≠ .cell) :
    codeR (model prog w) A (.call (.ref a) ⟨args, []⟩) R s := by
  refine codeR_call_function hroom ho hdata hco hgen rfl hcd ?_
  rw [hbind]
  refine wpR_pure (toR (wpAny_newFunctionEnv hcell hloc (fun h₁ hns hsb => ⟨hlim.fresh _ hsb, ?_⟩) hk))
  show codeR _ _ (.func body (envOf name scope s.heap.objs.size a cd)) _ _
  exact codeR_func (h h₁ ⟨hns, fun b o e => hsb.extBut b o (Nat.ne_of_lt (Heap.lt_size e)) (Heap.get?_push_of_some _ e), Nat.le_refl _⟩)
end
end Mine

namespace Mine

/-! ## pure data and how a heap bears it -/

/-- everything that stood stands -/
abbrev Kp (h h' : Heap) : Prop := ∀ b o, h.get? b = some o → h'.get? b = some o

inductive PV where
  | none
  | bool (b : Bool)
  | int (i : Int)
  | str (l : List Nat)
  | bytes (l : List UInt8)
  | obj (v : Value)
  | tup (xs : List PV)
  | lst (xs : List PV)
  | ref (a : Addr)
  | rng (a b c : Int)
  /-- a list that was made as a plain list -/
  | lsn (xs : List PV)

mutual
def V (D : Addr → Prop) (h : Heap) : PV → Value → Prop
  | .none, v => v = .none
  | .bool b, v => v = .bool b
  | .int i, v => ∃ t, v = .int i t
  | .str l, v => ∃ t, v = .str ⟨l.toArray⟩ t
  | .bytes l, v => ∃ t, v = .bytes l.toArray t
  | .obj w, v => v = w
  | .tup xs, v => ∃ a items, v = .ref a ∧ IsTup h a items ∧ Vs D h xs items.toList
  | .lst xs, v => ∃ a items, v = .ref a ∧ ¬ D a ∧ h.IsList a items ∧ Vs D h xs items.toList
  | .ref a, v => v = .ref a
  | .rng a b c, v => ∃ r t u z, v = .ref r ∧ h.get? r = some { cls := .type "range", dict := none, data := .fields #[.int a t, .int b u, .int c z], slots := #[] }
  | .lsn xs, v => ∃ a items n, v = .ref a ∧ ¬ D a ∧ h.get? a = some { cls := .type "list", data := .seq items n } ∧ Vs D h xs items.toList
def Vs (D : Addr → Prop) (h : Heap) : List PV → List Value → Prop
  | [], vs => vs = []
  | x :: xs, vs => ∃ v r, vs = v :: r ∧ V D h x v ∧ Vs D h xs r
end

section
variable {D : Addr → Prop} {h : Heap}
theorem V_none {v} : V D h .none v ↔ v = .none := by simp only [V]
theorem V_bool {b v} : V D h (.bool b) v ↔ v = .bool b := by simp only [V]
theorem V_int {i v} : V D h (.int i) v ↔ ∃ t, v = .int i t := by simp only [V]
theorem V_str {l v} : V D h (.str l) v ↔ ∃ t, v = .str ⟨l.toArray⟩ t := by simp only [V]
theorem V_bytes {l v} : V D h (.bytes l) v ↔ ∃ t, v = .bytes l.toArray t := by simp only [V]
theorem V_obj {w v} : V D h (.obj w) v ↔ v = w := by simp only [V]
theorem V_tup {xs v} : V D h (.tup xs) v ↔ ∃ a items, v = .ref a ∧ IsTup h a items ∧ Vs D h xs items.toList := by simp only [V]
theorem V_lst {xs v} : V D h (.lst xs) v ↔ ∃ a items, v = .ref a ∧ ¬ D a ∧ h.IsList a items ∧ Vs D h xs items.toList := by simp only [V]
theorem V_ref {a v} : V D h (.ref a) v ↔ v = .ref a := by simp only [V]
theorem V_rng {a b c v} : V D h (.rng a b c) v ↔ ∃ r t u z, v = .ref r ∧ h.get? r = some { cls := .type "range", dict := none, data := .fields #[.int a t, .int b u, .int c z], slots := #[] } := by simp only [V]
theorem V_lsn {xs v} : V D h (.lsn xs) v ↔ ∃ a items n, v = .ref a ∧ ¬ D a ∧ h.get? a = some { cls := .type "list", data := .seq items n } ∧ Vs D h xs items.toList := by simp only [V]
theorem Vs_nil {vs} : Vs D h [] vs ↔ vs = [] := by simp only [Vs]
theorem Vs_cons {x xs vs} : Vs D h (x :: xs) vs ↔ ∃ v r, vs = v :: r ∧ V D h x v ∧ Vs D h xs r := by simp only [Vs]

theorem V.int (i : Int) (t : Tok) : V D h (.int i) (.int i t) := V_int.mpr ⟨t, rfl⟩
theorem V.bool (b : Bool) : V D h (.bool b) (.bool b) := V_bool.mpr rfl
theorem V.none : V D h .none .none := V_none.mpr rfl
theorem V.bytes (l : List UInt8) (t : Tok) : V D h (.bytes l) (.bytes l.toArray t) := V_bytes.mpr ⟨t, rfl⟩
theorem V.str (l : List Nat) (t : Tok) : V D h (.str l) (.str ⟨l.toArray⟩ t) := V_str.mpr ⟨t, rfl⟩

theorem Vs.length : ∀ {xs : List PV} {vs : List Value}, Vs D h xs vs → vs.length = xs.length
  | [], vs, e => by rw [Vs_nil] at e; subst e; rfl
  | x :: xs, vs, e => by
    rw [Vs_cons] at e
    obtain ⟨v, r, rfl, _, e3⟩ := e
    simp [Vs.length e3]
theorem Vs.get : ∀ {xs : List PV} {vs : List Value} (i : Nat) {x : PV}, Vs D h xs vs → xs[i]? = some x → ∃ v, vs[i]? = some v ∧ V D h x v
  | [], vs, i, x, e, hx => by simp at hx
  | y :: xs, vs, i, x, e, hx => by
    rw [Vs_cons] at e
    obtain ⟨v, r, rfl, e2, e3⟩ := e
    cases i with
    | zero => simp at hx; subst hx; exact ⟨v, rfl, e2⟩
    | succ i => simp at hx; obtain ⟨v', h1, h2⟩ := Vs.get i e3 hx; exact ⟨v', by simpa using h1, h2⟩
theorem Vs.append : ∀ {xs ys : List PV} {vs us : List Value}, Vs D h xs vs → Vs D h ys us → Vs D h (xs ++ ys) (vs ++ us)
  | [], ys, vs, us, e, f => by rw [Vs_nil] at e; subst e; simpa using f
  | x :: xs, ys, vs, us, e, f => by
    rw [Vs_cons] at e
    obtain ⟨v, r, rfl, e2, e3⟩ := e
    rw [List.cons_append, Vs_cons]
    exact ⟨v, r ++ us, rfl, e2, Vs.append e3 f⟩
theorem Vs.take : ∀ (n : Nat) {xs : List PV} {vs : List Value}, Vs D h xs vs → Vs D h (xs.take n) (vs.take n)
  | 0, xs, vs, e => by simp [Vs_nil]
  | n + 1, [], vs, e => by rw [Vs_nil] at e; subst e; simp [Vs_nil]
  | n + 1, x :: xs, vs, e => by
    rw [Vs_cons] at e
    obtain ⟨v, r, rfl, e2, e3⟩ := e
    rw [List.take_succ_cons, List.take_succ_cons, Vs_cons]
    exact ⟨v, _, rfl, e2, Vs.take n e3⟩
theorem Vs.drop : ∀ (n : Nat) {xs : List PV} {vs : List Value}, Vs D h xs vs → Vs D h (xs.drop n) (vs.drop n)
  | 0, xs, vs, e => by simpa using e
  | n + 1, [], vs, e => by rw [Vs_nil] at e; subst e; simp [Vs_nil]
  | n + 1, x :: xs, vs, e => by
    rw [Vs_cons] at e
    obtain ⟨v, r, rfl, e2, e3⟩ := e
    simpa using Vs.drop n e3
theorem Vs.ints : ∀ {ns : List Int} {vs : List Value}, Vs D h (ns.map PV.int) vs → IntsAre vs ns
  | [], vs, e => by
    simp only [List.map_nil, Vs_nil] at e; subst e; exact .nil
  | n :: ns, vs, e => by
    simp only [List.map_cons, Vs_cons] at e
    obtain ⟨v, r, rfl, e2, e3⟩ := e
    obtain ⟨t, rfl⟩ := V_int.mp e2
    exact .cons _ _ (Vs.ints e3)
theorem Vs.of_ints : ∀ {ns : List Int} {vs : List Value}, IntsAre vs ns → Vs D h (ns.map PV.int) vs
  | _, _, .nil => by simp [Vs_nil]
  | _, _, .cons _ _ e => by
    simp only [List.map_cons, Vs_cons]
    exact ⟨_, _, rfl, V.int _ _, Vs.of_ints e⟩
end

/-- an object whose data is one that a value's tree, or an iterator, reads -/
def DataOk (d : Data) : Prop := match d with
  | .seq _ _ => True
  | .fields _ => True
  | _ => False

/-- a node of a value's tree -/
def Node (D : Addr → Prop) (b : Addr) (o : Obj) : Prop :=
  (∃ xs n, o.data = .seq xs n ∧ (¬ D b ∨ o.cls = .type "tuple")) ∨ (o.cls = .type "range" ∧ ∃ vs, o.data = .fields vs)
theorem Node.ok {D : Addr → Prop} {b : Addr} {o : Obj} (x : Node D b o) : DataOk o.data ∧ (¬ D b ∨ o.cls = .type "tuple" ∨ o.cls = .type "range") := by
  rcases x with ⟨xs, n, hd, hc⟩ | ⟨hc, vs, hd⟩
  · exact ⟨by rw [hd]; trivial, hc.elim .inl fun c => .inr (.inl c)⟩
  · exact ⟨by rw [hd]; trivial, .inr (.inr hc)⟩

mutual
theorem V.move {D D' : Addr → Prop} {h h' : Heap}
    (hk : ∀ b o, h.get? b = some o → Node D b o → h'.get? b = some o)
    (hD : ∀ b o, h.get? b = some o → D' b → D b) : ∀ {x : PV} {v : Value}, V D h x v → V D' h' x v
  | .none, v, e => by rw [V_none] at *; exact e
  | .bool b, v, e => by rw [V_bool] at *; exact e
  | .int i, v, e => by rw [V_int] at *; exact e
  | .str l, v, e => by rw [V_str] at *; exact e
  | .bytes l, v, e => by rw [V_bytes] at *; exact e
  | .obj w, v, e => by rw [V_obj] at *; exact e
  | .ref k, v, e => by rw [V_ref] at *; exact e
  | .rng a b c, v, e => by
    rw [V_rng] at *
    obtain ⟨r, t, u, z, e1, e2⟩ := e
    exact ⟨r, t, u, z, e1, hk _ _ e2 (.inr ⟨rfl, _, rfl⟩)⟩
  | .tup xs, v, e => by
    rw [V_tup] at *
    obtain ⟨a, items, e1, ⟨o, ho, hc, n, hd⟩, e3⟩ := e
    exact ⟨a, items, e1, ⟨o, hk _ _ ho (.inl ⟨_, _, hd, .inr hc⟩), hc, n, hd⟩, Vs.move hk hD e3⟩
  | .lst xs, v, e => by
    rw [V_lst] at *
    obtain ⟨a, items, e1, e2, ⟨o, ho, hc, n, hd⟩, e3⟩ := e
    exact ⟨a, items, e1, fun d => e2 (hD _ _ ho d), ⟨o, hk _ _ ho (.inl ⟨_, _, hd, .inl e2⟩), hc, n, hd⟩, Vs.move hk hD e3⟩
  | .lsn xs, v, e => by
    rw [V_lsn] at *
    obtain ⟨a, items, n, e1, e2, ho, e3⟩ := e
    exact ⟨a, items, n, e1, fun d => e2 (hD _ _ ho d), hk _ _ ho (.inl ⟨_, _, rfl, .inl e2⟩), Vs.move hk hD e3⟩
theorem Vs.move {D D' : Addr → Prop} {h h' : Heap}
    (hk : ∀ b o, h.get? b = some o → Node D b o → h'.get? b = some o)
    (hD : ∀ b o, h.get? b = some o → D' b → D b) : ∀ {xs : List PV} {vs : List Value}, Vs D h xs vs → Vs D' h' xs vs
  | [], vs, e => by rw [Vs_nil] at *; exact e
  | x :: xs, vs, e => by
    rw [Vs_cons] at *
    obtain ⟨v, r, e1, e2, e3⟩ := e
    exact ⟨v, r, e1, V.move hk hD e2, Vs.move hk hD e3⟩
end
mutual
/-- growth alone -/
theorem V.grow {D : Addr → Prop} {h h' : Heap} (hk : Kp h h') : ∀ {x : PV} {v : Value}, V D h x v → V D h' x v
  | .none, v, e => by rw [V_none] at *; exact e
  | .bool b, v, e => by rw [V_bool] at *; exact e
  | .int i, v, e => by rw [V_int] at *; exact e
  | .str l, v, e => by rw [V_str] at *; exact e
  | .bytes l, v, e => by rw [V_bytes] at *; exact e
  | .obj w, v, e => by rw [V_obj] at *; exact e
  | .ref k, v, e => by rw [V_ref] at *; exact e
  | .rng a b c, v, e => by
    rw [V_rng] at *
    obtain ⟨r, t, u, z, e1, e2⟩ := e
    exact ⟨r, t, u, z, e1, hk _ _ e2⟩
  | .tup xs, v, e => by
    rw [V_tup] at *
    obtain ⟨a, items, e1, e2, e3⟩ := e
    exact ⟨a, items, e1, e2.keeps hk, Vs.grow hk e3⟩
  | .lst xs, v, e => by
    rw [V_lst] at *
    obtain ⟨a, items, e1, e2, ⟨o, ho, r⟩, e3⟩ := e
    exact ⟨a, items, e1, e2, ⟨o, hk _ _ ho, r⟩, Vs.grow hk e3⟩
  | .lsn xs, v, e => by
    rw [V_lsn] at *
    obtain ⟨a, items, n, e1, e2, ho, e3⟩ := e
    exact ⟨a, items, n, e1, e2, hk _ _ ho, Vs.grow hk e3⟩
theorem Vs.grow {D : Addr → Prop} {h h' : Heap} (hk : Kp h h') : ∀ {xs : List PV} {vs : List Value}, Vs D h xs vs → Vs D h' xs vs
  | [], vs, e => by rw [Vs_nil] at *; exact e
  | x :: xs, vs, e => by
    rw [Vs_cons] at *
    obtain ⟨v, r, e1, e2, e3⟩ := e
    exact ⟨v, r, e1, V.grow hk e2, Vs.grow hk e3⟩
end
mutual
/-- fewer owned addresses (among those that stand) -/
theorem V.less {D D' : Addr → Prop} {h : Heap} (hD : ∀ b o, h.get? b = some o → D' b → D b) : ∀ {x : PV} {v : Value}, V D h x v → V D' h x v
  | .none, v, e => by rw [V_none] at *; exact e
  | .bool b, v, e => by rw [V_bool] at *; exact e
  | .int i, v, e => by rw [V_int] at *; exact e
  | .str l, v, e => by rw [V_str] at *; exact e
  | .bytes l, v, e => by rw [V_bytes] at *; exact e
  | .obj w, v, e => by rw [V_obj] at *; exact e
  | .ref k, v, e => by rw [V_ref] at *; exact e
  | .rng a b c, v, e => by rw [V_rng] at *; exact e
  | .tup xs, v, e => by
    rw [V_tup] at *
    obtain ⟨a, items, e1, e2, e3⟩ := e
    exact ⟨a, items, e1, e2, Vs.less hD e3⟩
  | .lst xs, v, e => by
    rw [V_lst] at *
    obtain ⟨a, items, e1, e2, ⟨o, ho, r⟩, e3⟩ := e
    exact ⟨a, items, e1, fun d => e2 (hD _ _ ho d), ⟨o, ho, r⟩, Vs.less hD e3⟩
  | .lsn xs, v, e => by
    rw [V_lsn] at *
    obtain ⟨a, items, n, e1, e2, ho, e3⟩ := e
    exact ⟨a, items, n, e1, fun d => e2 (hD _ _ ho d), ho, Vs.less hD e3⟩
theorem Vs.less {D D' : Addr → Prop} {h : Heap} (hD : ∀ b o, h.get? b = some o → D' b → D b) : ∀ {xs : List PV} {vs : List Value}, Vs D h xs vs → Vs D' h xs vs
  | [], vs, e => by rw [Vs_nil] at *; exact e
  | x :: xs, vs, e => by
    rw [Vs_cons] at *
    obtain ⟨v, r, e1, e2, e3⟩ := e
    exact ⟨v, r, e1, V.less hD e2, Vs.less hD e3⟩
end
end Mine

namespace Mine

/-! ## states and judgements -/

inductive PO where
  | list (xs : List PV)
  | barr (l : List UInt8)

abbrev Loc := List (Str × PV)
abbrev Own := List (Addr × PO)

def POat (D : Addr → Prop) (h : Heap) (a : Addr) : PO → Prop
  | .list xs => ∃ items n, h.get? a = some { cls := .type "list", data := .seq items n } ∧ Vs D h xs items.toList
  | .barr l => h.get? a = some { cls := .type "bytearray", data := .bytearray l.toArray }

structure Cx where
  prog : Program
  w : World
  B : Heap
  gl : List (Str × PV)

def GloV (B : Heap) (x : Str) (v : Value) : Prop :=
  ∃ mg, B.Ns mainGlobals mg ∧ (mg x = some v ∨ (mg x = none ∧ ∃ mb, B.Ns builtinsNs mb ∧ mb x = some v))

structure Cx.Ok (Γ : Cx) : Prop where
  glob : ∀ x p, Γ.gl.lookup x = some p → ∃ v, GloV Γ.B x v ∧ ∀ D h, V D h p v
  nolimit : Γ.B.NoLimit

abbrev Cx.M (Γ : Cx) : Model := model Γ.prog Γ.w

structure Fm where
  L : Addr
  cl : List (Str × Addr)
  q : Str
  f : Option Addr
  cd : Value
  fr : Option Addr
  /-- what the callers own -/
  D : Addr → Prop

/-- owned: by the callers, or here -/
def Dm (F : Fm) (μ : Own) (b : Addr) : Prop := F.D b ∨ b ∈ μ.map (·.1)

abbrev Fm.env (F : Fm) (sc : Scope) : Env :=
  { scope := sc, locals := F.L, globals := mainGlobals, cells := F.cl, qual := F.q, func := F.f, code := F.cd, frame := F.fr, builtins := builtinsNs }

structure Lv (n : Nat) (A : Around) : Prop where
  handled : A.handled = none
  depth : A.depth ≤ 310 + 10 * n
  units : A.units ≤ 100 + 100 * n
  guards : A.guards = some []

structure Gr (s s' : Shared) : Prop where
  keep : Kp s.heap s'.heap
  gens : s'.gens = s.gens
  os : s'.os = s.os
theorem Gr.refl (s : Shared) : Gr s s := ⟨fun _ _ e => e, rfl, rfl⟩
theorem Gr.trans {s s' s'' : Shared} (a : Gr s s') (b : Gr s' s'') : Gr s s'' :=
  ⟨fun x o e => b.keep x o (a.keep x o e), b.gens.trans a.gens, b.os.trans a.os⟩
theorem Gr.toks {s : Shared} (n : Nat) : Gr s { s with toks := n } := ⟨fun _ _ e => e, rfl, rfl⟩
theorem Gr.heap {s : Shared} {h' : Heap} (n : Nat) (hk : Kp s.heap h') : Gr s { s with heap := h', toks := n } := ⟨hk, rfl, rfl⟩
theorem Kp.push (h : Heap) (o : Obj) : Kp h (h.push o) := fun _ _ e => Heap.get?_push_of_some o e
theorem Kp.trans {a b c : Heap} (x : Kp a b) (y : Kp b c) : Kp a c := fun p o e => y p o (x p o e)

structure St (Γ : Cx) (sc : Scope) (F : Fm) (σ : Loc) (μ : Own) (s : Shared) : Prop where
  ok : Γ.Ok
  base : Kp Γ.B s.heap
  ns : ∃ m, s.heap.Ns F.L m ∧ ∀ x v, σ.lookup x = some v → sc.names.lookup x = some .local → ∃ val, m x = some val ∧ V (Dm F μ) s.heap v val
  cel : ∀ x v, σ.lookup x = some v → (sc.names.lookup x = some .cell ∨ sc.names.lookup x = some .free) →
    ∃ c val, F.cl.lookup x = some c ∧ s.heap.IsCell c (some val) ∧ V (Dm F μ) s.heap v val
  own : ∀ a o, (a, o) ∈ μ → POat (Dm F μ) s.heap a o
  dal : ∀ b, F.D b → (s.heap.get? b).isSome

theorem Kp.alive {h h' : Heap} (x : Kp h h') : ∀ b, (h.get? b).isSome → (h'.get? b).isSome := fun b e => by
  obtain ⟨o, ho⟩ := Option.isSome_iff_exists.mp e
  rw [x b o ho]; rfl
theorem POat.grow {D : Addr → Prop} {h h' : Heap} {a : Addr} {o : PO} (hk : Kp h h') (x : POat D h a o) : POat D h' a o := by
  cases o with
  | list xs => obtain ⟨items, n, ho, e⟩ := x; exact ⟨items, n, hk _ _ ho, e.grow hk⟩
  | barr l => exact hk _ _ x

theorem St.grow {Γ sc F σ μ s s'} (x : St Γ sc F σ μ s) (g : Gr s s') : St Γ sc F σ μ s' where
  ok := x.ok
  base := x.base.trans g.keep
  ns := let ⟨m, hn, hv⟩ := x.ns; ⟨m, hn.keeps g.keep, fun y v a b => let ⟨val, e, e'⟩ := hv y v a b; ⟨val, e, e'.grow g.keep⟩⟩
  cel := fun y v a b => let ⟨c, val, e1, e2, e3⟩ := x.cel y v a b; ⟨c, val, e1, e2.keeps g.keep, e3.grow g.keep⟩
  own := fun a o hm => (x.own a o hm).grow g.keep
  dal := fun b hb => g.keep.alive b (x.dal b hb)

def Ev (Γ : Cx) (k : Nat) (sc : Scope) (σ : Loc) (μ : Own) (e : Expr) (v : PV) : Prop :=
  ∀ (A : Around) (n : Nat) (F : Fm) (s : Shared) (Q : Value → Shared → Prop) (E : Value → Shared → Prop), n + k ≤ 8 → Lv n A → St Γ sc F σ μ s →
    (∀ val s', Gr s s' → V (Dm F μ) s'.heap v val → Q val s') → wpR Γ.M A (eval e (F.env sc)) Q E s

/-- a test -/
def Tr (Γ : Cx) (k : Nat) (sc : Scope) (σ : Loc) (μ : Own) (e : Expr) (b : Bool) : Prop :=
  ∀ (A : Around) (n : Nat) (F : Fm) (s : Shared) (Q : Bool → Shared → Prop) (E : Value → Shared → Prop), n + k ≤ 8 → Lv n A → St Γ sc F σ μ s →
    (∀ s', Gr s s' → Q b s') → wpR Γ.M A (isTrue e (F.env sc) (eval e (F.env sc))) Q E s

/-- the arguments of a call -/
def Es (Γ : Cx) (k : Nat) (sc : Scope) (σ : Loc) (μ : Own) (pos : Pos) (es : List Expr) (vs : List PV) : Prop :=
  ∀ (A : Around) (n : Nat) (F : Fm) (s : Shared) (Q : List Value → Shared → Prop) (E : Value → Shared → Prop), n + k ≤ 8 → Lv n A → St Γ sc F σ μ s →
    (∀ vals s', Gr s s' → Vs (Dm F μ) s'.heap vs vals → Q vals s') → wpR Γ.M A (spliced (backTo pos (starEach es (F.env sc)))) Q E s

/-- what a call of a value gives: the answer's lists are new -/
def CallOk (Γ : Cx) (k : Nat) (f : Value) (args : List PV) (r : PV) : Prop :=
  ∀ (A : Around) (n : Nat) (D : Addr → Prop) (s : Shared) (vals : List Value) (Q : Value → Shared → Prop) (E : Value → Shared → Prop), n + k ≤ 8 → Lv n A → Γ.Ok → Kp Γ.B s.heap →
    Vs D s.heap args vals → (∀ b, D b → (s.heap.get? b).isSome) → (∀ val s', Gr s s' → V D s'.heap r val → Q val s') → wpR Γ.M A (call f vals) Q E s

/-! ## expressions -/

section
variable {Γ : Cx} {k : Nat} {sc : Scope} {σ : Loc} {μ : Own} {pos : Pos}

def isVar : Option NameKind → Bool
  | some .local | some .cell | some .free => true
  | _ => false

theorem Ev.name {x : Str} {v : PV} (h : σ.lookup x = some v) (hl : isVar (sc.names.lookup x) = true := by decide +kernel) (hk : sc.kind = .function := by kernel_rfl)
    (hd : (x == ("__debug__" : Str)) = false := by decide +kernel) (hc : (x == ("__classdict__" : Str)) = false := by decide +kernel) : Ev Γ k sc σ μ (.Name x pos) v := by
  intro A n F s Q E _ _ st hQ
  have hk' : (F.env sc).scope.kind = .function := hk
  refine toR (wpAny_Name ?_ hd)
  cases hn : sc.names.lookup x with
  | none => rw [hn] at hl; cases hl
  | some kd =>
    rw [hn] at hl
    have hkd : (F.env sc).kindOf x = some kd := hn
    cases kd with
    | «local» =>
      obtain ⟨m, hm, hv⟩ := st.ns
      obtain ⟨val, e, ev⟩ := hv x v h hn
      exact wpAny_loadName_local hk' hkd hm e (hQ _ _ (Gr.refl s) ev)
    | cell =>
      obtain ⟨c, val, e1, e2, e3⟩ := st.cel x v h (.inl hn)
      exact wpAny_loadName_cell hk' hkd e1 e2 (hQ _ _ (Gr.refl s) e3)
    | free =>
      obtain ⟨c, val, e1, e2, e3⟩ := st.cel x v h (.inr hn)
      exact wpAny_loadName_free hk' hkd e1 e2 (hQ _ _ (Gr.refl s) e3) hc
    | _ => cases hl

theorem Ev.glob {x : Str} {v : PV} (h : Γ.gl.lookup x = some v) (hl : sc.names.lookup x = some .globalImplicit := by kernel_rfl) (hk : sc.kind = .function := by kernel_rfl)
    (hd : (x == ("__debug__" : Str)) = false := by decide +kernel) : Ev Γ k sc σ μ (.Name x pos) v := by
  intro A n F s Q E _ _ st hQ
  obtain ⟨val, ⟨mg, hg, hx⟩, hv⟩ := st.ok.glob x v h
  have hq : Q val s := hQ _ _ (Gr.refl s) (hv _ _)
  refine toR (Name_function_global (env := F.env sc) hk hl ?_ hd)
  rcases hx with hx | ⟨hx, mb, hb, hy⟩
  · exact loadGlobal_global (env := F.env sc) (hg.keeps st.base) hx hq
  · exact loadGlobal_builtin (env := F.env sc) (hg.keeps st.base) hx (hb.keeps st.base) hy hq

theorem Ev.cint {i : Int} {kd : Nat} : Ev Γ k sc σ μ (.Constant (.int i) kd pos) (.int i) :=
  fun _ _ _ _ _ _ _ _ _ hQ => toR (wpAny_Constant_int (hQ _ _ (Gr.toks _) (V.int _ _)))
theorem Ev.cnone {kd : Nat} : Ev Γ k sc σ μ (.Constant .none kd pos) .none :=
  fun _ _ _ _ _ _ _ _ _ hQ => toR (wpAny_Constant_none (hQ _ _ (Gr.refl _) V.none))
theorem Ev.cstr {x : Str} {kd : Nat} {l : List Nat} (e : x.cps.toList = l) : Ev Γ k sc σ μ (.Constant (.str x) kd pos) (.str l) := by
  intro _ _ _ _ _ _ _ _ _ hQ
  refine toR (wpAny_Constant_str (hQ _ _ (Gr.toks _) ?_))
  subst e; exact V_str.mpr ⟨_, rfl⟩
/-- two operands and an operation on values -/
def Op2 (Γ : Cx) (f : Value → Value → Sem Value) (a b r : PV) : Prop :=
  ∀ (A : Around) (n : Nat) (D : Addr → Prop) (s : Shared) (x y : Value) (Q : Value → Shared → Prop) (E : Value → Shared → Prop), n ≤ 8 → Lv n A → Γ.Ok → Kp Γ.B s.heap → V D s.heap a x → V D s.heap b y → (∀ b, D b → (s.heap.get? b).isSome) →
    (∀ val s', Gr s s' → V D s'.heap r val → Q val s') → wpAny Γ.M A (f x y) Q E s

theorem St.dom {Γ sc F σ μ s} (st : St Γ sc F σ μ s) : ∀ b, Dm F μ b → (s.heap.get? b).isSome := by
  intro b hb
  rcases hb with hb | hb
  · exact st.dal b hb
  obtain ⟨p, hp, rfl⟩ := List.mem_map.mp hb
  have := st.own p.1 p.2 hp
  cases hq : p.2 with
  | list xs => rw [hq] at this; obtain ⟨items, _, ho, _⟩ := this; rw [ho]; rfl
  | barr l =>
    rw [hq] at this
    have ho : s.heap.get? p.1 = some { cls := .type "bytearray", data := .bytearray l.toArray } := this
    rw [ho]; rfl

theorem Ev.bin {l r : Expr} {op : Operator} {a b c : PV} (hl : Ev Γ k sc σ μ l a) (hr : Ev Γ k sc σ μ r b) (ho : Op2 Γ (binaryOp op) a b c) : Ev Γ k sc σ μ (.BinOp l op r pos) c := by
  intro A n F s Q E hn hA st hQ
  refine wpR_BinOp (hl A n F s _ _ hn hA st fun x s₁ g₁ hx => ?_)
  refine hr A n F s₁ _ _ hn hA (st.grow g₁) fun y s₂ g₂ hy => ?_
  exact toR <| ho A n _ s₂ x y _ _ (by omega) hA st.ok ((st.grow g₁).grow g₂).base (hx.grow g₂.keep) hy ((st.grow g₁).grow g₂).dom fun v s₃ g₃ hv => hQ v s₃ ((g₁.trans g₂).trans g₃) hv

theorem Ev.cmp {l r : Expr} {op : CmpOp} {a b c : PV} (hl : Ev Γ k sc σ μ l a) (hr : Ev Γ k sc σ μ r b) (ho : Op2 Γ (compareOp op) a b c)
    (hm : behindInMarks op r = false := by kernel_rfl) : Ev Γ k sc σ μ (.Compare l [op] [r] pos) c := by
  intro A n F s Q E hn hA st hQ
  refine wpR_Compare1 (hl A n F s _ _ hn hA st fun x s₁ g₁ hx => ?_) hm
  refine hr A n F s₁ _ _ hn hA (st.grow g₁) fun y s₂ g₂ hy => ?_
  exact toR <| ho A n _ s₂ x y _ _ (by omega) hA st.ok ((st.grow g₁).grow g₂).base (hx.grow g₂.keep) hy ((st.grow g₁).grow g₂).dom fun v s₃ g₃ hv => hQ v s₃ ((g₁.trans g₂).trans g₃) hv

theorem Tr.cmp {l r : Expr} {op : CmpOp} {a b : PV} {c : Bool} (hl : Ev Γ k sc σ μ l a) (hr : Ev Γ k sc σ μ r b) (ho : Op2 Γ (compareOp op) a b (.bool c))
    (hm : behindInMarks op r = false := by kernel_rfl) : Tr Γ k sc σ μ (.Compare l [op] [r] pos) c := by
  intro A n F s Q E hn hA st hQ
  refine wpR_isTrue_Compare1 (hl A n F s _ _ hn hA st fun x s₁ g₁ hx => ?_) hm
  refine hr A n F s₁ _ _ hn hA (st.grow g₁) fun y s₂ g₂ hy => ?_
  refine toR (ho A n _ s₂ x y _ _ (by omega) hA st.ok ((st.grow g₁).grow g₂).base (hx.grow g₂.keep) hy ((st.grow g₁).grow g₂).dom fun v s₃ g₃ hv => ?_)
  rw [V_bool] at hv; subst hv
  exact toR (wpAny_truthy_bool (hQ s₃ ((g₁.trans g₂).trans g₃)))

/-- `a <= x <= b` -/
theorem Tr.cmp2 {l r t : Expr} {op op' : CmpOp} {a b d : PV} {c c' : Bool} (hl : Ev Γ k sc σ μ l a) (hr : Ev Γ k sc σ μ r b) (ho : Op2 Γ (compareOp op) a b (.bool c))
    (ht : c = true → Ev Γ k sc σ μ t d) (ho' : c = true → Op2 Γ (compareOp op') b d (.bool c'))
    (hm : ∀ env, markedEach [op, op'] [r, t] (evalEach [r, t] env) = [eval r env, eval t env] := by intro _; kernel_rfl) : Tr Γ k sc σ μ (.Compare l [op, op'] [r, t] pos) (c && c') := by
  intro A n F s Q E hn hA st hQ
  show wpR _ _ (do testChain pos (← eval l (F.env sc)) [op, op'] (markedEach [op, op'] [r, t] (evalEach [r, t] (F.env sc)))) Q E s
  rw [hm]
  refine wpR_bind (hl A n F s _ _ hn hA st fun x s₁ g₁ hx => ?_)
  show wpR _ _ (do
    let rv ← holding [x] (eval r (F.env sc))
    standAt pos
    let c ← holding [x, rv] (compareOp op x rv)
    release [x, rv] [c]
    if ← holding [c, rv] (truthy c) then testChain pos rv [op'] [eval t (F.env sc)] else pure false) Q E s₁
  refine wpR_bind (wpR_holding (hr A n F s₁ _ _ hn hA (st.grow g₁) fun y s₂ g₂ hy => wpR_bind (wpR_standAt (wpR_bind (wpR_holding ?_)))))
  refine toR (ho A n _ s₂ x y _ _ (by omega) hA st.ok ((st.grow g₁).grow g₂).base (hx.grow g₂.keep) hy ((st.grow g₁).grow g₂).dom fun v s₃ g₃ hv => ?_)
  rw [V_bool] at hv; subst hv
  refine wpR_bind (wpR_release ?_)
  refine wpR_bind (wpR_holding (toR (wpAny_truthy_bool ?_)))
  cases c with
  | false => exact wpR_pure (hQ s₃ ((g₁.trans g₂).trans g₃))
  | true =>
    simp only [if_true]
    show wpR _ _ (do
      let rv ← holding [y] (eval t (F.env sc))
      standAt pos
      let c ← operate [y, rv] (compareOp op' y rv)
      holding [c] (truthy c)) Q E s₃
    refine wpR_bind (wpR_holding (ht rfl A n F s₃ _ _ hn hA (((st.grow g₁).grow g₂).grow g₃) fun z s₄ g₄ hz => wpR_bind (wpR_standAt (wpR_bind ?_))))
    refine wpR_operate ?_
    refine toR (ho' rfl A n _ s₄ y z _ _ (by omega) hA st.ok ((((st.grow g₁).grow g₂).grow g₃).grow g₄).base ((hy.grow g₃.keep).grow g₄.keep) hz ((((st.grow g₁).grow g₂).grow g₃).grow g₄).dom fun v s₅ g₅ hv => ?_)
    rw [V_bool] at hv; subst hv
    exact wpR_holding (toR (wpAny_truthy_bool (hQ s₅ ((((g₁.trans g₂).trans g₃).trans g₄).trans g₅))))

/-- a value's truth -/
def Truth (Γ : Cx) (a : PV) (b : Bool) : Prop :=
  ∀ (A : Around) (n : Nat) (D : Addr → Prop) (s : Shared) (x : Value) (Q : Bool → Shared → Prop) (E : Value → Shared → Prop), n ≤ 8 → Lv n A → Kp Γ.B s.heap → V D s.heap a x → (∀ s', Gr s s' → Q b s') → wpAny Γ.M A (truthy x) Q E s

theorem Tr.val {e : Expr} {a : PV} {b : Bool} (h : Ev Γ k sc σ μ e a) (ht : Truth Γ a b)
    (he : ∀ env, isTrue e env (eval e env) = (do let v ← eval e env; standAt e.pos; holding [v] (truthy v)) := by intro _; kernel_rfl) : Tr Γ k sc σ μ e b := by
  intro A n F s Q E hn hA st hQ
  refine wpR_isTrue_value (h A n F s _ _ hn hA st fun x s₁ g₁ hx => ?_) (he _)
  exact toR (ht A n _ s₁ x _ _ (by omega) hA (st.grow g₁).base hx fun s₂ g₂ => hQ s₂ (g₁.trans g₂))
theorem Truth.bool {b : Bool} : Truth Γ (.bool b) b := by
  intro A n D s x Q E _ _ _ hx hQ
  rw [V_bool] at hx; subst hx
  exact wpAny_truthy_bool (hQ s (Gr.refl s))
theorem Tr.and2 {e f : Expr} {a b : Bool} (he : Tr Γ k sc σ μ e a) (hf : a = true → Tr Γ k sc σ μ f b) : Tr Γ k sc σ μ (.BoolOp .And [e, f] pos) (a && b) := by
  intro A n F s Q E hn hA st hQ
  refine wpR_isTrue_BoolOp (wpR_allTrue_And_cons (he A n F s _ _ hn hA st fun s₁ g₁ => ?_))
  cases a with
  | false => exact hQ s₁ g₁
  | true =>
    refine wpR_allTrue_And_cons (hf rfl A n F s₁ _ _ hn hA (st.grow g₁) fun s₂ g₂ => ?_)
    cases b with
    | false => exact hQ s₂ (g₁.trans g₂)
    | true => exact wpR_allTrue_And_nil (hQ s₂ (g₁.trans g₂))
theorem Ev.neg {e : Expr} {i : Int} (h : Ev Γ k sc σ μ e (.int i)) : Ev Γ k sc σ μ (.UnaryOp .USub e pos) (.int (-i)) := by
  intro A n F s Q E hn hA st hQ
  refine wpR_UnaryOp (h A n F s _ _ hn hA st fun v s₁ g₁ hv => ?_)
  obtain ⟨t, rfl⟩ := V_int.mp hv
  exact toR <| neg_int (hQ _ _ (g₁.trans (Gr.toks _)) (V.int _ _))

theorem Es.nil : Es Γ k sc σ μ pos [] [] := fun _ _ _ s _ _ _ _ _ hQ => toR (wpAny_items_nil (hQ _ _ (Gr.refl s) (Vs_nil.mpr rfl)))
theorem Es.cons {e : Expr} {es : List Expr} {v : PV} {vs : List PV} (h : Ev Γ k sc σ μ e v) (hs : Es Γ k sc σ μ pos es vs)
    (he : ∀ env, starEach (e :: es) env = (false, eval e env) :: starEach es env := by intro _; kernel_rfl) : Es Γ k sc σ μ pos (e :: es) (v :: vs) := by
  intro A n F s Q E hn hA st hQ
  refine wpR_items_cons (h A n F s _ _ hn hA st fun x s₁ g₁ hx => ?_) (he _)
  exact hs A n F s₁ _ _ hn hA (st.grow g₁) fun xs s₂ g₂ hxs => hQ _ s₂ (g₁.trans g₂) (Vs_cons.mpr ⟨x, xs, rfl, hx.grow g₂.keep, hxs⟩)
end

/-! ## operations on ints -/
section
variable {Γ : Cx} {a b : Int}
theorem Op2.add : Op2 Γ (binaryOp .Add) (.int a) (.int b) (.int (a + b)) := by
  intro A n D s x y Q E _ _ _ _ hx hy _ hQ
  obtain ⟨t, rfl⟩ := V_int.mp hx; obtain ⟨u, rfl⟩ := V_int.mp hy
  exact PyProof.Rows.add_int (hQ _ _ (Gr.toks _) (V.int _ _))
theorem Op2.sub : Op2 Γ (binaryOp .Sub) (.int a) (.int b) (.int (a - b)) := by
  intro A n D s x y Q E _ _ _ _ hx hy _ hQ
  obtain ⟨t, rfl⟩ := V_int.mp hx; obtain ⟨u, rfl⟩ := V_int.mp hy
  exact PyProof.Rows.sub_int (hQ _ _ (Gr.toks _) (V.int _ _))
theorem Op2.mul (hm : IntMulOk a b) : Op2 Γ (binaryOp .Mult) (.int a) (.int b) (.int (a * b)) := by
  intro A n D s x y Q E _ _ _ _ hx hy _ hQ
  obtain ⟨t, rfl⟩ := V_int.mp hx; obtain ⟨u, rfl⟩ := V_int.mp hy
  exact PyProof.Rows.mul_int (hQ _ _ (Gr.toks _) (V.int _ _)) hm
theorem Op2.fdiv (hb : 0 < b) (hs : b < 2 ^ 64) : Op2 Γ (binaryOp .FloorDiv) (.int a) (.int b) (.int (a / b)) := by
  intro A n D s x y Q E _ _ _ _ hx hy _ hQ
  obtain ⟨t, rfl⟩ := V_int.mp hx; obtain ⟨u, rfl⟩ := V_int.mp hy
  refine PyProof.Rows.floordiv_int (by omega) ?_ (.inl (PyProof.noPylong_of_log2 ?_))
  · rw [Int.fdiv_eq_ediv_of_nonneg _ (by omega)]; exact hQ _ _ (Gr.toks _) (V.int _ _)
  · have : b.natAbs < 2 ^ 64 := by omega
    have h1 : b.natAbs.log2 < 64 := (Nat.log2_lt (by omega)).mpr this
    omega
theorem Op2.mod (hb : 0 < b) : Op2 Γ (binaryOp .Mod) (.int a) (.int b) (.int (a % b)) := by
  intro A n D s x y Q E _ _ _ _ hx hy _ hQ
  obtain ⟨t, rfl⟩ := V_int.mp hx; obtain ⟨u, rfl⟩ := V_int.mp hy
  refine PyProof.Rows.mod_int' (by omega) ?_
  rw [Int.fmod_eq_emod_of_nonneg _ (by omega)]; exact hQ _ _ (Gr.toks _) (V.int _ _)
theorem Op2.lt : Op2 Γ (compareOp .Lt) (.int a) (.int b) (.bool (decide (a < b))) := by
  intro A n D s x y Q E _ _ _ _ hx hy _ hQ
  obtain ⟨t, rfl⟩ := V_int.mp hx; obtain ⟨u, rfl⟩ := V_int.mp hy
  exact PyProof.Rows.lt_int (hQ _ _ (Gr.refl _) (V.bool _))
theorem Op2.gt : Op2 Γ (compareOp .Gt) (.int a) (.int b) (.bool (decide (b < a))) := by
  intro A n D s x y Q E _ _ _ _ hx hy _ hQ
  obtain ⟨t, rfl⟩ := V_int.mp hx; obtain ⟨u, rfl⟩ := V_int.mp hy
  exact PyProof.Rows.gt_int (hQ _ _ (Gr.refl _) (V.bool _))
theorem Op2.eq : Op2 Γ (compareOp .Eq) (.int a) (.int b) (.bool (decide (a = b))) := by
  intro A n D s x y Q E _ _ _ _ hx hy _ hQ
  obtain ⟨t, rfl⟩ := V_int.mp hx; obtain ⟨u, rfl⟩ := V_int.mp hy
  refine PyProof.Rows.eq_int ?_
  have := hQ (.bool (decide (a = b))) s (Gr.refl _) (V.bool _)
  rwa [show (a == b) = decide (a = b) from by rw [Bool.eq_iff_iff]; simp]
theorem Op2.le : Op2 Γ (compareOp .LtE) (.int a) (.int b) (.bool (decide (a ≤ b))) := by
  intro A n D s x y Q E _ _ _ _ hx hy _ hQ
  obtain ⟨t, rfl⟩ := V_int.mp hx; obtain ⟨u, rfl⟩ := V_int.mp hy
  exact PyProof.Rows.le_int (hQ _ _ (Gr.refl _) (V.bool _))
theorem Op2.ge : Op2 Γ (compareOp .GtE) (.int a) (.int b) (.bool (decide (b ≤ a))) := by
  intro A n D s x y Q E _ _ _ _ hx hy _ hQ
  obtain ⟨t, rfl⟩ := V_int.mp hx; obtain ⟨u, rfl⟩ := V_int.mp hy
  exact PyProof.Rows.ge_int (hQ _ _ (Gr.refl _) (V.bool _))
theorem Op2.iadd : Op2 Γ (inplaceOp .Add) (.int a) (.int b) (.int (a + b)) := by
  intro A n D s x y Q E _ _ _ _ hx hy _ hQ
  obtain ⟨t, rfl⟩ := V_int.mp hx; obtain ⟨u, rfl⟩ := V_int.mp hy
  exact PyProof.Rows.iadd_int (hQ _ _ (Gr.toks _) (V.int _ _))
theorem Op2.ifdiv (hb : 0 < b) (hs : b < 2 ^ 64) : Op2 Γ (inplaceOp .FloorDiv) (.int a) (.int b) (.int (a / b)) := by
  intro A n D s x y Q E _ _ _ _ hx hy _ hQ
  obtain ⟨t, rfl⟩ := V_int.mp hx; obtain ⟨u, rfl⟩ := V_int.mp hy
  refine PyProof.Rows.ifloordiv_int (by omega) ?_ (.inl (PyProof.noPylong_of_log2 ?_))
  · rw [Int.fdiv_eq_ediv_of_nonneg _ (by omega)]; exact hQ _ _ (Gr.toks _) (V.int _ _)
  · have : b.natAbs < 2 ^ 64 := by omega
    have h1 : b.natAbs.log2 < 64 := (Nat.log2_lt (by omega)).mpr this
    omega
end
end Mine

namespace Mine

/-! ## statements -/

structure Sx (Γ : Cx) (h₀ : Heap) (sc : Scope) (F : Fm) (σ : Loc) (μ : Own) (s : Shared) (cs : Scope := sc) : Prop extends St Γ sc F σ μ s where
  keep : Kp h₀ s.heap
  baseh : Kp Γ.B h₀
  newL : h₀.get? F.L = none
  cells : ∀ x, cs.names.lookup x = some .cell → ∃ c v, F.cl.lookup x = some c ∧ h₀.get? c = none ∧ s.heap.IsCell c v
  cellsAll : ∀ x c, F.cl.lookup x = some c → ∃ v, s.heap.IsCell c v
  cellsApart : ∀ x y c, cs.names.lookup x = some .cell → F.cl.lookup x = some c → F.cl.lookup y = some c → y = x
  ownNew : ∀ b, b ∈ μ.map (·.1) → h₀.get? b = none
  dold : ∀ b, F.D b → (h₀.get? b).isSome
  apart : (μ.map (·.1)).Nodup

inductive Fl where
  | next | brk | cont
  | ret (v : PV)

def FlV (D : Addr → Prop) (h : Heap) : Fl → Flow → Prop
  | .next, f => f = .next
  | .brk, f => f = .brk
  | .cont, f => f = .cont
  | .ret v, f => ∃ val, f = .ret val ∧ V D h v val

structure Sp (F : Fm) (μ μ' : Own) (s s' : Shared) : Prop where
  keep : ∀ b o, s.heap.get? b = some o → b ≠ F.L → (∀ x, F.cl.lookup x ≠ some b) → ¬ Dm F μ b → s'.heap.get? b = some o
  alive : ∀ b, (s.heap.get? b).isSome → (s'.heap.get? b).isSome
  dom : ∀ b, (s.heap.get? b).isSome → Dm F μ' b → Dm F μ b
  gens : s'.gens = s.gens
  os : s'.os = s.os

theorem Sp.refl (F : Fm) (μ : Own) (s : Shared) : Sp F μ μ s s := ⟨fun _ _ e _ _ _ => e, fun _ e => e, fun _ _ e => e, rfl, rfl⟩
theorem Sp.gr {F : Fm} {μ : Own} {s s' : Shared} (g : Gr s s') : Sp F μ μ s s' := ⟨fun b o e _ _ _ => g.keep b o e, g.keep.alive, fun _ _ e => e, g.gens, g.os⟩
theorem Sp.trans {F : Fm} {μ μ' μ'' : Own} {s s' s'' : Shared} (a : Sp F μ μ' s s') (b : Sp F μ' μ'' s' s'') : Sp F μ μ'' s s'' where
  keep := fun x o e h1 h2 h3 => b.keep x o (a.keep x o e h1 h2 h3) h1 h2 fun d => h3 (a.dom x (by rw [e]; rfl) d)
  alive := fun x e => b.alive x (a.alive x e)
  dom := fun x e d => a.dom x e (b.dom x (a.alive x e) d)
  gens := b.gens.trans a.gens
  os := b.os.trans a.os

def Xs (Γ : Cx) (k : Nat) (sc : Scope) (σ : Loc) (μ : Own) (sts : List Stmt) (P : Fl → Loc → Own → Prop) : Prop :=
  ∀ (A : Around) (n : Nat) (F : Fm) (h₀ : Heap) (s : Shared) (Q : Flow → Shared → Prop) (E : Value → Shared → Prop), n + k ≤ 8 → Lv n A → Sx Γ h₀ sc F σ μ s →
    (∀ fl σ' μ' f s', P fl σ' μ' → Sx Γ h₀ sc F σ' μ' s' → Sp F μ μ' s s' → FlV (Dm F μ') s'.heap fl f → Q f s') → wpR Γ.M A (execs sts (F.env sc)) Q E s
def X1 (Γ : Cx) (k : Nat) (sc : Scope) (σ : Loc) (μ : Own) (st : Stmt) (P : Fl → Loc → Own → Prop) : Prop :=
  ∀ (A : Around) (n : Nat) (F : Fm) (h₀ : Heap) (s : Shared) (Q : Flow → Shared → Prop) (E : Value → Shared → Prop), n + k ≤ 8 → Lv n A → Sx Γ h₀ sc F σ μ s →
    (∀ fl σ' μ' f s', P fl σ' μ' → Sx Γ h₀ sc F σ' μ' s' → Sp F μ μ' s s' → FlV (Dm F μ') s'.heap fl f → Q f s') → wpR Γ.M A (exec st (F.env sc)) Q E s

theorem Sx.grow {Γ h₀ sc F σ μ s s'} {cs : Scope} (x : Sx Γ h₀ sc F σ μ s cs) (g : Gr s s') : Sx Γ h₀ sc F σ μ s' cs :=
  { x.toSt.grow g with
    keep := x.keep.trans g.keep
    baseh := x.baseh
    newL := x.newL
    cells := fun y e => let ⟨c, v, a, b, d⟩ := x.cells y e; ⟨c, v, a, b, d.keeps g.keep⟩
    cellsAll := fun y c e => let ⟨v, d⟩ := x.cellsAll y c e; ⟨v, d.keeps g.keep⟩
    cellsApart := x.cellsApart
    ownNew := x.ownNew
    dold := x.dold
    apart := x.apart }

/-- what an update of an object that no tree reads leaves -/
theorem V.same {D : Addr → Prop} {h h' : Heap} {c : Addr} {o : Obj} (hs : Heap.SameBut c h h') (ho : h.get? c = some o) (hd : ¬ DataOk o.data) {x : PV} {v : Value} (e : V D h x v) : V D h' x v :=
  V.move (fun b o' hb hd' => (hs.2 b (fun q => by subst q; rw [ho] at hb; cases hb; exact hd hd'.ok.1)).trans hb) (fun _ _ _ d => d) e
theorem Vs.same {D : Addr → Prop} {h h' : Heap} {c : Addr} {o : Obj} (hs : Heap.SameBut c h h') (ho : h.get? c = some o) (hd : ¬ DataOk o.data) {x : List PV} {v : List Value} (e : Vs D h x v) : Vs D h' x v :=
  Vs.move (fun b o' hb hd' => (hs.2 b (fun q => by subst q; rw [ho] at hb; cases hb; exact hd hd'.ok.1)).trans hb) (fun _ _ _ d => d) e
theorem POat.same {D : Addr → Prop} {h h' : Heap} {c a : Addr} {o : Obj} {p : PO} (hs : Heap.SameBut c h h') (ho : h.get? c = some o) (hd : ¬ DataOk o.data) (hb : ∀ l n, o.data ≠ .bytearray l n) (e : POat D h a p) : POat D h' a p := by
  cases p with
  | list xs =>
    obtain ⟨items, n, ho', e⟩ := e
    refine ⟨items, n, (hs.2 a (fun q => ?_)).trans ho', e.same hs ho hd⟩
    subst q; rw [ho] at ho'; cases ho'; exact hd trivial
  | barr l =>
    refine (hs.2 a (fun q => ?_)).trans e
    subst q
    have e' : h.get? a = some { cls := .type "bytearray", data := .bytearray l.toArray } := e
    rw [ho] at e'; cases e'; exact hb _ _ rfl

section
variable {Γ : Cx} {k : Nat} {sc : Scope} {σ : Loc} {μ : Own} {pos : Pos} {P : Fl → Loc → Own → Prop} {A : Around} {F : Fm} {h₀ : Heap} {s : Shared} {E : Value → Shared → Prop}

theorem lookup_cons_ne {x y : Str} {v : PV} {σ : Loc} (h : y ≠ x) : ((x, v) :: σ : Loc).lookup y = σ.lookup y := by
  rw [List.lookup_cons]
  have : (y == x) = false := beq_eq_false_iff_ne.mpr h
  rw [this]
theorem lookup_cons_self {x : Str} {v : PV} {σ : Loc} : ((x, v) :: σ : Loc).lookup x = some v := by
  rw [List.lookup_cons]; simp

def isPlace : Option NameKind → Bool
  | some .local | some .cell => true
  | _ => false

theorem Sx.store {x : Str} {v : PV} {val : Value} {cs : Scope} {Q : Unit → Shared → Prop} (X : Sx Γ h₀ sc F σ μ s cs) (hv : V (Dm F μ) s.heap v val) (hl : isPlace (sc.names.lookup x) = true) (hk : sc.kind = .function)
    (hQ : ∀ s', Sx Γ h₀ sc F ((x, v) :: σ) μ s' cs → Sp F μ μ s s' → V (Dm F μ) s'.heap v val → Q () s') (hsame : sc.names.lookup x = cs.names.lookup x := by rfl) : wpAny Γ.M A (storeName (F.env sc) x val) Q E s := by
  obtain ⟨m, hn, hvs⟩ := X.ns
  obtain ⟨oL, es, ep, hoL, hdL, hkL, hfL⟩ := id hn
  have hnotL : ¬ DataOk oL.data := by rw [hdL]; exact id
  have hbL : ∀ l n, oL.data ≠ .bytearray l n := by rw [hdL]; intro _ _ q; cases q
  cases hx : sc.names.lookup x with
  | none => rw [hx] at hl; cases hl
  | some kd =>
    rw [hx] at hl
    have hkd : (F.env sc).kindOf x = some kd := hx
    cases kd with
    | «local» =>
      refine wpAny_storeName_local (env := F.env sc) hkd hn (fun h' hn' hs => ?_) (by show (sc.kind == .class || (sc.kind == .module && _)) = false; rw [hk]; rfl)
      have hne : ∀ b o, h₀.get? b = some o → b ≠ F.L := fun b o e q => by rw [q, X.newL] at e; cases e
      have hcell : ∀ c w, s.heap.IsCell c w → c ≠ F.L := fun c w ⟨o, ho, hd⟩ q => by subst q; rw [hoL] at ho; cases ho; rw [hdL] at hd; cases hd
      have hv' := hv.same hs hoL hnotL
      have halive : ∀ b, (s.heap.get? b).isSome → (h'.get? b).isSome := fun b e => by
        by_cases q : b = F.L
        · subst q; obtain ⟨o', _, _, ho', _⟩ := hn'; rw [ho']; rfl
        · rw [hs.2 b q]; exact e
      refine hQ _ ⟨⟨X.ok, fun b o e => (hs.2 b (hne b o (X.baseh b o e))).trans (X.base b o e), ⟨_, hn', fun y w a b => ?_⟩, fun y w a b => ?_, fun a o hm => (X.own a o hm).same hs hoL hnotL hbL, fun b hb => halive b (X.dal b hb)⟩,
        fun b o e => (hs.2 b (hne b o e)).trans (X.keep b o e), X.baseh, X.newL, fun y e => ?_, fun y c' e => ?_, X.cellsApart, X.ownNew, X.dold, X.apart⟩
        ⟨fun b o e h1 _ _ => (hs.2 b h1).trans e, fun b e => ?_, fun _ _ e => e, rfl, rfl⟩ hv'
      · by_cases q : y = x
        · subst q; rw [lookup_cons_self] at a; cases a; exact ⟨val, if_pos rfl, hv'⟩
        · rw [lookup_cons_ne q] at a
          obtain ⟨w', e1, e2⟩ := hvs y w a b
          exact ⟨w', by show (if y = x then some val else m y) = some w'; rw [if_neg q]; exact e1, e2.same hs hoL hnotL⟩
      · have q : y ≠ x := by rintro rfl; rw [hx] at b; rcases b with b | b <;> cases b
        rw [lookup_cons_ne q] at a
        obtain ⟨c, w', e1, e2, e3⟩ := X.cel y w a b
        exact ⟨c, w', e1, e2.sameBut hs (hcell _ _ e2), e3.same hs hoL hnotL⟩
      · obtain ⟨c, w, a1, a2, a3⟩ := X.cells y e
        exact ⟨c, w, a1, a2, a3.sameBut hs (hcell _ _ a3)⟩
      · obtain ⟨w, a3⟩ := X.cellsAll y c' e
        exact ⟨w, a3.sameBut hs (hcell _ _ a3)⟩
      · exact halive b e
    | cell =>
      obtain ⟨c, w, c1, c2, c3⟩ := X.cells x (hsame ▸ hx)
      obtain ⟨oc, hoc, hdc⟩ := id c3
      have hnotc : ¬ DataOk oc.data := by rw [hdc]; exact id
      have hbc : ∀ l n, oc.data ≠ .bytearray l n := by rw [hdc]; intro _ _ q; cases q
      refine wpAny_storeName_cell (env := F.env sc) hk hkd c1 c3 fun h' hc' hs => ?_
      have hLc : F.L ≠ c := fun q => by rw [q, hoc] at hoL; cases hoL; rw [hdL] at hdc; cases hdc
      have hne : ∀ b o, h₀.get? b = some o → b ≠ c := fun b o e q => by rw [q, c2] at e; cases e
      have hv' := hv.same hs hoc hnotc
      have halive : ∀ b, (s.heap.get? b).isSome → (h'.get? b).isSome := fun b e => by
        by_cases q : b = c
        · subst q; obtain ⟨o', ho', _⟩ := hc'; rw [ho']; rfl
        · rw [hs.2 b q]; exact e
      refine hQ _ ⟨⟨X.ok, fun b o e => (hs.2 b (hne b o (X.baseh b o e))).trans (X.base b o e), ⟨m, hn.sameBut hs hLc, fun y w a b => ?_⟩, fun y w a b => ?_, fun a o hm => (X.own a o hm).same hs hoc hnotc hbc, fun b hb => halive b (X.dal b hb)⟩,
        fun b o e => (hs.2 b (hne b o e)).trans (X.keep b o e), X.baseh, X.newL, fun y e => ?_, fun y c' e => ?_, X.cellsApart, X.ownNew, X.dold, X.apart⟩
        ⟨fun b o e _ h2 _ => (hs.2 b (fun q => h2 x (by rw [q]; exact c1))).trans e, fun b e => ?_, fun _ _ e => e, rfl, rfl⟩ hv'
      · have q : y ≠ x := by rintro rfl; rw [hx] at b; cases b
        rw [lookup_cons_ne q] at a
        obtain ⟨w', e1, e2⟩ := hvs y w a b
        exact ⟨w', e1, e2.same hs hoc hnotc⟩
      · by_cases q : y = x
        · subst q; rw [lookup_cons_self] at a; cases a; exact ⟨c, val, c1, hc', hv'⟩
        · rw [lookup_cons_ne q] at a
          obtain ⟨c', w', e1, e2, e3⟩ := X.cel y w a b
          have : c' ≠ c := fun z => q (X.cellsApart x y c (hsame ▸ hx) c1 (z ▸ e1))
          exact ⟨c', w', e1, e2.sameBut hs this, e3.same hs hoc hnotc⟩
      · by_cases q : y = x
        · subst q; exact ⟨c, _, c1, c2, hc'⟩
        · obtain ⟨c', w, a1, a2, a3⟩ := X.cells y e
          have : c' ≠ c := fun z => q (X.cellsApart x y c (hsame ▸ hx) c1 (z ▸ a1))
          exact ⟨c', w, a1, a2, a3.sameBut hs this⟩
      · by_cases q : c' = c
        · subst q; exact ⟨_, hc'⟩
        · obtain ⟨w, a3⟩ := X.cellsAll y c' e
          exact ⟨w, a3.sameBut hs q⟩
      · exact halive b e
    | _ => cases hl

theorem Xs.nil (h : P .next σ μ) : Xs Γ k sc σ μ [] P :=
  fun A n F h₀ s Q E _ _ X hQ => wpR_execs_nil (hQ .next σ μ _ s h X (Sp.refl F μ s) rfl)

theorem Xs.cons {st : Stmt} {rest : List Stmt} (h : X1 Γ k sc σ μ st (fun fl σ' μ' => match fl with | .next => Xs Γ k sc σ' μ' rest P | fl => P fl σ' μ')) : Xs Γ k sc σ μ (st :: rest) P := by
  intro A n F h₀ s Q E hn hA X hQ
  refine wpR_execs_cons (h A n F h₀ s _ _ hn hA X fun fl σ' μ' f s' hP X' sp hf => ?_)
  cases fl with
  | next =>
    have : f = .next := hf
    subst this
    exact hP A n F h₀ s' _ _ hn hA X' fun fl2 σ2 μ2 f2 s2 hP2 X2 sp2 hf2 => hQ fl2 σ2 μ2 f2 s2 hP2 X2 (sp.trans sp2) hf2
  | brk => have : f = .brk := hf; subst this; exact hQ _ _ _ _ _ hP X' sp rfl
  | cont => have : f = .cont := hf; subst this; exact hQ _ _ _ _ _ hP X' sp rfl
  | ret v =>
    obtain ⟨val, rfl, hv⟩ := hf
    exact hQ _ _ _ _ _ hP X' sp ⟨val, rfl, hv⟩

theorem St.less {σ' : Loc} (X : St Γ sc F σ μ s) (h : ∀ x v, σ'.lookup x = some v → σ.lookup x = some v) : St Γ sc F σ' μ s :=
  { X with
    ns := let ⟨m, hn, hv⟩ := X.ns; ⟨m, hn, fun x v a b => hv x v (h x v a) b⟩
    cel := fun x v a b => X.cel x v (h x v a) b }
/-- a state that says less (fewer names) -/
theorem Sx.less {σ' : Loc} {cs : Scope} (X : Sx Γ h₀ sc F σ μ s cs) (h : ∀ x v, σ'.lookup x = some v → σ.lookup x = some v) : Sx Γ h₀ sc F σ' μ s cs :=
  { X with
    ns := let ⟨m, hn, hv⟩ := X.ns; ⟨m, hn, fun x v a b => hv x v (h x v a) b⟩
    cel := fun x v a b => X.cel x v (h x v a) b }
theorem Xs.less {σ' : Loc} {sts : List Stmt} (h : ∀ x v, σ'.lookup x = some v → σ.lookup x = some v) (hx : Xs Γ k sc σ' μ sts P) : Xs Γ k sc σ μ sts P :=
  fun A n F h₀ s Q E hn hA X hQ => hx A n F h₀ s Q E hn hA (X.less h) hQ
theorem X1.mono {P' : Fl → Loc → Own → Prop} {st : Stmt} (hx : X1 Γ k sc σ μ st P') (h : ∀ fl σ' μ', P' fl σ' μ' → P fl σ' μ') : X1 Γ k sc σ μ st P :=
  fun A n F h₀ s Q E hn hA X hQ => hx A n F h₀ s Q E hn hA X fun fl σ' μ' f s' hP => hQ fl σ' μ' f s' (h _ _ _ hP)

theorem X1.assign {x : Str} {p' : Pos} {e : Expr} {v : PV} (he : Ev Γ k sc σ μ e v) (h : P .next ((x, v) :: σ) μ) (hl : isPlace (sc.names.lookup x) = true := by decide +kernel) (hk : sc.kind = .function := by kernel_rfl)
    (hs : ∀ F : Fm, swapsWith e (some (.Name x p')) pos.line (F.env sc) = pure false := by intro _; kernel_rfl) : X1 Γ k sc σ μ (.Assign [.Name x p'] e pos) P := by
  intro A n F h₀ s Q E hn hA X hQ
  refine wpR_Assign_Name (he A n F s _ _ hn hA X.toSt fun val s₁ g hv => ?_) (hs F)
  exact toR ((X.grow g).store hv hl hk fun s₂ X₂ sp₂ _ => hQ .next _ μ _ s₂ h X₂ ((Sp.gr g).trans sp₂) rfl)

theorem X1.aug {x : Str} {p' : Pos} {op : Operator} {e : Expr} {a b c : PV} (ha : σ.lookup x = some a) (he : Ev Γ k sc σ μ e b) (ho : Op2 Γ (inplaceOp op) a b c) (h : P .next ((x, c) :: σ) μ)
    (hl : isPlace (sc.names.lookup x) = true := by decide +kernel) (hk : sc.kind = .function := by kernel_rfl) (hd : (x == ("__debug__" : Str)) = false := by decide +kernel) (hc : (x == ("__classdict__" : Str)) = false := by decide +kernel) :
    X1 Γ k sc σ μ (.AugAssign (.Name x p') op e pos) P := by
  intro A n F h₀ s Q E hn hA X hQ
  refine wpR_AugAssign_Name ?_
  have hld : ∀ (Q' : Value → Shared → Prop), (∀ val, V (Dm F μ) s.heap a val → Q' val s) → wpR Γ.M A (loadName (F.env sc) x) Q' E s := by
    intro Q' hq
    cases hx : sc.names.lookup x with
    | none => rw [hx] at hl; cases hl
    | some kd =>
      rw [hx] at hl
      have hkd : (F.env sc).kindOf x = some kd := hx
      cases kd with
      | «local» =>
        obtain ⟨m, hm, hv⟩ := X.ns
        obtain ⟨val, e, ev⟩ := hv x a ha hx
        exact toR (wpAny_loadName_local (env := F.env sc) hk hkd hm e (hq _ ev))
      | cell =>
        obtain ⟨c, val, e1, e2, e3⟩ := X.cel x a ha (.inl hx)
        exact toR (wpAny_loadName_cell (env := F.env sc) hk hkd e1 e2 (hq _ e3))
      | _ => cases hl
  refine hld _ fun va hva => he A n F s _ _ hn hA X.toSt fun vb s₁ g hvb => ?_
  refine toR (ho A n _ s₁ va vb _ _ (by omega) hA X.ok (X.grow g).base (hva.grow g.keep) hvb (X.grow g).toSt.dom fun vc s₂ g₂ hvc => ?_)
  exact toR (((X.grow g).grow g₂).store hvc hl hk fun s₃ X₃ sp₃ _ => hQ .next _ μ _ s₃ h X₃ ((Sp.gr (g.trans g₂)).trans sp₃) rfl)

theorem X1.ite {t : Expr} {body orelse : List Stmt} {c : Bool} (ht : Tr Γ k sc σ μ t c) (h1 : c = true → Xs Γ k sc σ μ body P) (h2 : c = false → Xs Γ k sc σ μ orelse P) : X1 Γ k sc σ μ (.If t body orelse pos) P := by
  intro A n F h₀ s Q E hn hA X hQ
  refine wpR_If (ht A n F s _ _ hn hA X.toSt fun s₁ g => ?_)
  cases c with
  | true => exact h1 rfl A n F h₀ s₁ _ _ hn hA (X.grow g) fun fl σ' μ' f s' hP X' sp hf => hQ fl σ' μ' f s' hP X' ((Sp.gr g).trans sp) hf
  | false => exact h2 rfl A n F h₀ s₁ _ _ hn hA (X.grow g) fun fl σ' μ' f s' hP X' sp hf => hQ fl σ' μ' f s' hP X' ((Sp.gr g).trans sp) hf

theorem X1.ret {e : Expr} {v : PV} (he : Ev Γ k sc σ μ e v) (h : P (.ret v) σ μ) : X1 Γ k sc σ μ (.Return (some e) pos) P := by
  intro A n F h₀ s Q E hn hA X hQ
  exact wpR_Return_some (he A n F s _ _ hn hA X.toSt fun val s₁ g hv => hQ (.ret v) σ μ _ s₁ h (X.grow g) (Sp.gr g) ⟨val, rfl, hv⟩)
/-! ### while -/
def Wh (Γ : Cx) (k : Nat) (sc : Scope) (σ : Loc) (μ : Own) (test : Expr) (body orelse : List Stmt) (P : Fl → Loc → Own → Prop) : Prop :=
  ∀ (A : Around) (n : Nat) (F : Fm) (h₀ : Heap) (s : Shared) (R : Result → Shared → Prop), n + k ≤ 8 → Lv n A → Sx Γ h₀ sc F σ μ s →
    (∀ fl σ' μ' f s', P fl σ' μ' → Sx Γ h₀ sc F σ' μ' s' → Sp F μ μ' s s' → FlV (Dm F μ') s'.heap fl f → R (.ok f) s') → codeR Γ.M A (.whileLoop test body orelse (F.env sc)) R s
theorem X1.while {t : Expr} {body orelse : List Stmt} (h : Wh Γ k sc σ μ t body orelse P) : X1 Γ k sc σ μ (.While t body orelse pos) P := by
  intro A n F h₀ s Q E hn hA X hQ
  exact wpR_While (h A n F h₀ s _ hn hA X fun fl σ' μ' f s' hP X' sp hf => hQ fl σ' μ' f s' hP X' sp hf)
theorem Wh.step {t : Expr} {body orelse : List Stmt} {c : Bool} (ht : Tr Γ k sc σ μ t c)
    (h1 : c = true → Xs Γ k sc σ μ body (fun fl σ' μ' => match fl with | .next | .cont => Wh Γ k sc σ' μ' t body orelse P | .brk => P .next σ' μ' | .ret v => P (.ret v) σ' μ'))
    (h2 : c = false → Xs Γ k sc σ μ orelse P) : Wh Γ k sc σ μ t body orelse P := by
  intro A n F h₀ s R hn hA X hR
  refine codeR_while1 (ht A n F s _ _ hn hA X.toSt fun s₁ g => ?_)
  cases c with
  | true =>
    refine h1 rfl A n F h₀ s₁ _ _ hn hA (X.grow g) fun fl σ' μ' f s' hP X' sp hf => ?_
    have sp' := (Sp.gr g).trans sp
    cases fl with
    | next => have : f = .next := hf; subst this; exact hP A n F h₀ s' R hn hA X' fun fl2 σ2 μ2 f2 s2 hP2 X2 sp2 hf2 => hR fl2 σ2 μ2 f2 s2 hP2 X2 (sp'.trans sp2) hf2
    | cont => have : f = .cont := hf; subst this; exact hP A n F h₀ s' R hn hA X' fun fl2 σ2 μ2 f2 s2 hP2 X2 sp2 hf2 => hR fl2 σ2 μ2 f2 s2 hP2 X2 (sp'.trans sp2) hf2
    | brk => have : f = .brk := hf; subst this; exact hR .next σ' μ' _ s' hP X' sp' rfl
    | ret v => obtain ⟨val, rfl, hv⟩ := hf; exact hR (.ret v) σ' μ' _ s' hP X' sp' ⟨val, rfl, hv⟩
  | false => exact h2 rfl A n F h₀ s₁ _ _ hn hA (X.grow g) fun fl σ' μ' f s' hP X' sp hf => hR fl σ' μ' f s' hP X' ((Sp.gr g).trans sp) hf
theorem Wh.less {σ' : Loc} {t : Expr} {body orelse : List Stmt} (h : ∀ x v, σ'.lookup x = some v → σ.lookup x = some v) (hx : Wh Γ k sc σ' μ t body orelse P) : Wh Γ k sc σ μ t body orelse P :=
  fun A n F h₀ s R hn hA X hR => hx A n F h₀ s R hn hA (X.less h) hR
end
end Mine

namespace Mine

/-! ## calls -/

def KeepOk (Γ : Cx) (f : Value) : Prop := ∀ h, Kp Γ.B h → ∃ k, (k = Keeper.frame ∨ k = Keeper.machine ∨ k = Keeper.boundFrame) ∧ Looks Γ.M h (keeperOf f) k

theorem KeepOk.builtin {Γ : Cx} {id : String} : KeepOk Γ (.builtin id) := fun h _ => ⟨.machine, .inr (.inl rfl), Looks.of_pure rfl⟩
theorem KeepOk.type {Γ : Cx} {id : String} : KeepOk Γ (.type id) := fun h _ => ⟨.machine, .inr (.inl rfl), Looks.of_pure rfl⟩
theorem KeepOk.fn {Γ : Cx} {a : Addr} {o : Obj} {fd : FuncData} (ho : Γ.B.get? a = some o) (hd : o.data = .func fd) : KeepOk Γ (.ref a) := fun h hk =>
  ⟨.frame, .inl rfl, by
    obtain ⟨c, d, dt, sl⟩ := o
    simp only at hd
    subst hd
    exact (Looks.ld (part := none) (hk a _ ho)).andThen Looks.now⟩

theorem starEach_plain_any {env : Env} {pos : Pos} : ∀ (es : List Expr), es.any isStarred = false → (backTo pos (starEach es env)).any (·.1) = false
  | [], _ => rfl
  | e :: es, h => by
    rw [List.any_cons, Bool.or_eq_false_iff] at h
    have ih := starEach_plain_any (env := env) (pos := pos) es h.2
    have he := h.1
    cases e with
    | Starred v p => cases he
    | _ => exact ih

section
variable {Γ : Cx} {k : Nat} {sc : Scope} {σ : Loc} {μ : Own} {pos : Pos}

theorem Ev.call {x : Str} {p : Pos} {args : List Expr} {f : Value} {vs : List PV} {r : PV} (hf : Ev Γ k sc σ μ (.Name x p) (.obj f)) (hkp : KeepOk Γ f) (ha : Es Γ k sc σ μ pos args vs) (hc : CallOk Γ k f vs r)
    (hp : args.any isStarred = false := by kernel_rfl) : Ev Γ k sc σ μ (.Call (.Name x p) args [] pos) r := by
  intro A n F s Q E hn hA st hQ
  refine wpR_CallName (hf A n F s _ _ hn hA st fun fv s₁ g₁ hfv => ?_)
  rw [V_obj] at hfv; subst hfv
  refine wpR_callWith (P := fun h => Kp Γ.B h) (starEach_plain_any args hp) hkp ?_
  refine wpR_evalArgs hp (ha A n F s₁ _ _ hn hA (st.grow g₁) fun vals s₂ g₂ hvs => ?_)
  have st₂ := (st.grow g₁).grow g₂
  refine ⟨st₂.base, ?_⟩
  show wpR _ _ (PySem.call fv ([] ++ vals) []) Q E s₂
  exact hc A n (Dm F μ) s₂ vals Q E hn hA st.ok st₂.base hvs st₂.dom fun val s₃ g₃ hv => hQ val s₃ ((g₁.trans g₂).trans g₃) hv

theorem Lv.deeper {n : Nat} {A : Around} {env : Env} (h : Lv n A) : Lv (n + 1) (A.deeper env) :=
  ⟨h.handled, by have := h.depth; show A.depth + 1 ≤ _; omega, by have := h.units; show A.units + 3 ≤ _; omega, h.guards⟩

theorem lookup_zip_V {D : Addr → Prop} {h : Heap} : ∀ (names : List Str) (args : List PV) (vals : List Value) (x : Str) (v : PV), names.Nodup → Vs D h args vals → (names.zip args).lookup x = some v →
    ∃ val, (names.zip vals).reverse.lookup x = some val ∧ V D h v val := by
  intro names args vals x v hnd hvs hl
  have key : ∀ (names : List Str) (args : List PV) (vals : List Value), Vs D h args vals → (names.zip args).lookup x = some v → ∃ val, (names.zip vals).lookup x = some val ∧ V D h v val := by
    intro names
    induction names with
    | nil => intro args vals _ hl; simp at hl
    | cons y ys ih =>
      intro args vals hvs hl
      cases args with
      | nil => simp at hl
      | cons a as =>
        rw [Vs_cons] at hvs
        obtain ⟨w, r, rfl, h1, h2⟩ := hvs
        rw [List.zip_cons_cons, List.lookup_cons] at hl ⊢
        cases hxy : (x == y) with
        | true => rw [hxy] at hl; simp at hl; subst hl; exact ⟨w, rfl, h1⟩
        | false => rw [hxy] at hl; exact ih as r h2 hl
  obtain ⟨val, h1, h2⟩ := key names args vals hvs hl
  refine ⟨val, ?_, h2⟩
  have rev : ∀ (l : List (Str × Value)), (l.map (·.1)).Nodup → l.reverse.lookup x = l.lookup x := by
    intro l
    induction l with
    | nil => intro _; rfl
    | cons p l ih =>
      intro hn
      obtain ⟨a, b⟩ := p
      simp only [List.map_cons, List.nodup_cons] at hn
      rw [List.reverse_cons, List.lookup_append, ih hn.2, List.lookup_cons]
      cases hxa : (x == a) with
      | true =>
        have hx := beq_iff_eq.mp hxa
        subst hx
        have : l.lookup x = none := by
          rw [List.lookup_eq_none_iff]
          intro p hp
          have : p.1 ≠ x := fun q => hn.1 (List.mem_map.mpr ⟨p, hp, q⟩)
          exact beq_eq_false_iff_ne.mpr this.symm |> fun h => by simpa using h
        rw [this, List.lookup_cons]; simp
      | false =>
        rw [List.lookup_cons, hxa]; simp
  rw [rev _ ?_]
  · exact h1
  · have : ∀ (ns : List Str) (vs : List Value), ((ns.zip vs).map (·.1)).Sublist ns := by
      intro ns
      induction ns with
      | nil => intro vs; simp
      | cons n ns ih =>
        intro vs
        cases vs with
        | nil => simp
        | cons v vs => simpa using ih vs
    exact hnd.sublist (this _ _)

/-- a call of a plain def of the text -/
theorem CallOk.fn {a : Addr} {o : Obj} {name : Str} {params : Arguments} {body : List Stmt} {scope : Scope} {pm cd doc : Value} {args : List PV} {r : PV}
    (ho : Γ.B.get? a = some o) (hd : o.data = .func (docDef name params body scope pm cd doc)) (hcd : Γ.B.CodeRec cd name)
    (hbind : ∀ vals : List Value, vals.length = args.length → bindArgs (docDef name params body scope pm cd doc) ⟨vals, []⟩ = pure ((params.args.map (·.arg)).zip vals))
    (hbody : Xs Γ k scope ((params.args.map (·.arg)).zip args) [] body (fun fl _ μ' => fl = .ret r))
    (hnd : (params.args.map (·.arg)).Nodup := by decide +kernel)
    (hloc : (params.args.map (·.arg)).all (fun x => decide (scope.names.lookup x = some .local)) = true := by decide +kernel)
    (hco : scope.isCoroutine = false := by kernel_rfl) (hgen : scope.isGenerator = false := by kernel_rfl) (hk : scope.kind = .function := by kernel_rfl)
    (hcell : (scope.names.all fun x => decide (x.2 ≠ .cell)) = true := by decide +kernel) : CallOk Γ (k + 1) (.ref a) args r := by
  intro A n D s vals Q E hn hA ok hB hvs hD hQ
  have hcell' : ∀ x ∈ scope.names, x.2 ≠ .cell := fun x hx => of_decide_eq_true (List.all_eq_true.mp hcell x hx)
  have hlen := hvs.length
  refine wpR_call (codeR_call_plain (binds := (params.args.map (·.arg)).zip vals) (by have := hA.depth; show _ < 1000; omega) (hB a o ho) hd (ok.nolimit.keeps hB) (hcd.keeps hB) (hbind vals hlen) ?_ (fun h₁ F₁ => ?_) hco hgen hk hcell')
  · intro x hx
    have := List.of_mem_zip hx
    exact of_decide_eq_true (List.all_eq_true.mp hloc x.1 this.1)
  · let F : Fm := ⟨s.heap.objs.size, [], name ++ ".<locals>.", some a, cd, some s.heap.objs.size, D⟩
    have hkeep : Kp s.heap h₁ := F₁.keep
    have hL : s.heap.get? s.heap.objs.size = none := by
      cases q : s.heap.get? s.heap.objs.size with
      | none => rfl
      | some o' => exact absurd (Heap.lt_size q) (Nat.lt_irrefl _)
    have X : Sx Γ s.heap scope F ((params.args.map (·.arg)).zip args) [] { s with heap := h₁, toks := s.toks + ((params.args.map (·.arg)).zip vals).length } := by
      have hvs' : Vs (Dm F []) h₁ args vals := (hvs.grow hkeep).less fun b o _ hb => by
        rcases hb with hb | hb
        · exact hb
        · simp at hb
      refine ⟨⟨ok, hB.trans hkeep, ⟨_, F₁.ns, fun x v h1 h2 => lookup_zip_V _ _ _ x v hnd hvs' h1⟩, fun x v h1 h2 => ?_, fun _ _ hm => (nomatch hm), fun b hb => hkeep.alive b (hD b hb)⟩,
        hkeep, hB, hL, fun x hx => ?_, fun x c h1 => (nomatch h1), fun x y c _ h1 => (nomatch h1), fun b hb => (nomatch hb), hD, List.nodup_nil⟩
      · exfalso
        have hx : x ∈ (params.args.map (·.arg)) := by
          obtain ⟨⟨a', b'⟩, hm, he⟩ : ∃ p ∈ (params.args.map (·.arg)).zip args, p.1 = x := by
            have := List.lookup_isSome_iff.mp (show (((params.args.map (·.arg)).zip args).lookup x).isSome from by rw [h1]; rfl)
            obtain ⟨p, hp, hpx⟩ := this
            exact ⟨p, hp, (beq_iff_eq.mp hpx).symm⟩
          have := List.of_mem_zip hm
          simp only at he; subst he; exact this.1
        have := of_decide_eq_true (List.all_eq_true.mp hloc x hx)
        rw [this] at h2
        rcases h2 with h2 | h2 <;> cases h2
      · exfalso
        have hm : (x, NameKind.cell) ∈ scope.names := by
          have := List.lookup_eq_some_iff.mp hx
          obtain ⟨l₁, l₂, he, _⟩ := this
          rw [he]; simp
        exact hcell' _ hm rfl
    refine hbody (A.deeper (F.env scope)) (n + 1) F s.heap _ _ _ (by omega) hA.deeper X fun fl σ' μ' f s' hP X' sp hf => ?_
    subst hP
    obtain ⟨val, rfl, hv⟩ := hf
    refine hQ val s' ⟨X'.keep, sp.gens, sp.os⟩ (hv.less fun b o _ hb => .inl hb)
end
end Mine

namespace Mine

/-! ## iteration -/

def isTupE : Expr → Bool
  | .Tuple _ _ _ => true
  | _ => false
/-- an iterator; nd: its target must be a tuple -/
structure Iter (Γ : Cx) (A : Around) (it : Addr) (wr : List Addr) (J : (Addr → Prop) → List PV → Heap → Prop) (nd : Bool := false) : Prop where
  move : ∀ D D' xs h h', (∀ b o, h.get? b = some o → DataOk o.data → (¬ D b ∨ o.cls = .type "tuple" ∨ o.cls = .type "range") → h'.get? b = some o) → (∀ b o, h.get? b = some o → D' b → D b) → J D xs h → J D' xs h'
  wrs : ∀ D xs h, J D xs h → ∀ b ∈ wr, ¬ D b ∧ ∃ o vs, h.get? b = some o ∧ o.data = .fields vs ∧ o.cls ≠ .type "range"
  item : ∀ (D : Addr → Prop) x xs (s : Shared) target (Q : Value → Shared → Prop) (E : Value → Shared → Prop), J D (x :: xs) s.heap → (∀ b, D b → (s.heap.get? b).isSome) → (nd = true → isTupE target = true) →
    (∀ v h' tk, V D h' x v → J D xs h' → (∀ b o, b ∉ wr → s.heap.get? b = some o → h'.get? b = some o) → Q v { s with heap := h', toks := tk }) →
    wpAny Γ.M A (pyNext (.ref it)) (fun r s₁ => match r with | some v => wpAny Γ.M A (letOwnedTupleGo target (.ref it) v) (fun _ s₂ => Q v s₂) E s₁ | none => False) E s
  done : ∀ D (s : Shared) (Q : Shared → Prop) (E : Value → Shared → Prop), J D [] s.heap →
    (∀ h' tk, (∀ b o, b ∉ wr → s.heap.get? b = some o → h'.get? b = some o) → Q { s with heap := h', toks := tk }) → wpAny Γ.M A (pyNext (.ref it)) (fun r s₁ => r = none ∧ Q s₁) E s
  self : ∀ D xs (s : Shared) (Q : Value → Shared → Prop) (E : Value → Shared → Prop), J D xs s.heap → Q (.ref it) s → wpAny Γ.M A (pyIter (.ref it)) Q E s

def IterOk (Γ : Cx) (p : PV) (xs : List PV) : Prop :=
  ∀ (A : Around) (n : Nat) (D : Addr → Prop) (s : Shared) (v : Value) (Q : Value → Shared → Prop) (E : Value → Shared → Prop), n ≤ 8 → Lv n A → Kp Γ.B s.heap → V D s.heap p v → (∀ b, D b → (s.heap.get? b).isSome) →
    (∀ it wr J s', Iter Γ A it wr J → J D xs s'.heap → Gr s s' → (∀ b ∈ wr, s.heap.get? b = none) → Q (.ref it) s') → wpAny Γ.M A (pyIter v) Q E s

theorem letOwned_other {M : Model} {A : Around} {E : Value → Shared → Prop} {s : Shared} {target : Expr} {it : Addr} {v : Value} {o : Obj} {n : String} {vs : Array Value} {Q : Unit → Shared → Prop}
    (ho : s.heap.get? it = some o) (hc : o.cls = .type n) (hd : o.data = .fields vs)
    (hn : ["enumerate", "zip", "dict_itemiterator", "dict_reverseitemiterator", "odict_iterator", "itertools.zip_longest", "itertools.pairwise"].contains n = false) (h : Q () s) :
    wpAny M A (letOwnedTupleGo target (.ref it) v) Q E s := by
  have key : ∀ a, wpAny M A (do
      let o ← load it
      match o.cls, o.data with
      | .type n, .fields vs =>
        if ["enumerate", "zip", "dict_itemiterator", "dict_reverseitemiterator", "odict_iterator", "itertools.zip_longest", "itertools.pairwise"].contains n && vs[0]? == some (rawInt a) then
          rule "for.unpacks-the-owned-tuple"
          updateField it 0 .none
      | _, _ => pure ()) Q E s := by
    intro a
    refine wpAny_bind (wpAny_load ho ?_)
    rw [hc, hd]
    dsimp only
    rw [hn]
    exact wpAny_pure h
  unfold letOwnedTupleGo
  split
  · cases v with
    | ref a => exact key a
    | _ => exact wpAny_pure h
  · cases v with
    | ref a => exact key a
    | _ => exact wpAny_pure h
  · exact wpAny_pure h

def JList (it : Addr) (D : Addr → Prop) (xs : List PV) (h : Heap) : Prop :=
  ∃ l i items, ¬ D it ∧ ¬ D l ∧ l ≠ it ∧ h.IsListIter it l i ∧ h.IsList l items ∧ Vs D h xs (items.toList.drop i)
def rngItems (a c : Int) : Nat → List PV
  | 0 => []
  | n + 1 => .int a :: rngItems (a + c) c n
def JRng (it : Addr) (D : Addr → Prop) (xs : List PV) (h : Heap) : Prop :=
  ∃ a c n, ¬ D it ∧ IsRangeIter h it a ((n : Nat) : Int) c ∧ xs = rngItems a c n

theorem Vs.move' {D D' : Addr → Prop} {h h' : Heap}
    (hk : ∀ b o, h.get? b = some o → DataOk o.data → (¬ D b ∨ o.cls = .type "tuple" ∨ o.cls = .type "range") → h'.get? b = some o)
    (hD : ∀ b o, h.get? b = some o → D' b → D b) {xs : List PV} {vs : List Value} (e : Vs D h xs vs) : Vs D' h' xs vs :=
  Vs.move (fun b o hb hn => hk b o hb hn.ok.1 hn.ok.2) hD e

theorem dropStep {xs : List PV} {x : PV} {items : Array Value} {i : Nat} {D : Addr → Prop} {h : Heap} (e : Vs D h (x :: xs) (items.toList.drop i)) :
    ∃ v, items[i]? = some v ∧ V D h x v ∧ Vs D h xs (items.toList.drop (i + 1)) := by
  rw [Vs_cons] at e
  obtain ⟨v, r, h1, h2, h3⟩ := e
  refine ⟨v, ?_, h2, ?_⟩
  · have : (items.toList.drop i)[0]? = some v := by rw [h1]; rfl
    rw [List.getElem?_drop] at this
    simpa using this
  · have : items.toList.drop (i + 1) = r := by
      have : (items.toList.drop i).drop 1 = r := by rw [h1]; rfl
      rwa [List.drop_drop] at this
    rw [this]; exact h3
theorem dropEnd {items : Array Value} {i : Nat} {D : Addr → Prop} {h : Heap} (e : Vs D h [] (items.toList.drop i)) : items[i]? = none := by
  rw [Vs_nil] at e
  have : (items.toList.drop i)[0]? = none := by rw [e]; rfl
  rw [List.getElem?_drop] at this
  simpa using this

theorem Iter.list {Γ : Cx} {A : Around} (hh : A.handled = none) (it : Addr) : Iter Γ A it [it] (JList it) where
  move := by
    rintro D D' xs h h' hk hD ⟨l, i, items, h1, h2, h3, h4, h5, h6⟩
    have k1 : ∀ o, h.get? it = some o → h'.get? it = some o := fun o ho => by
      obtain ⟨o', ho', hc, hd⟩ := h4
      rw [ho] at ho'; cases ho'
      exact hk it o ho (by rw [hd]; trivial) (.inl h1)
    have k2 : ∀ o, h.get? l = some o → h'.get? l = some o := fun o ho => by
      obtain ⟨o', ho', hc, n, hd⟩ := h5
      rw [ho] at ho'; cases ho'
      exact hk l o ho (by rw [hd]; trivial) (.inl h2)
    have a1 : ¬ D' it := fun d => by obtain ⟨o', ho', _⟩ := h4; exact h1 (hD it o' ho' d)
    have a2 : ¬ D' l := fun d => by obtain ⟨o', ho', _⟩ := h5; exact h2 (hD l o' ho' d)
    obtain ⟨o, ho, r⟩ := h4
    obtain ⟨ol, hol, rl⟩ := h5
    exact ⟨l, i, items, a1, a2, h3, ⟨o, k1 o ho, r⟩, ⟨ol, k2 ol hol, rl⟩, h6.move' hk hD⟩
  wrs := by
    rintro D xs h ⟨l, i, items, h1, h2, h3, ⟨o, ho, hc, hd⟩, h5, h6⟩ b hb
    rw [List.mem_singleton] at hb; subst hb
    exact ⟨h1, o, _, ho, hd, by rw [hc]; decide⟩
  item := by
    rintro D x xs s target Q E ⟨l, i, items, h1, h2, h3, h4, h5, h6⟩ hal _ hQ
    obtain ⟨v, e1, e2, e3⟩ := dropStep h6
    refine wpAny_pyNext_list_item h4 h5 e1 fun h' hi' hs' => ?_
    obtain ⟨o, ho, hc, hd⟩ := id h4
    have hk : ∀ b o', s.heap.get? b = some o' → Node D b o' → h'.get? b = some o' := fun b o' hb hn => (hs'.2 b (fun q => by
      subst q; rw [ho] at hb; cases hb
      rcases hn with ⟨_, _, hn, _⟩ | ⟨hn, _⟩
      · rw [hd] at hn; cases hn
      · rw [hc] at hn; exact absurd hn (by decide))).trans hb
    obtain ⟨o2, ho2, hc2, hd2⟩ := id hi'
    refine letOwned_other ho2 hc2 hd2 (by decide) (hQ v h' _ (e2.move hk fun _ _ _ d => d) ⟨l, i + 1, items, h1, h2, h3, hi', ?_, e3.move hk fun _ _ _ d => d⟩ fun b o' hb e => (hs'.2 b (by simpa using hb)).trans e)
    obtain ⟨ol, hol, rl⟩ := h5
    exact ⟨ol, (hs'.2 l h3).trans hol, rl⟩
  done := by
    rintro D s Q E ⟨l, i, items, h1, h2, h3, h4, h5, h6⟩ hQ
    exact wpAny_pyNext_list_end hh h4 h5 (dropEnd h6) fun h' he => ⟨rfl, hQ h' _ fun b o hb e => he b o (by simpa using hb) e⟩
  self := by
    rintro D xs s Q E ⟨l, i, items, h1, h2, h3, h4, h5, h6⟩ hQ
    exact wpAny_pyIter_listiter h4 hQ

theorem Iter.rng {Γ : Cx} {A : Around} (hh : A.handled = none) (it : Addr) : Iter Γ A it [it] (JRng it) where
  move := by
    rintro D D' xs h h' hk hD ⟨a, c, n, h1, h2, h3⟩
    exact ⟨a, c, n, fun d => h1 (hD it _ h2 d), hk it _ h2 trivial (.inl h1), h3⟩
  wrs := by
    rintro D xs h ⟨a, c, n, h1, h2, h3⟩ b hb
    rw [List.mem_singleton] at hb; subst hb
    exact ⟨h1, _, _, h2, rfl, by show Value.type "range_iterator" ≠ Value.type "range"; decide⟩
  item := by
    rintro D x xs s target Q E ⟨a, c, n, h1, h2, h3⟩ hal _ hQ
    cases n with
    | zero => cases h3
    | succ n =>
      cases h3
      refine wpAny_pyNext_range_item h2 (by omega) fun h' hi' hs' => ?_
      refine letOwned_other (n := "range_iterator") hi' rfl rfl (by decide) (hQ _ h' _ (V.int _ _) ⟨a + c, c, n, h1, ?_, rfl⟩ fun b o' hb e => (hs'.2 b (by simpa using hb)).trans e)
      have e : ((n + 1 : Nat) : Int) - 1 = (n : Int) := by omega
      rw [e] at hi'
      exact hi'
  done := by
    rintro D s Q E ⟨a, c, n, h1, h2, h3⟩ hQ
    cases n with
    | zero => exact wpAny_pyNext_range_end hh h2 (by omega) fun h' he => ⟨rfl, hQ h' _ fun b o hb e => he b o (by simpa using hb) e⟩
    | succ n => cases h3
  self := by
    rintro D xs s Q E ⟨a, c, n, h1, h2, h3⟩ hQ
    exact wpAny_pyIter_rangeiter h2 hQ

theorem fresh_addr (h : Heap) : h.get? h.objs.size = none := by
  cases q : h.get? h.objs.size with
  | none => rfl
  | some o' => exact absurd (Heap.lt_size q) (Nat.lt_irrefl _)
theorem not_dom {D : Addr → Prop} {h : Heap} (hD : ∀ b, D b → (h.get? b).isSome) : ¬ D h.objs.size := fun d => by
  have := hD _ d; rw [fresh_addr] at this; cases this

theorem IterOk.lst {Γ : Cx} {xs : List PV} : IterOk Γ (.lst xs) xs := by
  intro A n D s v Q E _ hA hB hv hD hQ
  obtain ⟨l, items, rfl, h1, h2, h3⟩ := V_lst.mp hv
  refine wpAny_pyIter_list h2 (hQ _ _ (JList s.heap.objs.size) _ (Iter.list hA.handled _) ?_ (Gr.heap _ (Kp.push _ _)) fun b hb => by rw [List.mem_singleton] at hb; subst hb; exact fresh_addr _)
  have hlt : l ≠ s.heap.objs.size := by obtain ⟨o, ho, _⟩ := h2; exact Nat.ne_of_lt (Heap.lt_size ho)
  refine ⟨l, 0, items, not_dom hD, h1, hlt, ⟨_, Heap.get?_push_size _ rfl, rfl, rfl⟩, h2.push _, ?_⟩
  simpa using h3.grow (Kp.push _ _)
theorem IterOk.rng {Γ : Cx} {a b c : Int} (hs : Builtin.Range.small a b c = true) (n : Nat) (hn : Builtin.Range.rangeSize a b c = (n : Int)) : IterOk Γ (.rng a b c) (rngItems a c n) := by
  intro A m D s v Q E _ hA hB hv hD hQ
  obtain ⟨r, t, u, z, rfl, h1⟩ := V_rng.mp hv
  refine wpAny_pyIter_range h1 hs (hQ _ _ (JRng s.heap.objs.size) _ (Iter.rng hA.handled _) ?_ (Gr.heap _ (Kp.push _ _)) fun b hb => by rw [List.mem_singleton] at hb; subst hb; exact fresh_addr _)
  refine ⟨a, c, n, not_dom hD, ?_, rfl⟩
  rw [← hn]
  exact Heap.get?_push_size _ rfl

/-! ## for -/

/-- as Sp, but for what an iterator writes -/
structure SpW (F : Fm) (wr : List Addr) (μ μ' : Own) (s s' : Shared) : Prop where
  keep : ∀ b o, b ∉ wr → s.heap.get? b = some o → b ≠ F.L → (∀ x, F.cl.lookup x ≠ some b) → ¬ Dm F μ b → s'.heap.get? b = some o
  alive : ∀ b, b ∉ wr → (s.heap.get? b).isSome → (s'.heap.get? b).isSome
  dom : ∀ b, b ∉ wr → (s.heap.get? b).isSome → Dm F μ' b → Dm F μ b
  gens : s'.gens = s.gens
  os : s'.os = s.os
theorem SpW.trans {F : Fm} {wr : List Addr} {μ μ' μ'' : Own} {s s' s'' : Shared} (a : SpW F wr μ μ' s s') (b : SpW F wr μ' μ'' s' s'') : SpW F wr μ μ'' s s'' where
  keep := fun x o hw e h1 h2 h3 => b.keep x o hw (a.keep x o hw e h1 h2 h3) h1 h2 fun d => h3 (a.dom x hw (by rw [e]; rfl) d)
  alive := fun x hw e => b.alive x hw (a.alive x hw e)
  dom := fun x hw e d => a.dom x hw e (b.dom x hw (a.alive x hw e) d)
  gens := b.gens.trans a.gens
  os := b.os.trans a.os
theorem Sp.toW {F : Fm} {wr : List Addr} {μ μ' : Own} {s s' : Shared} (a : Sp F μ μ' s s') : SpW F wr μ μ' s s' :=
  ⟨fun b o _ e h1 h2 h3 => a.keep b o e h1 h2 h3, fun b _ e => a.alive b e, fun b _ e d => a.dom b e d, a.gens, a.os⟩
theorem SpW.wr {F : Fm} {wr : List Addr} {μ : Own} {s : Shared} {h' : Heap} {tk : Nat} (hk : ∀ b o, b ∉ wr → s.heap.get? b = some o → h'.get? b = some o) : SpW F wr μ μ s { s with heap := h', toks := tk } :=
  ⟨fun b o hw e _ _ _ => hk b o hw e, fun b hw e => by obtain ⟨o, ho⟩ := Option.isSome_iff_exists.mp e; show (h'.get? b).isSome; rw [hk b o hw ho]; rfl, fun _ _ _ d => d, rfl, rfl⟩

section
variable {Γ : Cx} {k : Nat} {sc : Scope} {σ : Loc} {μ : Own} {pos : Pos} {P : Fl → Loc → Own → Prop} {F : Fm} {h₀ : Heap} {s : Shared}

/-- what a statement keeps for trees and iterators -/
theorem Sx.hk {σ' : Loc} {μ' : Own} {s' : Shared} {cs : Scope} (X : Sx Γ h₀ sc F σ μ s cs) (X' : Sx Γ h₀ sc F σ' μ' s' cs) (sp : Sp F μ μ' s s') :
    ∀ b o, s.heap.get? b = some o → DataOk o.data → (¬ Dm F μ b ∨ o.cls = .type "tuple" ∨ o.cls = .type "range") → s'.heap.get? b = some o := by
  intro b o hb hd hc
  by_cases hFD : F.D b
  · obtain ⟨o', ho'⟩ := Option.isSome_iff_exists.mp (X.dold b hFD)
    have := X.keep b o' ho'
    rw [hb] at this; cases this
    exact X'.keep b o ho'
  · have hn : ¬ Dm F μ b := by
      rcases hc with hc | hc
      · exact hc
      · rintro (q | q)
        · exact hFD q
        · obtain ⟨p, hp, rfl⟩ := List.mem_map.mp q
          have := X.own p.1 p.2 hp
          cases hq : p.2 with
          | list xs =>
            rw [hq] at this; obtain ⟨items, n, ho', _⟩ := this
            rw [hb] at ho'; cases ho'
            dsimp only at hc; rcases hc with hc | hc <;> exact absurd hc (by decide)
          | barr l =>
            rw [hq] at this
            have ho' : s.heap.get? p.1 = some { cls := .type "bytearray", data := .bytearray l.toArray } := this
            rw [hb] at ho'; cases ho'
            dsimp only at hc; rcases hc with hc | hc <;> exact absurd hc (by decide)
    refine sp.keep b o hb (fun q => ?_) (fun x q => ?_) hn
    · obtain ⟨m, ⟨oL, es, ep, hoL, hdL, _⟩, _⟩ := X.ns
      rw [q, hoL] at hb; cases hb; rw [hdL] at hd; exact hd
    · obtain ⟨v, oc, hoc, hdc⟩ := X.cellsAll x b q
      rw [hoc] at hb; cases hb; rw [hdc] at hd; exact hd
theorem Sx.step {σ' : Loc} {μ' : Own} {s' : Shared} {cs : Scope} (X : Sx Γ h₀ sc F σ μ s cs) (X' : Sx Γ h₀ sc F σ' μ' s' cs) (sp : Sp F μ μ' s s') {x : PV} {v : Value} (hv : V (Dm F μ) s.heap x v) : V (Dm F μ') s'.heap x v :=
  hv.move (fun b o hb hn => X.hk X' sp b o hb hn.ok.1 hn.ok.2) fun b o hb d => sp.dom b (by rw [hb]; rfl) d

/-- what an iterator's step leaves -/
theorem Sx.wr {wr : List Addr} {h' : Heap} {tk : Nat} {cs : Scope} (X : Sx Γ h₀ sc F σ μ s cs) (hk : ∀ b o, b ∉ wr → s.heap.get? b = some o → h'.get? b = some o)
    (hw : ∀ b ∈ wr, ¬ Dm F μ b ∧ ∃ o vs, s.heap.get? b = some o ∧ o.data = .fields vs ∧ o.cls ≠ .type "range") (hn : ∀ b ∈ wr, h₀.get? b = none) : Sx Γ h₀ sc F σ μ { s with heap := h', toks := tk } cs := by
  have hnode : ∀ b o, s.heap.get? b = some o → Node (Dm F μ) b o → h'.get? b = some o := fun b o hb hn => hk b o (fun q => by
    obtain ⟨_, o', vs, ho', hd', hc'⟩ := hw b q
    rw [hb] at ho'; cases ho'
    rcases hn with ⟨_, _, hn, _⟩ | ⟨hn, _⟩
    · rw [hd'] at hn; cases hn
    · exact hc' hn) hb
  have hv : ∀ {x v}, V (Dm F μ) s.heap x v → V (Dm F μ) h' x v := fun e => e.move hnode fun _ _ _ d => d
  have hvs : ∀ {x v}, Vs (Dm F μ) s.heap x v → Vs (Dm F μ) h' x v := fun e => e.move hnode fun _ _ _ d => d
  have hold : ∀ b o, h₀.get? b = some o → h'.get? b = some o := fun b o e => hk b o (fun q => by rw [hn b q] at e; cases e) (X.keep b o e)
  have hcell : ∀ c v, s.heap.IsCell c v → h'.IsCell c v := fun c v ⟨o, ho, hd⟩ => ⟨o, hk c o (fun q => by
    obtain ⟨_, o', vs, ho', hd', _⟩ := hw c q
    rw [ho] at ho'; cases ho'; rw [hd] at hd'; cases hd') ho, hd⟩
  obtain ⟨m, hm, hmv⟩ := X.ns
  have hm' : h'.Ns F.L m := by
    obtain ⟨o, es, ep, ho, hd, r⟩ := hm
    exact ⟨o, es, ep, hk _ o (fun q => by
      obtain ⟨_, o', vs, ho', hd', _⟩ := hw _ q
      rw [ho] at ho'; cases ho'; rw [hd] at hd'; cases hd') ho, hd, r⟩
  refine ⟨⟨X.ok, fun b o e => hold b o (X.baseh b o e), ⟨m, hm', fun x v a b => let ⟨val, e1, e2⟩ := hmv x v a b; ⟨val, e1, hv e2⟩⟩, fun x v a b => let ⟨c, val, e1, e2, e3⟩ := X.cel x v a b; ⟨c, val, e1, hcell _ _ e2, hv e3⟩, fun a o hm => ?_, fun b hb => ?_⟩,
    hold, X.baseh, X.newL, fun x e => let ⟨c, v, a1, a2, a3⟩ := X.cells x e; ⟨c, v, a1, a2, hcell _ _ a3⟩, fun x c e => let ⟨v, a3⟩ := X.cellsAll x c e; ⟨v, hcell _ _ a3⟩, X.cellsApart, X.ownNew, X.dold, X.apart⟩
  · have hnw : a ∉ wr := fun q => (hw a q).1 (.inr (List.mem_map.mpr ⟨_, hm, rfl⟩))
    have := X.own a o hm
    cases o with
    | list xs => obtain ⟨items, n, ho, e⟩ := this; exact ⟨items, n, hk a _ hnw ho, hvs e⟩
    | barr l => exact hk a _ hnw this
  · obtain ⟨o, ho⟩ := Option.isSome_iff_exists.mp (X.dold b hb)
    show (h'.get? b).isSome
    rw [hold b o ho]; rfl

/-- a target takes a value -/
def As (Γ : Cx) (k : Nat) (sc : Scope) (σ : Loc) (μ : Own) (target : Expr) (v : PV) (σ' : Loc) (cs : Scope := sc) : Prop :=
  ∀ (A : Around) (n : Nat) (F : Fm) (h₀ : Heap) (s : Shared) (val : Value) (Q : Unit → Shared → Prop) (E : Value → Shared → Prop), n + k ≤ 8 → Lv n A → Sx Γ h₀ sc F σ μ s cs → V (Dm F μ) s.heap v val →
    (∀ s', Sx Γ h₀ sc F σ' μ s' cs → Sp F μ μ s s' → Q () s') → wpAny Γ.M A (assign target (F.env sc) val) Q E s
theorem As.name {x : Str} {v : PV} {cs : Scope} (hl : isPlace (sc.names.lookup x) = true := by decide +kernel) (hk : sc.kind = .function := by kernel_rfl) (hs : sc.names.lookup x = cs.names.lookup x := by first | exact rfl | kernel_rfl) : As Γ k sc σ μ (.Name x pos) v ((x, v) :: σ) cs :=
  fun A n F h₀ s val Q E hn hA X hv hQ => wpAny_assign_Name (X.store hv hl hk (fun s' X' sp _ => hQ s' X' sp) hs)

def Fo (Γ : Cx) (k : Nat) (sc : Scope) (σ : Loc) (μ : Own) (target : Expr) (body orelse : List Stmt) (xs : List PV) (P : Fl → Loc → Own → Prop) : Prop :=
  ∀ (A : Around) (n : Nat) (F : Fm) (h₀ : Heap) (s : Shared) (R : Result → Shared → Prop) (it : Addr) (wr : List Addr) (J : (Addr → Prop) → List PV → Heap → Prop), n + k ≤ 8 → Lv n A → Sx Γ h₀ sc F σ μ s →
    ∀ nd : Bool, Iter Γ A it wr J nd → (nd = true → isTupE target = true) → J (Dm F μ) xs s.heap → (∀ b ∈ wr, h₀.get? b = none) →
    (∀ fl σ' μ' f s', P fl σ' μ' → Sx Γ h₀ sc F σ' μ' s' → SpW F wr μ μ' s s' → FlV (Dm F μ') s'.heap fl f → R (.ok f) s') → codeR Γ.M A (.forLoop target (.ref it) body orelse (F.env sc)) R s

/-- an expression that is walked -/
def EvI (Γ : Cx) (k : Nat) (sc : Scope) (σ : Loc) (μ : Own) (iter : Expr) (xs : List PV) (nd : Bool) : Prop :=
  ∀ (A : Around) (n : Nat) (F : Fm) (s : Shared) (Q : Value → Shared → Prop) (E : Value → Shared → Prop), n + k ≤ 8 → Lv n A → St Γ sc F σ μ s →
    (∀ it wr J s', Iter Γ A it wr J nd → J (Dm F μ) xs s'.heap → Gr s s' → (∀ b ∈ wr, s.heap.get? b = none) → Q (.ref it) s') → wpR Γ.M A (eval iter (F.env sc)) (fun v s₁ => wpR Γ.M A (pyIter v) Q E s₁) E s
theorem EvI.of {iter : Expr} {p : PV} {xs : List PV} (he : Ev Γ k sc σ μ iter p) (hi : IterOk Γ p xs) : EvI Γ k sc σ μ iter xs false := by
  intro A n F s Q E hn hA st hQ
  refine he A n F s _ _ hn hA st fun v s₁ g₁ hv => ?_
  have st₁ := st.grow g₁
  refine toR (hi A n (Dm F μ) s₁ v _ _ (by omega) hA st₁.base hv st₁.dom fun it wr J s₂ hI hJ g₂ hw => hQ it wr J s₂ hI hJ (g₁.trans g₂) fun b hb => ?_)
  cases q : s.heap.get? b with
  | none => rfl
  | some o => have := g₁.keep b o q; rw [hw b hb] at this; cases this
theorem X1.forI {target iter : Expr} {body orelse : List Stmt} {xs : List PV} {nd : Bool} (he : EvI Γ k sc σ μ iter xs nd) (h : Fo Γ k sc σ μ target body orelse xs P)
    (hnd : nd = true → isTupE target = true := by first | exact (fun h => nomatch h) | exact (fun _ => rfl))
    (hs : ∀ env x, foldedSetIterable iter env x = pure x := by intro _ _; kernel_rfl) : X1 Γ k sc σ μ (.For target iter body orelse pos) P := by
  intro A n F h₀ s Q E hn hA X hQ
  refine wpR_For (he A n F s _ _ hn hA X.toSt fun it wr J s₂ hI hJ g hw => ?_) (hs _)
  have X₂ := X.grow g
  refine h A n F h₀ s₂ _ it wr J hn hA X₂ nd hI hnd hJ (fun b hb => ?_) fun fl σ' μ' f s' hP X' sp hf => ?_
  · cases q : h₀.get? b with
    | none => rfl
    | some o => have := X.keep b o q; rw [hw b hb] at this; cases this
  · have hnw : ∀ b, (s.heap.get? b).isSome → b ∉ wr := fun b hb q => by rw [hw b q] at hb; cases hb
    refine hQ fl σ' μ' f s' hP X' ⟨fun b o e h1 h2 h3 => ?_, fun b e => ?_, fun b e d => ?_, sp.gens.trans g.gens, sp.os.trans g.os⟩ hf
    · exact sp.keep b o (hnw b (by rw [e]; rfl)) (g.keep b o e) h1 h2 h3
    · exact sp.alive b (hnw b e) (g.keep.alive b e)
    · exact sp.dom b (hnw b e) (g.keep.alive b e) d
theorem X1.for {target iter : Expr} {body orelse : List Stmt} {p : PV} {xs : List PV} (he : Ev Γ k sc σ μ iter p) (hi : IterOk Γ p xs) (h : Fo Γ k sc σ μ target body orelse xs P)
    (hs : ∀ env x, foldedSetIterable iter env x = pure x := by intro _ _; kernel_rfl) : X1 Γ k sc σ μ (.For target iter body orelse pos) P :=
  X1.forI (EvI.of he hi) h (fun h => nomatch h) hs

theorem Fo.nil {target : Expr} {body orelse : List Stmt} (h : Xs Γ k sc σ μ orelse P) : Fo Γ k sc σ μ target body orelse [] P := by
  intro A n F h₀ s R it wr J hn hA X nd hI hnd hJ hw hR
  refine codeR_for1 (toR (wpAny_mono (hI.done (Dm F μ) s (fun s₁ => wpR Γ.M A (execs orelse (F.env sc)) (fun f s₃ => R (.ok f) s₃) (noted Γ.M A (F.env sc) fun e s' => R (.error e) s') s₁) _ hJ fun h' tk hk => ?_) (fun r s₁ hr => ?_) fun _ _ e => e))
  · have X' := X.wr (tk := tk) hk (hI.wrs _ _ _ hJ) hw
    exact h A n F h₀ _ _ _ hn hA X' fun fl σ' μ' f s' hP X'' sp hf => hR fl σ' μ' f s' hP X'' ((SpW.wr hk).trans sp.toW) hf
  · obtain ⟨rfl, hr⟩ := hr; exact hr

theorem Fo.cons {target : Expr} {body orelse : List Stmt} {x : PV} {xs : List PV} {σ₁ : Loc} (ha : As Γ k sc σ μ target x σ₁)
    (h : Xs Γ k sc σ₁ μ body (fun fl σ' μ' => match fl with | .next | .cont => Fo Γ k sc σ' μ' target body orelse xs P | .brk => P .next σ' μ' | .ret v => P (.ret v) σ' μ')) : Fo Γ k sc σ μ target body orelse (x :: xs) P := by
  intro A n F h₀ s R it wr J hn hA X nd hI hnd hJ hw hR
  refine codeR_for1 (toR (wpAny_mono (hI.item (Dm F μ) x xs s target (fun v s₁ => wpR Γ.M A (assign target (F.env sc) v) (fun _ s₂ => wpR Γ.M A (execs body (F.env sc)) (fun f s₃ => match f with
          | .next | .cont => codeR Γ.M A (.forLoop target (.ref it) body orelse (F.env sc)) R s₃
          | .brk => R (.ok .next) s₃
          | .ret v => R (.ok (.ret v)) s₃) (noted Γ.M A (F.env sc) fun e s' => R (.error e) s') s₂) (noted Γ.M A (F.env sc) fun e s' => R (.error e) s') s₁) _ hJ X.toSt.dom hnd fun v h' tk hv hJ' hk => ?_) (fun r s₁ hr => ?_) fun _ _ e => e))
  · have X' := X.wr (tk := tk) hk (hI.wrs _ _ _ hJ) hw
    refine toR (ha A n F h₀ _ v _ _ hn hA X' hv fun s₂ X₂ sp₂ => ?_)
    refine h A n F h₀ s₂ _ _ hn hA X₂ fun fl σ' μ' f s' hP X'' sp hf => ?_
    have spa := sp₂.trans sp
    have spW : SpW F wr μ μ' s s' := (SpW.wr hk).trans spa.toW
    have next : Fo Γ k sc σ' μ' target body orelse xs P → codeR Γ.M A (.forLoop target (.ref it) body orelse (F.env sc)) R s' := fun hfo =>
      hfo A n F h₀ s' R it wr J hn hA X'' nd hI hnd (hI.move _ _ _ _ _ (X'.hk X'' spa) (fun b o hb d => spa.dom b (by rw [hb]; rfl) d) hJ') hw
        fun fl2 σ2 μ2 f2 s2 hP2 X2 sp2 hf2 => hR fl2 σ2 μ2 f2 s2 hP2 X2 (spW.trans sp2) hf2
    cases fl with
    | next => have : f = .next := hf; subst this; exact next hP
    | cont => have : f = .cont := hf; subst this; exact next hP
    | brk => have : f = .brk := hf; subst this; exact hR .next σ' μ' _ s' hP X'' spW rfl
    | ret v => obtain ⟨val, rfl, hv⟩ := hf; exact hR (.ret v) σ' μ' _ s' hP X'' spW ⟨val, rfl, hv⟩
  · cases r with
    | none => exact hr.elim
    | some v => exact toR (wpAny_mono hr (fun _ _ e => e) fun _ _ e => e)
theorem Fo.less {σ' : Loc} {target : Expr} {body orelse : List Stmt} {xs : List PV} (h : ∀ x v, σ'.lookup x = some v → σ.lookup x = some v) (hx : Fo Γ k sc σ' μ target body orelse xs P) : Fo Γ k sc σ μ target body orelse xs P :=
  fun A n F h₀ s R it wr J hn hA X => hx A n F h₀ s R it wr J hn hA (X.less h)
end
end Mine

namespace Mine

section
variable {Γ : Cx} {k : Nat} {sc : Scope} {σ : Loc} {μ : Own} {pos : Pos}

theorem V.newList {D : Addr → Prop} {h : Heap} {xs : List PV} {vs : List Value} (hD : ∀ b, D b → (h.get? b).isSome) (e : Vs D h xs vs) :
    V D (h.push { cls := .type "list", data := .seq vs.toArray }) (.lst xs) (.ref h.objs.size) :=
  V_lst.mpr ⟨_, vs.toArray, rfl, not_dom hD, ⟨_, Heap.get?_push_size _ rfl, rfl, _, rfl⟩, by simpa using e.grow (Kp.push _ _)⟩
theorem V.newTup {D : Addr → Prop} {h : Heap} {xs : List PV} {vs : List Value} (e : Vs D h xs vs) :
    V D (h.push { cls := .type "tuple", data := .seq vs.toArray }) (.tup xs) (.ref h.objs.size) :=
  V_tup.mpr ⟨_, vs.toArray, rfl, ⟨_, Heap.get?_push_size _ rfl, rfl, _, rfl⟩, by simpa using e.grow (Kp.push _ _)⟩

theorem Ev.tuple {es : List Expr} {vs : List PV} {kd : Nat} (h : Es Γ k sc σ μ pos es vs) (hs : vs.length ≤ 1000) : Ev Γ k sc σ μ (.Tuple es kd pos) (.tup vs) := by
  intro A n F s Q E hn hA st hQ
  refine wpR_Tuple (h A n F s _ _ hn hA st fun vals s₁ g₁ hv => ⟨?_, hQ _ _ (g₁.trans (Gr.heap _ (Kp.push _ _))) (V.newTup hv)⟩)
  have := hv.length; rw [sizeLine_eq]; omega
theorem Ev.list {es : List Expr} {vs : List PV} (h : Es Γ k sc σ μ pos es vs) (hs : vs.length ≤ 1000) : Ev Γ k sc σ μ (.List es pos) (.lst vs) := by
  intro A n F s Q E hn hA st hQ
  refine wpR_List (h A n F s _ _ hn hA st fun vals s₁ g₁ hv => ⟨?_, hQ _ _ (g₁.trans (Gr.heap _ (Kp.push _ _))) (V.newList (st.grow g₁).dom hv)⟩)
  have := hv.length; rw [sizeLine_eq]; omega

/-! ### items -/
def HasItem (Γ : Cx) (a : PV) : Prop := ∀ (D : Addr → Prop) (s : Shared) (v : Value), V D s.heap a v → ∃ T id, s.TypeIs v T ∧ typeLookup (.type T) "__getitem__" = pure (some (.builtin id))
theorem HasItem.lst {xs : List PV} : HasItem Γ (.lst xs) := fun D s v hv => by
  obtain ⟨a, items, rfl, _, h, _⟩ := V_lst.mp hv
  exact ⟨_, _, h.typeIs, slot_list_getitem.lookup⟩
theorem HasItem.tup {xs : List PV} : HasItem Γ (.tup xs) := fun D s v hv => by
  obtain ⟨a, items, rfl, h, _⟩ := V_tup.mp hv
  exact ⟨_, _, h.typeIs, F.slot_tuple_getitem.lookup⟩
theorem HasItem.bytes {l : List UInt8} : HasItem Γ (.bytes l) := fun D s v hv => by
  obtain ⟨t, rfl⟩ := V_bytes.mp hv
  exact ⟨_, _, typeIs_bytes s _ _, FB.slot_bytes_getitem.lookup⟩
theorem HasItem.str {l : List Nat} : HasItem Γ (.str l) := fun D s v hv => by
  obtain ⟨t, rfl⟩ := V_str.mp hv
  exact ⟨_, _, typeIs_str s _ _, F.slot_str_getitem.lookup⟩

theorem Ev.sub {value slice : Expr} {a i r : PV} (hv : Ev Γ k sc σ μ value a) (hi : Ev Γ k sc σ μ slice i) (ho : Op2 Γ getItem a i r) (hT : HasItem Γ a)
    (hs : ∀ o i, subscripted slice false o i = operate [o, i] (getItem o i) := by intro _ _; kernel_rfl) : Ev Γ k sc σ μ (.Subscript value slice pos) r := by
  intro A n F s Q E hn hA st hQ
  refine wpR_Subscript (hv A n F s _ _ hn hA st fun o s₁ g₁ ho₁ => hi A n F s₁ _ _ hn hA (st.grow g₁) fun iv s₂ g₂ hi₂ => ?_)
  obtain ⟨T, id, hT, hl⟩ := hT _ s₂ o (ho₁.grow g₂.keep)
  have st₂ := (st.grow g₁).grow g₂
  exact toR <| tail_any hT hl (ho A n _ s₂ o iv _ _ (by omega) hA st.ok st₂.base (ho₁.grow g₂.keep) hi₂ st₂.dom fun v s₃ g₃ hv => hQ v s₃ ((g₁.trans g₂).trans g₃) hv) (hs o iv)

theorem Op2.item {xs : List PV} {i : Int} {r : PV} (h0 : 0 ≤ i) (hx : xs[i.toNat]? = some r) (hl : xs.length < 2 ^ 62) : Op2 Γ getItem (.lst xs) (.int i) r := by
  intro A n D s x y Q E _ _ _ _ hv hy _ hQ
  obtain ⟨a, items, rfl, _, h, hvs⟩ := V_lst.mp hv
  obtain ⟨t, rfl⟩ := V_int.mp hy
  obtain ⟨v, e1, e2⟩ := hvs.get _ hx
  have hlt : i.toNat < xs.length := (List.getElem?_eq_some_iff.mp hx).1
  exact wpAny_getItem_list h h0 (by omega) (by simpa using e1) (hQ _ _ (Gr.refl _) e2)
/-! ### slices -/
def Pt (Γ : Cx) (k : Nat) (sc : Scope) (σ : Loc) (μ : Own) : Option Expr → Option Int → Prop
  | none, o => o = none
  | some e, o => ∃ i, o = some i ∧ Ev Γ k sc σ μ e (.int i)
theorem Pt.none : Pt Γ k sc σ μ none none := rfl
theorem Pt.some {e : Expr} {i : Int} (h : Ev Γ k sc σ μ e (.int i)) : Pt Γ k sc σ μ (some e) (some i) := ⟨i, rfl, h⟩
theorem Pt.run {o : Option Expr} {p : Option Int} (h : Pt Γ k sc σ μ o p) {A : Around} {n : Nat} {F : Fm} {s : Shared} {Q : Value → Shared → Prop} {E : Value → Shared → Prop} (hn : n + k ≤ 8) (hA : Lv n A) (st : St Γ sc F σ μ s)
    (hQ : ∀ v s', Gr s s' → IsPart v p → Q v s') : wpR Γ.M A (evalPart o (F.env sc)) Q E s := by
  cases o with
  | none => have : p = .none := h; subst this; exact wpR_pure (hQ _ _ (Gr.refl _) .none)
  | some e =>
    obtain ⟨i, rfl, h⟩ := h
    refine h A n F s _ _ hn hA st fun v s' g hv => ?_
    obtain ⟨t, rfl⟩ := V_int.mp hv
    exact hQ _ _ g (.int _ _)

def SliceOk (Γ : Cx) (a : PV) (lo hi st : Option Int) (r : PV) : Prop :=
  ∀ (A : Around) (n : Nat) (D : Addr → Prop) (s : Shared) (x : Value) (sl : Addr) (vl vu vs : Value) (Q : Value → Shared → Prop) (E : Value → Shared → Prop), n ≤ 8 → Lv n A → V D s.heap a x → (∀ b, D b → (s.heap.get? b).isSome) →
    s.heap.IsSliceOf sl vl vu vs → IsPart vl lo → IsPart vu hi → IsPart vs st →
    (∀ val s', Gr s s' → V D s'.heap r val → Q val s') → wpAny Γ.M A (getItem x (.ref sl)) Q E s

theorem Ev.slice {value : Expr} {lower upper : Option Expr} {p : Pos} {a r : PV} {lo hi : Option Int} (hv : Ev Γ k sc σ μ value a) (hl : Pt Γ k sc σ μ lower lo) (hu : Pt Γ k sc σ μ upper hi) (ho : SliceOk Γ a lo hi none r) (hT : HasItem Γ a) :
    Ev Γ k sc σ μ (.Subscript value (.Slice lower upper none p) pos) r := by
  intro A n F s Q E hn hA st hQ
  refine wpR_Subscript (hv A n F s _ _ hn hA st fun o s₁ g₁ ho₁ => wpR_Slice (hl.run hn hA (st.grow g₁) fun vl s₂ g₂ pl => hu.run hn hA ((st.grow g₁).grow g₂) fun vu s₃ g₃ pu => wpR_pure ?_))
  have g : Gr s₁ { s₃ with heap := s₃.heap.push { cls := .type "slice", data := .fields #[vl, vu, .none] } } := (g₂.trans g₃).trans (Gr.heap _ (Kp.push _ _))
  have st₃ := (st.grow g₁).grow g
  have ho₃ := ho₁.grow g.keep
  obtain ⟨T, id, hT, hl⟩ := hT _ _ o ho₃
  exact toR <| tail_any hT hl (ho A n _ _ o _ vl vu .none _ _ (by omega) hA ho₃ st₃.dom (Heap.IsSliceOf.new ..) pl pu .none fun v s₄ g₄ hv => hQ v s₄ ((g₁.trans g).trans g₄) hv) rfl
/-! ### built-ins of ints and lists -/
theorem CallOk.len_lst {xs : List PV} (h : xs.length < 2 ^ 62) : CallOk Γ k (.builtin "len") [.lst xs] (.int xs.length) := by
  intro A n D s vals Q E _ _ _ _ hvs _ hQ
  rw [Vs_cons] at hvs
  obtain ⟨v, r, rfl, hv, hr⟩ := hvs
  rw [Vs_nil] at hr; subst hr
  obtain ⟨a, items, rfl, _, hl, he⟩ := V_lst.mp hv
  have hlen : items.size = xs.length := by simpa using he.length
  refine toR (PyProof.Rows.len_list hl (by omega) (hQ _ _ (Gr.toks _) ?_))
  rw [hlen]; exact V.int _ _
theorem CallOk.len_bytes {l : List UInt8} (h : l.length ≤ 1099511627776) : CallOk Γ k (.builtin "len") [.bytes l] (.int l.length) := by
  intro A n D s vals Q E _ _ _ _ hvs _ hQ
  rw [Vs_cons] at hvs
  obtain ⟨v, r, rfl, hv, hr⟩ := hvs
  rw [Vs_nil] at hr; subst hr
  obtain ⟨t, rfl⟩ := V_bytes.mp hv
  exact toR <| PySem.W.len_bytes (by simpa using h) (hQ _ _ (Gr.toks _) (by simpa using V.int _ _))
theorem CallOk.range1 {b : Int} : CallOk Γ k (.type "range") [.int b] (.rng 0 b 1) := by
  intro A n D s vals Q E _ _ _ _ hvs _ hQ
  rw [Vs_cons] at hvs
  obtain ⟨v, r, rfl, hv, hr⟩ := hvs
  rw [Vs_nil] at hr; subst hr
  obtain ⟨t, rfl⟩ := V_int.mp hv
  exact toR <| PySem.call_range_1 (hQ _ _ (Gr.heap _ (Kp.push _ _)) (V_rng.mpr ⟨_, _, _, _, rfl, Heap.get?_push_size _ rfl⟩))
end

/-! ### saying less -/
def Sub (σ : Loc) : Loc → Prop
  | [] => True
  | (x, v) :: r => σ.lookup x = some v ∧ Sub σ r
theorem Sub.to {σ : Loc} : ∀ {σ' : Loc}, Sub σ σ' → ∀ x v, σ'.lookup x = some v → σ.lookup x = some v
  | [], _, x, v, e => nomatch e
  | (y, w) :: r, h, x, v, e => by
    rw [List.lookup_cons] at e
    cases q : (x == y) with
    | true => rw [q] at e; cases e; rw [beq_iff_eq.mp q]; exact h.1
    | false => rw [q] at e; exact Sub.to h.2 x v e
theorem Wh.sub {Γ : Cx} {k : Nat} {sc : Scope} {σ σ' : Loc} {μ : Own} {P : Fl → Loc → Own → Prop} {t : Expr} {body orelse : List Stmt} (h : Sub σ σ') (hx : Wh Γ k sc σ' μ t body orelse P) : Wh Γ k sc σ μ t body orelse P := Wh.less h.to hx
theorem Fo.sub {Γ : Cx} {k : Nat} {sc : Scope} {σ σ' : Loc} {μ : Own} {P : Fl → Loc → Own → Prop} {t : Expr} {body orelse : List Stmt} {xs : List PV} (h : Sub σ σ') (hx : Fo Γ k sc σ' μ t body orelse xs P) : Fo Γ k sc σ μ t body orelse xs P := Fo.less h.to hx
theorem Xs.sub {Γ : Cx} {k : Nat} {sc : Scope} {σ σ' : Loc} {μ : Own} {P : Fl → Loc → Own → Prop} {sts : List Stmt} (h : Sub σ σ') (hx : Xs Γ k sc σ' μ sts P) : Xs Γ k sc σ μ sts P := Xs.less h.to hx

def fnAt (p : Program) (i : Nat) : Arguments × List Stmt × Scope := match p.main.body[i]? with
  | some (.FunctionDef _ a b _ _ _ s _ _ _) => (a, b, s)
  | _ => (⟨[], [], none, [], [], none, []⟩, [], default)

/-- a plain def of the text at a written address of the top's heap -/
structure DefAt (Γ : Cx) (a : Addr) (name : Str) (d : Arguments × List Stmt × Scope) : Prop where
  out : ∃ o pm cd doc, Γ.B.get? a = some o ∧ o.data = .func (docDef name d.1 d.2.1 d.2.2 pm cd doc) ∧ Γ.B.CodeRec cd name
theorem DefAt.keep {Γ : Cx} {a : Addr} {name : Str} {d} (h : DefAt Γ a name d) : KeepOk Γ (.ref a) := by
  obtain ⟨o, pm, cd, doc, h1, h2, h3⟩ := h.out
  exact KeepOk.fn h1 h2
theorem DefAt.call {Γ : Cx} {k : Nat} {a : Addr} {name : Str} {params : Arguments} {body : List Stmt} {scope : Scope} {args : List PV} {r : PV} (h : DefAt Γ a name (params, body, scope))
    (hbody : Xs Γ k scope ((params.args.map (·.arg)).zip args) [] body (fun fl _ μ' => fl = .ret r))
    (hbind : ∀ (pm cd doc : Value) (vals : List Value), vals.length = args.length → bindArgs (docDef name params body scope pm cd doc) ⟨vals, []⟩ = pure ((params.args.map (·.arg)).zip vals))
    (hnd : (params.args.map (·.arg)).Nodup := by decide +kernel)
    (hloc : (params.args.map (·.arg)).all (fun x => decide (scope.names.lookup x = some .local)) = true := by decide +kernel)
    (hco : scope.isCoroutine = false := by kernel_rfl) (hgen : scope.isGenerator = false := by kernel_rfl) (hk : scope.kind = .function := by kernel_rfl)
    (hcell : (scope.names.all fun x => decide (x.2 ≠ .cell)) = true := by decide +kernel) : CallOk Γ (k + 1) (.ref a) args r := by
  obtain ⟨o, pm, cd, doc, h1, h2, h3⟩ := h.out
  exact CallOk.fn h1 h2 h3 (hbind pm cd doc) hbody hnd hloc hco hgen hk hcell
theorem CallOk.mono {Γ : Cx} {k k' : Nat} {f : Value} {args : List PV} {r : PV} (h : CallOk Γ k f args r) (hk : k ≤ k') : CallOk Γ k' f args r :=
  fun A n D s vals Q E hn => h A n D s vals Q E (by omega)
/-- a statement, by the state behind it -/
theorem Xs.cut {Γ : Cx} {k : Nat} {sc : Scope} {σ : Loc} {μ : Own} {P : Fl → Loc → Own → Prop} {st : Stmt} {rest : List Stmt} (σ₁ : Loc) (μ₁ : Own)
    (h : X1 Γ k sc σ μ st (fun fl σ' μ' => fl = .next ∧ Sub σ' σ₁ ∧ μ' = μ₁)) (hr : Xs Γ k sc σ₁ μ₁ rest P) : Xs Γ k sc σ μ (st :: rest) P := by
  refine Xs.cons (h.mono fun fl σ' μ' hh => ?_)
  obtain ⟨rfl, h1, rfl⟩ := hh
  exact hr.sub h1

/-! ### from the head -/
theorem DefAt.of {p : Program} {loose : List Str} {mean : ExcName → Option Value} {mg mb : Str → Option Value} {B : Heap} (T : Top p loose mean mg mb B) (i j : Nat) (name : Str) (pgm : Program)
    (hd : ((recsOf p)[i]?.map fun d => (d.name, d.params, d.body, d.scope)) = some (name, fnAt pgm j)) : ∃ a, mg name = some (.ref a) ∧ ∀ Γ : Cx, Γ.B = B → DefAt Γ a name (fnAt pgm j) := by
  cases hr : (recsOf p)[i]? with
  | none => rw [hr] at hd; cases hd
  | some d =>
    rw [hr] at hd
    obtain ⟨a, o, pm, cd, doc, h1, h2, h3, h4⟩ := T.fn d (List.mem_of_getElem? hr)
    simp only [Option.map_some, Option.some.injEq, Prod.mk.injEq] at hd
    obtain ⟨e1, e2⟩ := hd
    subst e1
    refine ⟨a, h1, fun Γ hB => ⟨o, pm, cd, doc, by rw [hB]; exact h2, ?_, by rw [hB]; exact h4⟩⟩
    rw [← e2]
    exact h3
theorem GloV.fn {p : Program} {loose : List Str} {mean : ExcName → Option Value} {mg mb : Str → Option Value} {B : Heap} (T : Top p loose mean mg mb B) {x : Str} {v : Value} (h : mg x = some v) : GloV B x v := ⟨mg, T.g, .inl h⟩
theorem GloV.bi {p : Program} {loose : List Str} {mean : ExcName → Option Value} {mg mb : Str → Option Value} {B : Heap} (T : Top p loose mean mg mb B) {K : Frag} (X : K.In B) {x : Str} {v : Value} (e : nsIn K mainGlobals x = some none) (hv : bootBuiltins x = some v) (hn : x ≠ "__name__") : GloV B x v :=
  ⟨mg, T.g, .inr ⟨mg_none_of X T.g e, mb, T.b, (T.builtins x hn).trans hv⟩⟩
theorem GloV.top {p : Program} {loose : List Str} {mean : ExcName → Option Value} {mg mb : Str → Option Value} {B : Heap} (T : Top p loose mean mg mb B) {K : Frag} (X : K.In B) {x : Str} {v : Value} (e : nsIn K mainGlobals x = some (some v)) : GloV B x v := ⟨mg, T.g, .inl (mg_of X T.g e)⟩

def GlOk (B : Heap) : List (Str × PV) → Prop
  | [] => True
  | (x, p) :: r => (∃ v, GloV B x v ∧ ∀ D h, V D h p v) ∧ GlOk B r
theorem GlOk.to {B : Heap} : ∀ {l : List (Str × PV)}, GlOk B l → ∀ x p, l.lookup x = some p → ∃ v, GloV B x v ∧ ∀ D h, V D h p v
  | [], _, _, _, e => nomatch e
  | (y, q) :: r, h, x, p, e => by
    rw [List.lookup_cons] at e
    cases c : (x == y) with
    | true => rw [c] at e; cases e; rw [beq_iff_eq.mp c]; exact h.1
    | false => rw [c] at e; exact GlOk.to h.2 x p e
theorem GlOk.one {B : Heap} {x : Str} {v : Value} (h : GloV B x v) : ∃ v', GloV B x v' ∧ ∀ D h, V D h (.obj v) v' := ⟨v, h, fun _ _ => V_obj.mpr rfl⟩
theorem GlOk.bytes {B : Heap} {x : Str} {l : List UInt8} {t : Tok} (h : GloV B x (.bytes l.toArray t)) : ∃ v', GloV B x v' ∧ ∀ D h, V D h (.bytes l) v' := ⟨_, h, fun _ _ => V.bytes _ _⟩

theorem IterOk.upTo {Γ : Cx} {b : Int} {n : Nat} (h0 : b = (n : Int)) (h1 : n < 2 ^ 62) : IterOk Γ (.rng 0 b 1) (rngItems ((0 : Nat) : Int) 1 n) := by
  subst h0
  refine IterOk.rng (small_one (by decide) (by decide) (by omega) (by omega)) n ?_
  rw [rangeSize_one]; split <;> omega
end Mine

set_option maxRecDepth 100000
namespace Mine

/-! ## built-ins that touch bytearrays, over quiet contexts -/

section
variable {prog : Program} {w : World} {A : Around} {s : Shared} {R : Result → Shared → Prop}

theorem codeR_builtin {id : String} {args : Args} {b : Builtin} (hq : QuietC (.builtin id args) = true) (hb : entryFor table id = some b)
    (h : wpR (model prog w) (A.under (.builtin id args)) (b args)
      (fun fin s' => match fin with | .done f => R (.ok f) s' | .again c' => c'.quiet = true ∧ codeR (model prog w) A c' R s') (fun e s' => R (.error e) s') s) :
    codeR (model prog w) A (.builtin id args) R s := by
  refine codeR_of_tree hq ?_
  show wpR _ _ (match entryFor table id with | some b => b args | none => unsupported ((withoutEnding? id "#data").getD id)) _ _ s
  rw [hb]; exact h

theorem codeR_call_builtin {id : String} {args : Args} {b : Builtin} (hqc : QuietC (.builtin id args) = true) (hq : plainId id = true) (hb : entryFor table id = some b)
    (h : wpAny (model prog w) A.in1 (checkBuiltinCall id args) (fun _ s₁ => wpR (model prog w) A.in1 (b args)
      (fun fin s' => match fin with | .done f => R (.ok f) s' | .again c' => c'.quiet = true ∧ codeR (model prog w) A c' R s') (fun e s' => R (.error e) s') s₁)
      (fun e s' => R (.error e) s') s) : codeR (model prog w) A (.call (.builtin id) args) R s := by
  refine codeR_of_tree rfl ?_
  show wpR _ A.in1 (do checkBuiltinCall id args; again (.builtin id args)) _ _ s
  refine wpR_bind (toR (wpAny_mono h (fun _ s₁ h₁ => wpR_pure (And.intro (plainId_quiet hq args) (codeR_builtin hqc hb ?_))) fun _ _ h' => h'))
  rw [Around.under_plainId hq args]; exact h₁

theorem wpR_callSpecial?_slot {M : Model} {E : Value → Shared → Prop} {self : Value} {T : String} {name : Str} {id : String} {args : List Value} {kw : List (Str × Value)}
    {Q : Option Value → Shared → Prop} (hT : s.TypeIs self T) (h : Slot T name id)
    (hc : wpR M A (call (.builtin id) (self :: args) kw) (fun v => Q (some v)) E s) : wpR M A (callSpecial? self name args kw) Q E s := by
  simp only [callSpecial?]
  refine wpR_bind (toR (wpAny_specialOf hT h.lookup ?_))
  simp only [h.bind]
  exact wpR_holding (wpR_bind (wpR_pure (wpR_bind (wpR_mono hc (fun v s' h' => wpR_pure h') fun _ _ h' => h'))))

/-- making an object of a type: new, then init -/
theorem callTypeR {E : Value → Shared → Prop} {T newId initId : String} {Bi : Builtin} {args : List Value} {Q Q₁ : Value → Shared → Prop} (ft : TypeCalled T newId initId)
    (hct : checkTypeCall T ⟨args, []⟩ = pure ()) (entryI : entryFor table initId = some Bi) (hqi : ∀ as, QuietC (.builtin initId as) = true)
    (hnew : codeR (model prog w) A.in1 (.call (.builtin newId) ⟨.type T :: args, []⟩) (wants Q₁ E) s)
    (hnext : ∀ obj s₁, Q₁ obj s₁ → s₁.TypeIs obj T ∧ argsOk initId ⟨obj :: args, []⟩ ∧
      wpR (model prog w) A.in1.in1 (Bi ⟨obj :: args, []⟩)
        (fun fin s' => match fin with | .done f => wants (fun r s₂ => r = .none ∧ Q obj s₂) E (.ok f) s' | .again c' => c'.quiet = true ∧ codeR (model prog w) A.in1 c' (wants (fun r s₂ => r = .none ∧ Q obj s₂) E) s')
        (fun e s' => wants (fun r s₂ => r = .none ∧ Q obj s₂) E (.error e) s') s₁) :
    wpR (model prog w) A (call (.type T) args) Q E s := by
  obtain ⟨c, tl, hmro⟩ := ft.mro
  have hmade := ft.made
  have hsub := ft.sub
  refine wpR_call (codeR_of_tree rfl ?_)
  show wpR _ _ (callAny (.type T) _) _ _ _
  refine wpR_pure ⟨Code.quiet_builtin _ (by decide +kernel), codeR_builtin (by kernel_rfl) F.entry_type_call ?_⟩
  rw [Around.under_plain (weight_type_call_type T args []) rfl]
  have h1 := ft.notType
  have h2 := ft.canCreate
  unfold Builtin.«type.__call__»
  dsimp only
  simp only [h1, Bool.false_eq_true, if_false, h2]
  refine wpR_bind (toR (wpAny_of_eq hct ?_))
  refine wpR_bind (toR (wpAny_of_eq hmro ?_))
  simp only [List.isEmpty_cons, Bool.false_eq_true, if_false]
  refine wpR_bind (toR (wpAny_of_eq hmade ?_))
  refine wpR_bind (wpR_pure ?_)
  refine wpR_bind (wpR_holding (wpR_call (codeR_mono hnew fun r s₁ hr => ?_)))
  cases r with
  | error e => exact hr
  | ok fl =>
    cases fl with
    | ret obj =>
      obtain ⟨hT, hok, hsi⟩ := hnext _ _ hr
      refine wpR_bind (toR (wpAny_isInstance hT hsub ?_))
      simp only [Bool.not_true, Bool.false_eq_true, if_false]
      refine wpR_bind (wpR_holding (wpR_callSpecial?_slot hT ft.init (wpR_call (codeR_mono (codeR_call_builtin (hqi _) ft.init.plain entryI (ft.init.check _ _ _ _ _ _ _ _ hT hok hsi)) fun r₂ s₂ hr₂ => ?_))))
      cases r₂ with
      | error e => exact hr₂
      | ok fl₂ =>
        cases fl₂ with
        | ret r =>
          obtain ⟨rfl, hq⟩ := hr₂
          exact wpR_pure hq
        | _ => exact hr₂.elim
    | _ => exact hr.elim
end

namespace F
theorem ba_mro : mroOf (.type "bytearray") = pure [.type "bytearray", .type "object"] := by rw [mroOf_type]; kernel_rfl
theorem ba_lookup_new : typeLookup (.type "bytearray") "__new__" = pure (some (.builtin "bytearray.__new__")) := by rw [typeLookup_type, builtinLookup_eq_fast]; kernel_rfl
theorem ba_slot_init : Slot "bytearray" "__init__" "bytearray.__init__" :=
  .of (owner := "bytearray") (n := "__init__") (by rw [typeLookup_type, builtinLookup_eq_fast]; kernel_rfl) (by decide +kernel) (by decide +kernel) (by decide +kernel)
    (by first | exact .inl (by decide +kernel) | exact .inr (by decide +kernel)) (by rw [isSubtype_type]; kernel_rfl)
theorem ba_called : TypeCalled "bytearray" "bytearray.__new__" "bytearray.__init__" :=
  ⟨by decide +kernel, by decide +kernel, ⟨_, _, ba_mro⟩, madeBy_type ba_mro ba_lookup_new (by decide +kernel), by decide +kernel, by rw [isSubtype_type]; kernel_rfl, ba_slot_init⟩
theorem ba_typeCall : checkTypeCall "bytearray" ⟨[], []⟩ = pure () := by kernel_rfl
theorem ba_newCall : checkBuiltinCall "bytearray.__new__" ⟨[.type "bytearray"], []⟩ = pure () := by kernel_rfl
theorem ba_plain_new : plainId "bytearray.__new__" = true := by decide +kernel
theorem ba_entry_new : entryFor table "bytearray.__new__" = some Builtin.«list.__new__» :=
  entryFor_alias (id' := "list.__new__") (by kernel_rfl) (by first | rfl | decide +kernel) (by decide +kernel) (by kernel_rfl)
theorem ba_entry_init : entryFor table "bytearray.__init__" = some Builtin.«bytearray.__init__» := by first | exact entryFor_of_fast (by kernel_rfl) | exact entryFor_of_tree (by kernel_rfl)
theorem ba_entry_append : entryFor table "bytearray.append" = some Builtin.«bytearray.append» := by first | exact entryFor_of_fast (by kernel_rfl) | exact entryFor_of_tree (by kernel_rfl)
theorem ba_entry_extend : entryFor table "bytearray.extend" = some Builtin.«bytearray.extend» := by first | exact entryFor_of_fast (by kernel_rfl) | exact entryFor_of_tree (by kernel_rfl)
theorem ba_slot_append : Slot "bytearray" "append" "bytearray.append" :=
  .of (owner := "bytearray") (n := "append") (by rw [typeLookup_type, builtinLookup_eq_fast]; kernel_rfl) (by decide +kernel) (by decide +kernel) (by decide +kernel)
    (by first | exact .inl (by decide +kernel) | exact .inr (by decide +kernel)) (by rw [isSubtype_type]; kernel_rfl)
theorem ba_slot_extend : Slot "bytearray" "extend" "bytearray.extend" :=
  .of (owner := "bytearray") (n := "extend") (by rw [typeLookup_type, builtinLookup_eq_fast]; kernel_rfl) (by decide +kernel) (by decide +kernel) (by decide +kernel)
    (by first | exact .inl (by decide +kernel) | exact .inr (by decide +kernel)) (by rw [isSubtype_type]; kernel_rfl)
theorem ba_plainAttrs : PlainAttrs "bytearray" :=
  ⟨⟨"bytearray.__getattribute__", by rw [typeLookup_type, builtinLookup_eq_fast]; kernel_rfl, by decide +kernel⟩, by rw [typeLookup_type, builtinLookup_eq_fast]; kernel_rfl⟩
theorem ba_type_append : typeOf (.builtin "bytearray.append") = pure (.type "method_descriptor") := by show builtinType _ = _; rw [builtinType_eq_fast]; kernel_rfl
theorem ba_type_extend : typeOf (.builtin "bytearray.extend") = pure (.type "method_descriptor") := by show builtinType _ = _; rw [builtinType_eq_fast]; kernel_rfl
theorem ba_owner : Manifest.owners.lookup (String.ofList ['y', 'a', 'r', 'r', 'a', 'e', 't', 'y', 'b'].reverse) = some Manifest.sig_bytearray := by kernel_rfl
theorem ba_args_init (a : Value) : argsOk "bytearray.__init__" ⟨[a], []⟩ := by
  unfold argsOk; rw [signature?_of (id := "bytearray.__init__") (n := ['_', '_', 't', 'i', 'n', 'i', '_', '_']) (o := ['y', 'a', 'r', 'r', 'a', 'e', 't', 'y', 'b']) (by kernel_rfl) ba_owner]; kernel_rfl
theorem ba_args_append (a b : Value) : argsOk "bytearray.append" ⟨[a, b], []⟩ := by
  unfold argsOk; rw [signature?_of (id := "bytearray.append") (n := ['d', 'n', 'e', 'p', 'p', 'a']) (o := ['y', 'a', 'r', 'r', 'a', 'e', 't', 'y', 'b']) (by kernel_rfl) ba_owner]; kernel_rfl
theorem ba_args_extend (a b : Value) : argsOk "bytearray.extend" ⟨[a, b], []⟩ := by
  unfold argsOk; rw [signature?_of (id := "bytearray.extend") (n := ['d', 'n', 'e', 't', 'x', 'e']) (o := ['y', 'a', 'r', 'r', 'a', 'e', 't', 'y', 'b']) (by kernel_rfl) ba_owner]; kernel_rfl
theorem ba_release : typeLookup (.type "bytearray") "__release_buffer__" = pure (some (.builtin "bytearray.__release_buffer__")) := by rw [typeLookup_type, builtinLookup_eq_fast]; kernel_rfl
theorem ba_buffer : typeLookup (.type "bytearray") "__buffer__" = pure (some (.builtin "bytearray.__buffer__")) := by rw [typeLookup_type, builtinLookup_eq_fast]; kernel_rfl
theorem ba_no_bytes : typeLookup (.type "bytearray") "__bytes__" = pure none := by rw [typeLookup_type, builtinLookup_eq_fast]; kernel_rfl
theorem ba_no_index : typeLookup (.type "bytearray") "__index__" = pure none := by rw [typeLookup_type, builtinLookup_eq_fast]; kernel_rfl
theorem ba_sub : isSubtype (.type "bytearray") (.type "bytearray") = pure true := by rw [isSubtype_type]; kernel_rfl
theorem ba_bind : Builtin.Bytes.bindOptional "bytearray.__init__" "bytearray" ["source", "encoding", "errors"] [] [] = pure [none, none, none] := by kernel_rfl
theorem b_release : typeLookup (.type "bytes") "__release_buffer__" = pure none := by rw [typeLookup_type, builtinLookup_eq_fast]; kernel_rfl
theorem b_buffer : typeLookup (.type "bytes") "__buffer__" = pure (some (.builtin "bytes.__buffer__")) := by rw [typeLookup_type, builtinLookup_eq_fast]; kernel_rfl
end F
set_option maxRecDepth 1000000 in
set_option maxHeartbeats 4000000 in
theorem owner_ba_new : ("bytearray.__new__".splitOn ".__new__").headD "" = "bytearray" := by simp +decide [String.splitOn, String.splitOnAux]

abbrev baObj (l : List UInt8) : Obj := { cls := .type "bytearray", data := .bytearray l.toArray }

section
variable {prog : Program} {w : World} {A : Around} {E : Value → Shared → Prop} {s : Shared}

theorem typeIs_ba {a : Addr} {l : List UInt8} (h : s.heap.get? a = some (baObj l)) : s.TypeIs (.ref a) "bytearray" := ⟨_, h, rfl⟩

theorem wpAny_slotIsOwn {v : Value} {T : String} {name id : String} {Q : Bool → Shared → Prop} {M : Model} (hT : s.TypeIs v T) (hl : typeLookup (.type T) (Str.ofString name) = pure (some (.builtin id)))
    (he : id.endsWith ("." ++ name) = true) (hsub : isSubtype (.type T) (.type (id.dropRight (name.length + 1))) = pure true) (h : Q true s) : wpAny M A (Builtin.Bytes.slotIsOwn v name) Q E s := by
  unfold Builtin.Bytes.slotIsOwn
  refine wpAny_bind (wpAny_specialOf hT hl ?_)
  simp only [he, Bool.not_true, Bool.false_eq_true, if_false]
  exact wpAny_isInstance hT hsub h
theorem wpAny_slotIsOwn_none {v : Value} {T : String} {name : String} {Q : Bool → Shared → Prop} {M : Model} (hT : s.TypeIs v T) (hl : typeLookup (.type T) (Str.ofString name) = pure none)
    (h : Q true s) : wpAny M A (Builtin.Bytes.slotIsOwn v name) Q E s := by
  unfold Builtin.Bytes.slotIsOwn
  exact wpAny_bind (wpAny_specialOf hT hl (wpAny_pure h))
theorem wpAny_ownRelease_ba {M : Model} {v : Value} {Q : Bool → Shared → Prop} (hT : s.TypeIs v "bytearray") (h : Q false s) : wpAny M A (Builtin.Bytes.ownRelease v) Q E s := by
  unfold Builtin.Bytes.ownRelease
  exact wpAny_bind (wpAny_slotIsOwn hT F.ba_release (by decide +kernel) (by rw [isSubtype_type]; kernel_rfl) (wpAny_pure h))
theorem wpAny_ownRelease_b {M : Model} {v : Value} {Q : Bool → Shared → Prop} (hT : s.TypeIs v "bytes") (h : Q false s) : wpAny M A (Builtin.Bytes.ownRelease v) Q E s := by
  unfold Builtin.Bytes.ownRelease
  exact wpAny_bind (wpAny_slotIsOwn_none hT F.b_release (wpAny_pure h))
theorem wpAny_payload_ba {M : Model} {a : Addr} {l : List UInt8} {Q : Array UInt8 → Shared → Prop} (ha : s.heap.get? a = some (baObj l)) (h : Q l.toArray s) : wpAny M A (Builtin.Bytes.payload (.ref a)) Q E s := by
  unfold Builtin.Bytes.payload Builtin.Bytes.payload?
  refine wpAny_bind (wpAny_bind (wpAny_load ha ?_))
  exact wpAny_pure (wpAny_pure h)
theorem wpAny_write {M : Model} {a : Addr} {l l' : List UInt8} {f : Array UInt8 → Array UInt8} {Q : Unit → Shared → Prop} (ha : s.heap.get? a = some (baObj l)) (hf : f l.toArray = l'.toArray) (hz : l'.length ≤ sizeLine)
    (h : ∀ h', Heap.SameBut a s.heap h' → h'.get? a = some (baObj l') → Q () { s with heap := h' }) : wpAny M A (Builtin.Bytes.write (.ref a) f) Q E s := by
  show wpAny _ _ (updateBytearray a f) _ _ _
  unfold updateBytearray
  refine wpAny_bind (wpAny_load ha ?_)
  show wpAny _ _ (update a (Obj.mapBytearray f) >>= fun _ => lookBehind a) _ _ _
  refine wpAny_bind (wpAny_update ha ?_)
  have h2 : (s.heap.update a (Obj.mapBytearray f)).get? a = some (baObj l') := by
    have := Heap.get?_update_self (Obj.mapBytearray f) ha rfl
    rw [this]
    show some ({ cls := .type "bytearray", data := .bytearray (f l.toArray) } : Obj) = _
    rw [hf]
  refine wpAny_lookBehind h2 ?_ (h _ (Heap.SameBut.update ..) h2)
  show (if l'.toArray.size > sizeLine then some "bytearray:memory" else none) = none
  rw [if_neg]
  rw [List.size_toArray]; omega
theorem wpR_checkNone {M : Model} {a : Addr} {l : List UInt8} {Q : Bool → Shared → Prop} (hg : A.guards = some []) (ha : s.heap.get? a = some (baObj l)) (h : Q false s) :
    wpR M A (Builtin.Bytes.exported (.ref a) <||> (do return (← Builtin.Bytes.exportsOf (.ref a)) > 0)) Q E s := by
  refine wpR_bind (wpR_exported hg rfl ?_)
  show wpR M A (Builtin.Bytes.exportsOf (.ref a) >>= _) Q E s
  refine wpR_bind ?_
  unfold Builtin.Bytes.exportsOf
  refine wpR_bind (toR (wpAny_load ha ?_))
  exact wpR_pure (wpR_pure h)
theorem wpR_checkResize {M : Model} {a : Addr} {l : List UInt8} {Q : Unit → Shared → Prop} (hg : A.guards = some []) (ha : s.heap.get? a = some (baObj l)) (h : Q () s) : wpR M A (Builtin.Bytes.checkResize (.ref a)) Q E s := by
  unfold Builtin.Bytes.checkResize
  refine wpR_bind (wpR_checkNone hg ha ?_)
  exact wpR_pure h

theorem code_ba_new {Q₁ : Value → Shared → Prop}
    (h : Q₁ (.ref s.heap.objs.size) { s with heap := s.heap.push (baObj []) }) :
    codeAny (model prog w) A (.call (.builtin "bytearray.__new__") ⟨[.type "bytearray"], []⟩) (wants Q₁ E) s := by
  refine codeAny_of_tree ?_
  show wpAny _ A.in1 (do checkBuiltinCall "bytearray.__new__" ⟨[.type "bytearray"], []⟩; again (.builtin "bytearray.__new__" ⟨[.type "bytearray"], []⟩)) _ _ s
  refine wpAny_bind (wpAny_of_eq F.ba_newCall (wpAny_pure ⟨plainId_quiet F.ba_plain_new _, codeAny_builtin_stack F.ba_entry_new rfl fun p st => ?_⟩))
  rw [Around.under_plainId F.ba_plain_new _]
  have hsub := F.ba_sub
  have hown := owner_ba_new
  obtain ⟨hp, g, d, tk, os⟩ := s
  simp only [hown]
  wp_walk
  exact h

theorem ba_init {a : Addr} {Q : Fin → Shared → Prop} (hg : A.guards = some []) (ha : s.heap.get? a = some (baObj []))
    (h : ∀ h', Heap.SameBut a s.heap h' → h'.get? a = some (baObj []) → Q (.done (.ret .none)) { s with heap := h' }) : wpR (model prog w) A (Builtin.«bytearray.__init__» ⟨[.ref a], []⟩) Q E s := by
  unfold Builtin.«bytearray.__init__»
  refine wpR_bind (toR (wpAny_ownRelease_ba (typeIs_ba ha) ?_))
  simp only [Bool.false_eq_true, if_false]
  refine wpR_bind (toR (wpAny_of_eq F.ba_bind ?_))
  refine wpR_bind (toR (wpAny_of_eq (a := ()) rfl ?_))
  refine wpR_bind (toR (wpAny_of_eq (a := ()) rfl ?_))
  refine wpR_bind (wpR_checkNone hg ha ?_)
  simp only [Bool.false_eq_true, if_false]
  refine wpR_bind (toR (wpAny_write (l' := []) ha rfl (Nat.zero_le _) fun h' hs ha' => ?_))
  exact wpR_bind (wpR_pure (wpR_pure (h h' hs ha')))

/-- bytearray() -/
theorem call_ba {Q : Value → Shared → Prop} (hg : A.guards = some []) (h : ∀ h', Kp s.heap h' → h'.get? s.heap.objs.size = some (baObj []) → Q (.ref s.heap.objs.size) { s with heap := h' }) : wpR (model prog w) A (call (.type "bytearray") []) Q E s := by
  refine callTypeR (Q₁ := fun obj s₁ => obj = .ref s.heap.objs.size ∧ s₁ = { s with heap := s.heap.push (baObj []) }) F.ba_called F.ba_typeCall F.ba_entry_init (fun as => by kernel_rfl) (codeToR (code_ba_new ⟨rfl, rfl⟩)) fun obj s₁ h₁ => ?_
  obtain ⟨rfl, rfl⟩ := h₁
  have ha : (s.heap.push (baObj [])).get? s.heap.objs.size = some (baObj []) := Heap.get?_push_size _ rfl
  refine ⟨typeIs_ba (s := { s with heap := s.heap.push (baObj []) }) ha, F.ba_args_init _, ba_init (s := { s with heap := s.heap.push (baObj []) }) hg ha fun h' hs ha' => ⟨rfl, h h' (fun b o e => (hs.2 b (Nat.ne_of_lt (Heap.lt_size e))).trans (Kp.push _ _ b o e)) ha'⟩⟩
end
end Mine

set_option maxRecDepth 100000
namespace Mine

/-! ## owned objects -/

section
variable {Γ : Cx} {k : Nat} {sc : Scope} {σ : Loc} {μ μ₁ μ₂ : Own} {pos : Pos} {P : Fl → Loc → Own → Prop} {A : Around} {F : Fm} {h₀ : Heap} {s : Shared} {a : Addr} {o o' : PO}

/-- a new object comes under the frame -/
theorem Sx.own' {s' : Shared} {cs : Scope} (X : Sx Γ h₀ sc F σ μ s cs) (g : Gr s s') (ha : s.heap.get? a = none) (ho : POat (Dm F ((a, o) :: μ)) s'.heap a o) : Sx Γ h₀ sc F σ ((a, o) :: μ) s' cs ∧ Sp F μ ((a, o) :: μ) s s' := by
  have hD : ∀ b o', s.heap.get? b = some o' → Dm F ((a, o) :: μ) b → Dm F μ b := by
    intro b o' hb d
    rcases d with d | d
    · exact .inl d
    · rw [List.map_cons, List.mem_cons] at d
      rcases d with d | d
      · dsimp only at d; subst d; rw [ha] at hb; cases hb
      · exact .inr d
  have hv : ∀ {x v}, V (Dm F μ) s.heap x v → V (Dm F ((a, o) :: μ)) s'.heap x v := fun e => e.move (fun b o hb _ => g.keep b o hb) hD
  have hvs : ∀ {x v}, Vs (Dm F μ) s.heap x v → Vs (Dm F ((a, o) :: μ)) s'.heap x v := fun e => e.move (fun b o hb _ => g.keep b o hb) hD
  have hnot : a ∉ μ.map (·.1) := fun d => by have := X.toSt.dom a (.inr d); rw [ha] at this; cases this
  refine ⟨⟨⟨X.ok, X.base.trans g.keep, ?_, fun x v p q => ?_, fun b q hm => ?_, fun b hb => g.keep.alive b (X.dal b hb)⟩, X.keep.trans g.keep, X.baseh, X.newL, fun y e => let ⟨c, v, p, q, d⟩ := X.cells y e; ⟨c, v, p, q, d.keeps g.keep⟩,
    fun y c e => let ⟨v, d⟩ := X.cellsAll y c e; ⟨v, d.keeps g.keep⟩, X.cellsApart, fun b hb => ?_, X.dold, ?_⟩, fun b o' e _ _ _ => g.keep b o' e, fun b e => g.keep.alive b e, fun b e d => ?_, g.gens, g.os⟩
  · obtain ⟨m, hn, hm⟩ := X.ns
    exact ⟨m, hn.keeps g.keep, fun x v p q => let ⟨val, e1, e2⟩ := hm x v p q; ⟨val, e1, hv e2⟩⟩
  · obtain ⟨c, val, e1, e2, e3⟩ := X.cel x v p q
    exact ⟨c, val, e1, e2.keeps g.keep, hv e3⟩
  · rcases List.mem_cons.mp hm with hm | hm
    · cases hm; exact ho
    · have := X.own b q hm
      cases q with
      | list xs => obtain ⟨items, n, ho, e⟩ := this; exact ⟨items, n, g.keep _ _ ho, hvs e⟩
      | barr l => exact g.keep _ _ this
  · rw [List.map_cons, List.mem_cons] at hb
    rcases hb with hb | hb
    · dsimp only at hb; subst hb
      cases q : h₀.get? b with
      | none => rfl
      | some o' => have := X.keep b o' q; rw [ha] at this; cases this
    · exact X.ownNew b hb
  · rw [List.map_cons, List.nodup_cons]; exact ⟨hnot, X.apart⟩
  · obtain ⟨o', ho'⟩ := Option.isSome_iff_exists.mp e
    exact hD b o' ho' d

theorem mem_own (o' : PO) (b : Addr) : b ∈ (μ₁ ++ (a, o') :: μ₂).map (·.1) ↔ b ∈ (μ₁ ++ (a, o) :: μ₂).map (·.1) := by simp
theorem Dm_own : Dm F (μ₁ ++ (a, o') :: μ₂) = Dm F (μ₁ ++ (a, o) :: μ₂) := by
  funext b; unfold Dm; rw [propext (mem_own (o := o) o' b)]

/-- an owned object is changed -/
theorem Sx.upd {h' : Heap} {tk : Nat} {cs : Scope} (X : Sx Γ h₀ sc F σ (μ₁ ++ (a, o) :: μ₂) s cs) (hs : Heap.SameBut a s.heap h') (ho : POat (Dm F (μ₁ ++ (a, o) :: μ₂)) h' a o') :
    Sx Γ h₀ sc F σ (μ₁ ++ (a, o') :: μ₂) { s with heap := h', toks := tk } cs ∧ Sp F (μ₁ ++ (a, o) :: μ₂) (μ₁ ++ (a, o') :: μ₂) s { s with heap := h', toks := tk } := by
  have hDa : Dm F (μ₁ ++ (a, o) :: μ₂) a := .inr (by simp)
  have hao := X.own a o (by simp)
  obtain ⟨oa, hoa, hda⟩ : ∃ oa, s.heap.get? a = some oa ∧ ((∃ xs n, oa.data = .seq xs n ∧ oa.cls = .type "list") ∨ ∃ l n, oa.data = .bytearray l n) := by
    cases o with
    | list xs => obtain ⟨items, n, h, _⟩ := hao; exact ⟨_, h, .inl ⟨_, _, rfl, rfl⟩⟩
    | barr l => exact ⟨_, hao, .inr ⟨_, _, rfl⟩⟩
  have hnode : ∀ b o', s.heap.get? b = some o' → Node (Dm F (μ₁ ++ (a, o) :: μ₂)) b o' → h'.get? b = some o' := fun b o' hb hn => (hs.2 b (fun q => by
    subst q
    rw [hoa] at hb; cases hb
    rcases hn with ⟨_, _, hn, hn'⟩ | ⟨hn, _, hn'⟩
    · rcases hn' with hn' | hn'
      · exact hn' hDa
      · rcases hda with ⟨_, _, _, hc⟩ | ⟨_, _, hd⟩
        · rw [hc] at hn'; exact absurd hn' (by decide)
        · rw [hd] at hn; cases hn
    · rcases hda with ⟨_, _, hd, _⟩ | ⟨_, _, hd⟩ <;> (rw [hd] at hn'; cases hn'))).trans hb
  have hv : ∀ {x v}, V (Dm F (μ₁ ++ (a, o) :: μ₂)) s.heap x v → V (Dm F (μ₁ ++ (a, o) :: μ₂)) h' x v := fun e => e.move hnode fun _ _ _ d => d
  have hvs : ∀ {x v}, Vs (Dm F (μ₁ ++ (a, o) :: μ₂)) s.heap x v → Vs (Dm F (μ₁ ++ (a, o) :: μ₂)) h' x v := fun e => e.move hnode fun _ _ _ d => d
  have hnew := X.ownNew a (by simp)
  have hold : ∀ b o', h₀.get? b = some o' → h'.get? b = some o' := fun b o' e => (hs.2 b (fun q => by subst q; rw [hnew] at e; cases e)).trans (X.keep b o' e)
  have hcell : ∀ c v, s.heap.IsCell c v → h'.IsCell c v := fun c v ⟨oc, hoc, hd⟩ => ⟨oc, (hs.2 c (fun q => by
    subst q; rw [hoa] at hoc; cases hoc
    rcases hda with ⟨_, _, hd', _⟩ | ⟨_, _, hd'⟩ <;> (rw [hd'] at hd; cases hd))).trans hoc, hd⟩
  have hnd : (μ₁ ++ (a, o) :: μ₂).map (·.1) = (μ₁ ++ (a, o') :: μ₂).map (·.1) := by simp
  have halive : ∀ b, (s.heap.get? b).isSome → (h'.get? b).isSome := fun b e => by
    by_cases q : b = a
    · subst q
      cases o' with
      | list xs => obtain ⟨items, n, h, _⟩ := ho; rw [h]; rfl
      | barr l => have h : h'.get? b = some (baObj l) := ho; rw [h]; rfl
    · rw [hs.2 b q]; exact e
  have hEq := Dm_own (F := F) (μ₁ := μ₁) (μ₂ := μ₂) (a := a) (o := o) (o' := o')
  have ap := X.apart
  refine ⟨⟨⟨X.ok, fun b o' e => hold b o' (X.baseh b o' e), ?_, fun x v p q => ?_, fun b q hm => ?_, fun b hb => halive b (X.dal b hb)⟩, hold, X.baseh, X.newL, fun x e => let ⟨c, v, a1, a2, a3⟩ := X.cells x e; ⟨c, v, a1, a2, hcell _ _ a3⟩,
    fun x c e => let ⟨v, a3⟩ := X.cellsAll x c e; ⟨v, hcell _ _ a3⟩, X.cellsApart, fun b hb => X.ownNew b (by rw [hnd]; exact hb), X.dold, by rw [← hnd]; exact ap⟩, fun b o' e _ _ h3 => ?_, halive, fun b _ d => by rw [hEq] at d; exact d, rfl, rfl⟩
  · obtain ⟨m, hn, hm⟩ := X.ns
    rw [hEq]
    refine ⟨m, ?_, fun x v p q => let ⟨val, e1, e2⟩ := hm x v p q; ⟨val, e1, hv e2⟩⟩
    obtain ⟨oL, es, ep, hoL, hdL, r⟩ := hn
    refine ⟨oL, es, ep, (hs.2 _ (fun q => ?_)).trans hoL, hdL, r⟩
    rw [q, hoa] at hoL; cases hoL
    rcases hda with ⟨_, _, hd', _⟩ | ⟨_, _, hd'⟩ <;> (rw [hd'] at hdL; cases hdL)
  · obtain ⟨c, val, e1, e2, e3⟩ := X.cel x v p q
    rw [hEq]
    exact ⟨c, val, e1, hcell _ _ e2, hv e3⟩
  · rw [hEq]
    have hother : b ≠ a → (b, q) ∈ μ₁ ++ (a, o) :: μ₂ → POat (Dm F (μ₁ ++ (a, o) :: μ₂)) h' b q := fun hba hm => by
      have := X.own b q hm
      cases q with
      | list xs => obtain ⟨items, n, h, e⟩ := this; exact ⟨items, n, (hs.2 b hba).trans h, hvs e⟩
      | barr l => exact (hs.2 b hba).trans this
    have ap' : (List.map (·.1) μ₁ ++ a :: List.map (·.1) μ₂).Nodup := by simpa using ap
    rw [List.nodup_append] at ap'
    obtain ⟨n1, n2, n3⟩ := ap'
    rw [List.nodup_cons] at n2
    rcases List.mem_append.mp hm with hm | hm
    · have hb1 : b ∈ List.map (·.1) μ₁ := List.mem_map.mpr ⟨_, hm, rfl⟩
      exact hother (fun q => n3 b hb1 a List.mem_cons_self q) (List.mem_append.mpr (.inl hm))
    · rcases List.mem_cons.mp hm with hm | hm
      · cases hm; exact ho
      · have hb2 : b ∈ List.map (·.1) μ₂ := List.mem_map.mpr ⟨_, hm, rfl⟩
        exact hother (fun q => n2.1 (q ▸ hb2)) (List.mem_append.mpr (.inr (List.mem_cons_of_mem _ hm)))
  · exact (hs.2 b (fun q => h3 (q ▸ hDa))).trans e

/-- an owned list is done with: it is a plain value -/
theorem Dm_less (b : Addr) (d : Dm F (μ₁ ++ μ₂) b) : Dm F (μ₁ ++ (a, o) :: μ₂) b := by
  rcases d with d | d
  · exact .inl d
  · refine .inr ?_
    simp only [List.map_append, List.mem_append, List.map_cons, List.mem_cons] at d ⊢
    rcases d with d | d
    · exact .inl d
    · exact .inr (.inr d)
theorem Sx.notOwn (X : Sx Γ h₀ sc F σ (μ₁ ++ (a, o) :: μ₂) s) : ¬ Dm F (μ₁ ++ μ₂) a := by
  rintro (d | d)
  · have := X.dold a d; rw [X.ownNew a (by simp)] at this; cases this
  · have ap' : (List.map (·.1) μ₁ ++ a :: List.map (·.1) μ₂).Nodup := by simpa using X.apart
    rw [List.nodup_append] at ap'
    obtain ⟨n1, n2, n3⟩ := ap'
    rw [List.nodup_cons] at n2
    rw [List.map_append, List.mem_append] at d
    rcases d with d | d
    · exact n3 a d a List.mem_cons_self rfl
    · exact n2.1 d
theorem Sx.drop (X : Sx Γ h₀ sc F σ (μ₁ ++ (a, o) :: μ₂) s) : Sx Γ h₀ sc F σ (μ₁ ++ μ₂) s where
  ok := X.ok
  base := X.base
  ns := let ⟨m, hn, hm⟩ := X.ns; ⟨m, hn, fun x v p q => let ⟨val, e1, e2⟩ := hm x v p q; ⟨val, e1, e2.less fun b _ _ d => Dm_less b d⟩⟩
  cel := fun x v p q => let ⟨c, val, e1, e2, e3⟩ := X.cel x v p q; ⟨c, val, e1, e2, e3.less fun b _ _ d => Dm_less b d⟩
  own := fun b q hm => by
    have := X.own b q (by rcases List.mem_append.mp hm with hm | hm <;> simp [hm])
    cases q with
    | list xs => obtain ⟨items, n, h, e⟩ := this; exact ⟨items, n, h, e.less fun b _ _ d => Dm_less b d⟩
    | barr l => exact this
  dal := X.dal
  keep := X.keep
  baseh := X.baseh
  newL := X.newL
  cells := X.cells
  cellsAll := X.cellsAll
  cellsApart := X.cellsApart
  ownNew := fun b hb => X.ownNew b (by simp only [List.map_append, List.mem_append, List.map_cons, List.mem_cons] at hb ⊢; rcases hb with hb | hb <;> simp [hb])
  dold := X.dold
  apart := by
    have ap' : (List.map (·.1) μ₁ ++ a :: List.map (·.1) μ₂).Nodup := by simpa using X.apart
    rw [List.map_append]
    exact ap'.sublist (List.Sublist.append (List.Sublist.refl _) (List.sublist_cons_self _ _))
theorem Sp.drop : Sp F (μ₁ ++ (a, o) :: μ₂) (μ₁ ++ μ₂) s s := ⟨fun _ _ e _ _ _ => e, fun _ e => e, fun b _ d => Dm_less b d, rfl, rfl⟩

theorem Sx.set {x : Str} {v : PV} (X : Sx Γ h₀ sc F σ μ s)
    (h1 : sc.names.lookup x = some .local → ∀ m, s.heap.Ns F.L m → (∀ y w, σ.lookup y = some w → sc.names.lookup y = some .local → ∃ val, m y = some val ∧ V (Dm F μ) s.heap w val) → ∃ val, m x = some val ∧ V (Dm F μ) s.heap v val)
    (h2 : (sc.names.lookup x = some .cell ∨ sc.names.lookup x = some .free) → ∃ c val, F.cl.lookup x = some c ∧ s.heap.IsCell c (some val) ∧ V (Dm F μ) s.heap v val) : Sx Γ h₀ sc F ((x, v) :: σ) μ s :=
  { X with
    ns := by
      obtain ⟨m, hn, hm⟩ := X.ns
      refine ⟨m, hn, fun y w p q => ?_⟩
      by_cases e : y = x
      · subst e; rw [lookup_cons_self] at p; cases p; exact h1 q m hn hm
      · rw [lookup_cons_ne e] at p; exact hm y w p q
    cel := fun y w p q => by
      by_cases e : y = x
      · subst e; rw [lookup_cons_self] at p; cases p; exact h2 q
      · rw [lookup_cons_ne e] at p; exact X.cel y w p q }
theorem Sx.freeze {x : Str} {xs : List PV} (X : Sx Γ h₀ sc F σ (μ₁ ++ (a, .list xs) :: μ₂) s) (hx : σ.lookup x = some (.ref a)) : Sx Γ h₀ sc F ((x, .lst xs) :: σ) (μ₁ ++ μ₂) s := by
  have hv : V (Dm F (μ₁ ++ μ₂)) s.heap (.lst xs) (.ref a) := by
    obtain ⟨items, n, h, e⟩ := X.own a (.list xs) (by simp)
    exact V_lst.mpr ⟨a, items, rfl, X.notOwn, ⟨_, h, rfl, n, rfl⟩, e.less fun b _ _ d => Dm_less b d⟩
  refine X.drop.set (fun hl m hn hm => ?_) (fun hl => ?_)
  · obtain ⟨val, e1, e2⟩ := hm x _ hx hl
    rw [V_ref] at e2; subst e2
    exact ⟨_, e1, hv⟩
  · obtain ⟨c, val, e1, e2, e3⟩ := X.drop.cel x _ hx hl
    rw [V_ref] at e3; subst e3
    exact ⟨c, _, e1, e2, hv⟩
theorem Xs.freeze {x : Str} {xs : List PV} {sts : List Stmt} (hx : σ.lookup x = some (.ref a)) (h : Xs Γ k sc ((x, .lst xs) :: σ) (μ₁ ++ μ₂) sts P) : Xs Γ k sc σ (μ₁ ++ (a, .list xs) :: μ₂) sts P :=
  fun A n F h₀ s Q E hn hA X hQ => h A n F h₀ s Q E hn hA (X.freeze hx) fun fl σ' μ' f s' hP X' sp hf => hQ fl σ' μ' f s' hP X' (Sp.drop.trans sp) hf
theorem Xs.freeze0 {x : Str} {xs : List PV} {sts : List Stmt} (hx : σ.lookup x = some (.ref a)) (h : Xs Γ k sc ((x, .lst xs) :: σ) μ₂ sts P) : Xs Γ k sc σ ((a, .list xs) :: μ₂) sts P :=
  Xs.freeze (μ₁ := []) hx h

/-- a fresh object -/
def EvN (Γ : Cx) (k : Nat) (sc : Scope) (σ : Loc) (μ : Own) (e : Expr) (o : PO) : Prop :=
  ∀ (A : Around) (n : Nat) (F : Fm) (s : Shared) (Q : Value → Shared → Prop) (E : Value → Shared → Prop), n + k ≤ 8 → Lv n A → St Γ sc F σ μ s →
    (∀ a s', Gr s s' → s.heap.get? a = none → POat (Dm F ((a, o) :: μ)) s'.heap a o → Q (.ref a) s') → wpR Γ.M A (eval e (F.env sc)) Q E s

theorem X1.own {x : Str} {p' : Pos} {e : Expr} {o : PO} (he : EvN Γ k sc σ μ e o) (h : ∀ a, a ∉ μ.map (·.1) → P .next ((x, .ref a) :: σ) ((a, o) :: μ)) (hl : isPlace (sc.names.lookup x) = true := by decide +kernel) (hk : sc.kind = .function := by kernel_rfl)
    (hs : ∀ F : Fm, swapsWith e (some (.Name x p')) pos.line (F.env sc) = pure false := by intro _; kernel_rfl) : X1 Γ k sc σ μ (.Assign [.Name x p'] e pos) P := by
  intro A n F h₀ s Q E hn hA X hQ
  refine wpR_Assign_Name (he A n F s _ _ hn hA X.toSt fun a s₁ g ha ho => ?_) (hs F)
  obtain ⟨X₁, sp₁⟩ := X.own' g ha ho
  have hnot : a ∉ μ.map (·.1) := fun d => by have := X.toSt.dom a (.inr d); rw [ha] at this; cases this
  exact toR (X₁.store (V_ref.mpr rfl) hl hk fun s₂ X₂ sp₂ _ => hQ .next _ _ _ s₂ (h a hnot) X₂ (sp₁.trans sp₂) rfl)

theorem Vs.ownPush {h h' : Heap} {xs : List PV} {vs : List Value} (e : Vs (Dm F μ) h xs vs) (ha : h.get? a = none) (hk : Kp h h') : Vs (Dm F ((a, o) :: μ)) h' xs vs :=
  e.move (fun b o hb _ => hk b o hb) fun b o' hb d => by
    rcases d with d | d
    · exact .inl d
    · rw [List.map_cons, List.mem_cons] at d
      rcases d with d | d
      · dsimp only at d; subst d; rw [ha] at hb; cases hb
      · exact .inr d
theorem EvN.list {es : List Expr} {vs : List PV} (h : Es Γ k sc σ μ pos es vs) (hs : vs.length ≤ 1000) : EvN Γ k sc σ μ (.List es pos) (.list vs) := by
  intro A n F s Q E hn hA st hQ
  refine wpR_List (h A n F s _ _ hn hA st fun vals s₁ g₁ hv => ⟨?_, hQ _ _ (g₁.trans (Gr.heap _ (Kp.push _ _))) ?_ ?_⟩)
  · have := hv.length; rw [sizeLine_eq]; omega
  · cases q : s.heap.get? s₁.heap.objs.size with
    | none => rfl
    | some o => have := g₁.keep _ _ q; rw [fresh_addr] at this; cases this
  · exact ⟨vals.toArray, _, Heap.get?_push_size _ rfl, by simpa using hv.ownPush (fresh_addr _) (Kp.push _ _)⟩

/-- a call that makes an object -/
def CallN (Γ : Cx) (f : Value) (args : List PV) (o : PO) : Prop :=
  ∀ (A : Around) (n : Nat) (D : Addr → Prop) (s : Shared) (vals : List Value) (Q : Value → Shared → Prop) (E : Value → Shared → Prop), n ≤ 8 → Lv n A → Γ.Ok → Kp Γ.B s.heap →
    Vs D s.heap args vals → (∀ b, D b → (s.heap.get? b).isSome) → (∀ a s', Gr s s' → s.heap.get? a = none → (∀ D' : Addr → Prop, (∀ b, D' b → D b ∨ b = a) → POat D' s'.heap a o) → Q (.ref a) s') → wpR Γ.M A (call f vals) Q E s
theorem EvN.call {x : Str} {p : Pos} {args : List Expr} {f : Value} {vs : List PV} {o : PO} (hf : Ev Γ k sc σ μ (.Name x p) (.obj f)) (hkp : KeepOk Γ f) (ha : Es Γ k sc σ μ pos args vs) (hc : CallN Γ f vs o)
    (hp : args.any isStarred = false := by kernel_rfl) : EvN Γ k sc σ μ (.Call (.Name x p) args [] pos) o := by
  intro A n F s Q E hn hA st hQ
  refine wpR_CallName (hf A n F s _ _ hn hA st fun fv s₁ g₁ hfv => ?_)
  rw [V_obj] at hfv; subst hfv
  refine wpR_callWith (P := fun h => Kp Γ.B h) (starEach_plain_any args hp) hkp ?_
  refine wpR_evalArgs hp (ha A n F s₁ _ _ hn hA (st.grow g₁) fun vals s₂ g₂ hvs => ?_)
  have st₂ := (st.grow g₁).grow g₂
  refine ⟨st₂.base, ?_⟩
  show wpR _ _ (PySem.call fv ([] ++ vals) []) Q E s₂
  refine hc A n (Dm F μ) s₂ vals Q E (by omega) hA st.ok st₂.base hvs st₂.dom fun a s₃ g₃ ha hv => hQ a s₃ ((g₁.trans g₂).trans g₃) ?_ (hv _ fun b d => ?_)
  · cases q : s.heap.get? a with
    | none => rfl
    | some o => have := (g₁.trans g₂).keep _ _ q; rw [ha] at this; cases this
  · rcases d with d | d
    · exact .inl (.inl d)
    · rw [List.map_cons, List.mem_cons] at d
      rcases d with d | d
      · exact .inr d
      · exact .inl (.inr d)
theorem CallN.bytearray : CallN Γ (.type "bytearray") [] (.barr []) := by
  intro A n D s vals Q E _ hA ok hB hv hD hQ
  rw [Vs_nil] at hv; subst hv
  exact call_ba hA.guards fun h' hk ha => hQ _ _ (Gr.heap _ hk) (fresh_addr _) fun D' _ => ha

/-! ### methods that change an owned object -/
def POt : PO → String
  | .list _ => "list"
  | .barr _ => "bytearray"
def MethOk (Γ : Cx) (id : String) (o : PO) (args : List PV) (o' : PO) : Prop :=
  ∀ (A : Around) (n : Nat) (D : Addr → Prop) (s : Shared) (a : Addr) (vals : List Value) (Q : Value → Shared → Prop) (E : Value → Shared → Prop), n ≤ 8 → Lv n A → Γ.Ok → Kp Γ.B s.heap →
    POat D s.heap a o → D a → Vs D s.heap args vals → (∀ b, D b → (s.heap.get? b).isSome) →
    (∀ h' tk, Heap.SameBut a s.heap h' → POat D h' a o' → Q .none { s with heap := h', toks := tk }) → wpR Γ.M A (call (.builtin id) (.ref a :: vals)) Q E s
theorem POat.typeIs {D : Addr → Prop} (h : POat D s.heap a o) : s.TypeIs (.ref a) (POt o) ∧ ∃ ob, s.heap.get? a = some ob ∧ ob.dict = none := by
  cases o with
  | list xs => obtain ⟨items, n, h, _⟩ := h; exact ⟨⟨_, h, rfl⟩, _, h, rfl⟩
  | barr l => exact ⟨⟨_, h, rfl⟩, _, h, rfl⟩

theorem wpR_Call_method {prog : Program} {w : World} {E : Value → Shared → Prop} {env : Env} {o : Expr} {name : Str} {apos pos : Pos} {args : List Expr} {T id : String} {Q : Value → Shared → Prop}
    (hbase : attributeBase o name env (eval o env) = eval o env)
    (hform : methodCallForm (args.length + ([] : List Keyword).length) (backTo pos (starEach args env)) (backToKw pos (keywordEach [] env)) = true)
    (hline : methodCallPos true o env apos pos = pure pos)
    (pa : PlainAttrs T) (slot : Slot T name id) (hty : typeOf (.builtin id) = pure (.type "method_descriptor"))
    (h : wpR (model prog w) A (eval o env) (fun ov s₁ => s₁.TypeIs ov T ∧ (∀ a, ov = .ref a → ∃ ob, s₁.heap.get? a = some ob ∧ ob.dict = none) ∧
      wpR (model prog w) A (callWith pos (.builtin id) [ov] (backTo pos (starEach args env)) []) Q E s₁) E s) :
    wpR (model prog w) A (eval (.Call (.Attribute o name apos) args [] pos) env) Q E s := by
  rw [arm_eval_Call, hbase]
  refine wpR_bind (wpR_mono h (fun ov s₁ h₁ => ?_) fun _ _ e => e)
  obtain ⟨hT, hd, hc⟩ := h₁
  refine wpR_bind (wpR_standAt ?_)
  unfold methodCall
  rw [hform]
  refine wpR_bind (wpR_holding (toR (getMethod_builtin hT pa slot hty hd ?_)))
  exact wpR_bind (toR (wpAny_of_eq hline hc))
theorem form_plain {env : Env} {pos : Pos} {args : List Expr} (hp : args.any isStarred = false) (hn : args.length < 30) :
    methodCallForm (args.length + ([] : List Keyword).length) (backTo pos (starEach args env)) (backToKw pos (keywordEach [] env)) = true := by
  unfold methodCallForm
  have h1 := starEach_plain_any (env := env) (pos := pos) args hp
  have h2 : (backTo pos (starEach args env)).all (fun x => !x.1) = true := by
    rw [List.all_eq_true]
    intro x hx
    have := List.any_eq_false.mp h1 x hx
    simpa using this
  rw [h2]
  show (true && true && decide (args.length + 0 + 0 < 30)) = true
  simp [hn]

theorem X1.meth {x name : Str} {p ap ep : Pos} {args : List Expr} {vs : List PV} {id : String} (hx : σ.lookup x = some (.ref a)) (ha : Es Γ k sc σ (μ₁ ++ (a, o) :: μ₂) pos args vs) (hc : MethOk Γ id o vs o')
    (pa : PlainAttrs (POt o)) (slot : Slot (POt o) name id) (hty : typeOf (.builtin id) = pure (.type "method_descriptor")) (h : P .next σ (μ₁ ++ (a, o') :: μ₂))
    (hl : isVar (sc.names.lookup x) = true := by decide +kernel) (hk : sc.kind = .function := by kernel_rfl) (hd : (x == ("__debug__" : Str)) = false := by decide +kernel) (hcd : (x == ("__classdict__" : Str)) = false := by decide +kernel)
    (hp : args.any isStarred = false := by kernel_rfl) (hn30 : args.length < 30 := by decide +kernel)
    (hline : ∀ F : Fm, methodCallPos true (.Name x p) (F.env sc) ap pos = pure pos := by intro _; kernel_rfl)
    (hi : ∀ F : Fm, interactive (F.env sc) = false := by intro _; kernel_rfl)
    (hs : ∀ F : Fm, swapsWith (.Call (.Attribute (.Name x p) name ap) args [] pos) none ep.line (F.env sc) = pure false := by intro _; kernel_rfl) :
    X1 Γ k sc σ (μ₁ ++ (a, o) :: μ₂) (.Expr (.Call (.Attribute (.Name x p) name ap) args [] pos) ep) P := by
  intro A n F h₀ s Q E hn hA X hQ
  rw [exec_Expr _ _ _ (hi F) (hs F)]
  refine wpR_bind (wpR_standAt (wpR_bind (wpR_Call_method rfl (form_plain hp hn30) (hline F) pa slot hty ?_)))
  refine Ev.name (k := k) hx hl hk hd hcd A n F s _ _ hn hA X.toSt fun ov s₁ g₁ hov => ?_
  rw [V_ref] at hov; subst hov
  have X₁ := X.grow g₁
  have ho₁ := X₁.own a o (by simp)
  refine ⟨(POat.typeIs ho₁).1, fun b e => by cases e; exact (POat.typeIs ho₁).2, ?_⟩
  refine wpR_callWith (P := fun h => Kp Γ.B h) (starEach_plain_any args hp) (KeepOk.builtin) ?_
  refine wpR_evalArgs hp (ha A n F s₁ _ _ hn hA X₁.toSt fun vals s₂ g₂ hvs => ?_)
  have X₂ := X₁.grow g₂
  refine ⟨X₂.base, ?_⟩
  show wpR _ _ (PySem.call (.builtin id) ([.ref a] ++ vals) []) _ E s₂
  refine hc A n _ s₂ a vals _ E (by omega) hA X.ok X₂.base (X₂.own a o (by simp)) (.inr (by simp)) hvs X₂.toSt.dom fun h' tk hs' ho' => ?_
  obtain ⟨X₃, sp₃⟩ := X₂.upd (tk := tk) hs' ho'
  exact toR (wpAny_dropValue (hQ .next σ _ _ _ h X₃ ((Sp.gr (g₁.trans g₂)).trans sp₃) rfl))

theorem MethOk.ba_append {l : List UInt8} {i : Int} (h0 : 0 ≤ i) (h1 : i < 256) (hz : l.length < 2 ^ 20) : MethOk Γ "bytearray.append" (.barr l) [.int i] (.barr (l ++ [i.toNat.toUInt8])) := by
  intro A n D s a vals Q E _ hA ok hB ha hDa hv hD hQ
  rw [Vs_cons] at hv
  obtain ⟨v, r, rfl, hv, hr⟩ := hv
  rw [Vs_nil] at hr; subst hr
  obtain ⟨t, rfl⟩ := V_int.mp hv
  have ha' : s.heap.get? a = some (baObj l) := ha
  refine wpR_call (codeR_call_builtin (by kernel_rfl) F.ba_slot_append.plain F.ba_entry_append (F.ba_slot_append.check _ _ _ _ _ _ _ _ (typeIs_ba ha') (F.ba_args_append _ _) ?_))
  show wpR _ _ (Builtin.Bytes.byteValue (.int i t) >>= fun c => Builtin.Bytes.checkResize (.ref a) >>= fun _ => Builtin.Bytes.write (.ref a) (·.push c) >>= fun _ => ret .none) _ _ _
  have hb : Builtin.Bytes.byteValue (.int i t) = pure i.toNat.toUInt8 := by
    show (do
      if i < 0 || i ≥ 256 then rule "bytes.byte-out-of-range"; raiseError "ValueError" "byte must be in range(0, 256)"
      return i.toNat.toUInt8) = _
    have : (decide (i < 0) || decide (i ≥ 256)) = false := by simp; omega
    rw [this]; rfl
  refine wpR_bind (toR (wpAny_of_eq hb ?_))
  refine wpR_bind (wpR_checkResize hA.guards ha' ?_)
  refine wpR_bind (toR (wpAny_write (l' := l ++ [i.toNat.toUInt8]) ha' (by simp) (by rw [sizeLine_eq]; simp; omega) fun h' hs' ha2 => ?_))
  exact wpR_pure (hQ h' s.toks hs' ha2)
theorem MethOk.list_append {xs : List PV} {v : PV} (hz : xs.length < 2 ^ 20) : MethOk Γ "list.append" (.list xs) [v] (.list (xs ++ [v])) := by
  intro A n D s a vals Q E _ hA ok hB ha hDa hv hD hQ
  rw [Vs_cons] at hv
  obtain ⟨val, r, rfl, hv, hr⟩ := hv
  rw [Vs_nil] at hr; subst hr
  obtain ⟨items, m, ho, e⟩ := ha
  have hlen : items.size = xs.length := by simpa using e.length
  have hnode : ∀ (h' : Heap), Heap.SameBut a s.heap h' → ∀ b o', s.heap.get? b = some o' → Node D b o' → h'.get? b = some o' := fun h' hs b o' hb hn => (hs.2 b (fun q => by
    subst q; rw [ho] at hb; cases hb
    rcases hn with ⟨_, _, _, hn | hn⟩ | ⟨hn, _⟩
    · exact hn hDa
    · exact absurd hn (by show Value.type "list" ≠ Value.type "tuple"; decide)
    · exact absurd hn (by show Value.type "list" ≠ Value.type "range"; decide))).trans hb
  refine toR (wpAny_call_entry slot_list_append ⟨_, ho, rfl⟩ entry_list_append ?_ (args_list_append _ _))
  show wpAny _ _ (updateSeq a (·.push val) >>= fun _ => ret .none) _ _ s
  refine wpAny_bind (wpAny_updateSeq (hz := by rw [hlen, sizeLine_eq]; omega) ho rfl (wpAny_pure ⟨.none, rfl, ?_⟩))
  have hs : Heap.SameBut a s.heap (s.heap.update a (Obj.mapSeq (·.push val))) := Heap.SameBut.update ..
  refine hQ _ s.toks hs ⟨items.push val, _, Heap.get?_update_self _ ho rfl, ?_⟩
  rw [Array.toList_push]
  exact (e.move (hnode _ hs) fun _ _ _ d => d).append (Vs_cons.mpr ⟨val, [], rfl, hv.move (hnode _ hs) (fun _ _ _ d => d), Vs_nil.mpr rfl⟩)

/-! ### bytes of a bytearray -/
def atom : PV → Bool
  | .none | .bool _ | .int _ | .str _ | .bytes _ | .obj _ | .ref _ => true
  | _ => false
theorem V.atom {D D' : Addr → Prop} {h h' : Heap} {x : PV} {v : Value} (hx : Mine.atom x = true) (e : V D h x v) : V D' h' x v := by
  cases x with
  | none => rw [V_none] at *; exact e
  | bool b => rw [V_bool] at *; exact e
  | int i => rw [V_int] at *; exact e
  | str l => rw [V_str] at *; exact e
  | bytes l => rw [V_bytes] at *; exact e
  | obj w => rw [V_obj] at *; exact e
  | ref k => rw [V_ref] at *; exact e
  | _ => cases hx

theorem wpAny_slotIsOwn_ba {M : Model} {E : Value → Shared → Prop} {Q : Bool → Shared → Prop} {v : Value} (hT : s.TypeIs v "bytearray") (h : Q true s) : wpAny M A (Builtin.Bytes.slotIsOwn v "__buffer__") Q E s :=
  wpAny_slotIsOwn hT F.ba_buffer (by decide +kernel) (by rw [isSubtype_type]; kernel_rfl) h
theorem wpAny_slotIsOwn_b {M : Model} {E : Value → Shared → Prop} {Q : Bool → Shared → Prop} {v : Value} (hT : s.TypeIs v "bytes") (h : Q true s) : wpAny M A (Builtin.Bytes.slotIsOwn v "__buffer__") Q E s :=
  wpAny_slotIsOwn hT F.b_buffer (by decide +kernel) (by rw [isSubtype_type]; kernel_rfl) h
theorem wpAny_buffer_ba {M : Model} {E : Value → Shared → Prop} {id : String} {full : Bool} {l : List UInt8} {Q : Option (Array UInt8) → Shared → Prop} (ha : s.heap.get? a = some (baObj l)) (h : Q (some l.toArray) s) : wpAny M A (Builtin.Bytes.buffer? id (.ref a) full) Q E s := by
  unfold Builtin.Bytes.buffer?
  refine wpAny_bind (wpAny_specialOf (typeIs_ba ha) F.ba_buffer ?_)
  dsimp only
  refine wpAny_bind (wpAny_slotIsOwn_ba (typeIs_ba ha) ?_)
  simp only [Bool.not_true, Bool.false_eq_true, if_false]
  refine wpAny_bind (wpAny_specialOf (typeIs_ba ha) F.ba_buffer ?_)
  refine wpAny_bind (wpAny_ownRelease_ba (typeIs_ba ha) ?_)
  simp only [Bool.false_eq_true, if_false]
  exact wpAny_bind (wpAny_payload_ba ha (wpAny_pure h))
theorem wpAny_buffer_b {M : Model} {E : Value → Shared → Prop} {id : String} {full : Bool} {b : Array UInt8} {t : Tok} {Q : Option (Array UInt8) → Shared → Prop} (h : Q (some b) s) : wpAny M A (Builtin.Bytes.buffer? id (.bytes b t) full) Q E s := by
  unfold Builtin.Bytes.buffer?
  refine wpAny_bind (wpAny_specialOf (typeIs_bytes s b t) F.b_buffer ?_)
  dsimp only
  refine wpAny_bind (wpAny_slotIsOwn_b (typeIs_bytes s b t) ?_)
  simp only [Bool.not_true, Bool.false_eq_true, if_false]
  refine wpAny_bind (wpAny_specialOf (typeIs_bytes s b t) F.b_buffer ?_)
  refine wpAny_bind (wpAny_ownRelease_b (typeIs_bytes s b t) ?_)
  simp only [Bool.false_eq_true, if_false]
  exact wpAny_bind (wpAny_pure (wpAny_pure h))

theorem bm_new_ba {prog : Program} {w : World} {E : Value → Shared → Prop} {l : List UInt8} {Q : Value → Shared → Prop} (ha : s.heap.get? a = some (baObj l)) (hz : l.length ≤ sizeLine)
    (hQ : ∀ t k, Q (.bytes l.toArray t) { s with toks := k }) :
    codeAny (model prog w) A (.call (.builtin "bytes.__new__") ⟨[.type "bytes", .ref a], []⟩) (wants Q E) s := by
  refine codeAny_of_tree ?_
  show wpAny _ A.in1 (do checkBuiltinCall "bytes.__new__" ⟨[.type "bytes", .ref a], []⟩; again (.builtin "bytes.__new__" ⟨[.type "bytes", .ref a], []⟩)) _ _ s
  refine wpAny_bind (wpAny_of_eq (PySem.F.bm_newCall _) (wpAny_pure ⟨plainId_quiet PySem.F.bm_plain _, codeAny_builtin PySem.F.bm_entry ?_⟩))
  rw [Around.under_plainId PySem.F.bm_plain _]
  have hT := typeIs_ba ha
  unfold Builtin.«bytes.__new__»
  refine wpAny_bind (wpAny_of_eq (a := true) rfl ?_)
  refine bm_if_false rfl ?_
  refine wpAny_bind (wpAny_of_eq PySem.F.bm_sub ?_)
  refine bm_if_false rfl ?_
  refine wpAny_bind (wpAny_of_eq (PySem.F.bm_bind _) ?_)
  refine wpAny_bind (wpAny_of_eq (a := ()) rfl ?_)
  refine wpAny_bind (wpAny_of_eq (a := ()) rfl ?_)
  refine bm_if_false rfl ?_
  refine wpAny_bind (wpAny_specialOf hT F.ba_no_bytes ?_)
  refine wpAny_bind (wpAny_bind ?_)
  show wpAny _ _ (load a >>= _) _ _ _
  refine wpAny_bind (wpAny_load ha ?_)
  refine wpAny_pure (wpAny_pure ?_)
  refine bm_if_false rfl ?_
  refine wpAny_bind (wpAny_specialOf hT F.ba_no_index ?_)
  refine bm_if_true rfl ?_
  first
    | refine wpAny_bind (wpAny_buffer_ba ha ?_)
    | refine wpAny_bind (wpAny_bind (wpAny_buffer_ba ha ?_))
  refine wpAny_bind (wpAny_rule ?_)
  refine wpAny_bind (wpAny_mkBytes ?_ (by simpa using hz))
  show wpAny _ _ (if (Value.type "bytes" == Value.type "bytes") = true then _ else _) _ _ _
  refine bm_if_true (by decide) ?_
  exact wpAny_pure (hQ _ _)
theorem call_bytes_ba {prog : Program} {w : World} {E : Value → Shared → Prop} {l : List UInt8} {Q : Value → Shared → Prop} (ha : s.heap.get? a = some (baObj l)) (hz : l.length ≤ sizeLine)
    (hQ : ∀ t k, Q (.bytes l.toArray t) { s with toks := k }) : wpAny (model prog w) A (call (.type "bytes") [.ref a]) Q E s := by
  refine callType_codes (Q₁ := fun obj s₁ => s₁.TypeIs obj "bytes" ∧ Q obj s₁) PySem.F.bm_called (PySem.F.bm_typeCall _) PySem.F.entry_object_init
    (bm_new_ba ha hz fun t k => ⟨PySem.W.typeIs_bytes _ _ _, hQ t k⟩) fun obj s₁ h₁ => ?_
  exact ⟨h₁.1, PySem.F.args_object_init_2 obj _, object_init_meets PySem.F.bm_called.init.lookup PySem.F.bm_called.made (by decide) prog w A.in1 _ s₁ ⟨h₁.1, rfl, h₁.2⟩⟩

/-- bytes(x) of an owned bytearray -/
theorem Ev.bytesOf {x y : Str} {p p' : Pos} {l : List UInt8} (hf : Ev Γ k sc σ (μ₁ ++ (a, .barr l) :: μ₂) (.Name x p) (.obj (.type "bytes"))) (hy : σ.lookup y = some (.ref a)) (hz : l.length < 2 ^ 20)
    (hl : isVar (sc.names.lookup y) = true := by decide +kernel) (hk : sc.kind = .function := by kernel_rfl) (hd : (y == ("__debug__" : Str)) = false := by decide +kernel) (hcd : (y == ("__classdict__" : Str)) = false := by decide +kernel) :
    Ev Γ k sc σ (μ₁ ++ (a, .barr l) :: μ₂) (.Call (.Name x p) [.Name y p'] [] pos) (.bytes l) := by
  intro A n F s Q E hn hA st hQ
  refine wpR_CallName (hf A n F s _ _ hn hA st fun fv s₁ g₁ hfv => ?_)
  rw [V_obj] at hfv; subst hfv
  refine wpR_callWith (P := fun h => Kp Γ.B h) (starEach_plain_any _ rfl) KeepOk.type ?_
  refine wpR_evalArgs rfl (Es.cons (Ev.name (k := k) hy hl hk hd hcd) Es.nil (fun _ => rfl) A n F s₁ _ _ hn hA (st.grow g₁) fun vals s₂ g₂ hvs => ?_)
  have st₂ := (st.grow g₁).grow g₂
  refine ⟨st₂.base, ?_⟩
  rw [Vs_cons] at hvs
  obtain ⟨v, r, rfl, hv, hr⟩ := hvs
  rw [Vs_nil] at hr; subst hr
  rw [V_ref] at hv; subst hv
  show wpR _ _ (PySem.call (.type "bytes") [.ref a] []) Q E s₂
  exact toR (call_bytes_ba (st₂.own a (.barr l) (by simp)) (by rw [sizeLine_eq]; omega) fun t tk => hQ _ _ ((g₁.trans g₂).trans (Gr.toks tk)) (V.bytes _ _))
theorem Op2.itemB {l : List UInt8} {i : Int} (h0 : 0 ≤ i) (h1 : i < l.length) (hz : l.length < 2 ^ 20) : Op2 Γ getItem (.bytes l) (.int i) (.int (l.getD i.toNat 0).toNat) := by
  intro A n D s x y Q E _ _ _ _ hv hy _ hQ
  obtain ⟨t, rfl⟩ := V_bytes.mp hv
  obtain ⟨u, rfl⟩ := V_int.mp hy
  exact getItem_bytes (by omega) h0 h1 (hQ _ _ (Gr.toks _) (V.int _ _))
theorem Truth.int {i : Int} : Truth Γ (.int i) (i != 0) := by
  intro A n D s x Q E _ _ _ hx hQ
  obtain ⟨t, rfl⟩ := V_int.mp hx
  exact PyProof.Rows.truthy_int (hQ s (Gr.refl s))
end
end Mine

set_option maxRecDepth 100000
namespace Mine

section
variable {Γ : Cx} {k : Nat} {sc : Scope} {σ : Loc} {μ : Own} {pos : Pos}

/-! ### slices -/
def cutL {α : Type} (l : List α) (lo hi : Option Int) : List α := (l.drop (lo.elim 0 (clipAt l.length))).take (hi.elim l.length (clipAt l.length) - lo.elim 0 (clipAt l.length))
/-! ### equality of bytes, and membership -/
end
end Mine

set_option maxRecDepth 100000
namespace Mine

/-! ## list comprehensions -/

def inSc (sc cs : Scope) : Scope := { cs with names := cs.names.map fun (n, k) => if k == .free && sc.kind == .function && sc.names.lookup n == some .cell then (n, .cell) else (n, k) }

def closL (cells : List (Str × Addr)) : List (Str × NameKind) → List (Str × Addr) → List (Str × Addr)
  | [], acc => acc
  | (n, k) :: r, acc => closL cells r (if k == .free then (n, (cells.lookup n).getD 0) :: acc else acc)

theorem closureFor_eq {scope : Scope} {env : Env} (h : ∀ x ∈ scope.names, x.2 = .free → (env.cells.lookup x.1).isSome) : closureFor scope env = pure (closL env.cells scope.names []) := by
  have key : ∀ (l : List (Str × NameKind)) (acc : List (Str × Addr)), (∀ x ∈ l, x.2 = .free → (env.cells.lookup x.1).isSome) →
      (forIn l acc fun x r => if (x.2 == .free) = true then do let c ← cellOf env x.1; pure (ForInStep.yield ((x.1, c) :: r)) else pure (ForInStep.yield r) : Sem (List (Str × Addr))) = pure (closL env.cells l acc) := by
    intro l
    induction l with
    | nil => intro acc _; rfl
    | cons x l ih =>
      intro acc hx
      obtain ⟨n, k⟩ := x
      rw [List.forIn_cons]
      have ih' := fun acc => ih acc fun x hm => hx x (List.mem_cons_of_mem _ hm)
      by_cases hk : k = .free
      · subst hk
        obtain ⟨c, hc⟩ := Option.isSome_iff_exists.mp (hx (n, .free) List.mem_cons_self rfl)
        have : cellOf env n = pure c := by unfold cellOf; rw [hc]
        simp only [beq_self_eq_true, if_true, this]
        simp only [closL, beq_self_eq_true, if_true, hc, Option.getD_some]
        exact ih' _
      · have hb : (k == NameKind.free) = false := by simpa using hk
        simp only [hb, Bool.false_eq_true, if_false, closL]
        exact ih' _
  have := key scope.names [] h
  unfold closureFor
  simp only [bind_pure]
  exact this

theorem closL_has (cells : List (Str × Addr)) : ∀ (l : List (Str × NameKind)) (acc : List (Str × Addr)) (n : Str), ((n, NameKind.free) ∈ l ∨ acc.lookup n = some ((cells.lookup n).getD 0)) → (closL cells l acc).lookup n = some ((cells.lookup n).getD 0)
  | [], acc, n, h => by
    rcases h with h | h
    · cases h
    · exact h
  | (m, k) :: r, acc, n, h => by
    rw [closL]
    refine closL_has cells r _ n ?_
    by_cases hk : k = .free
    · subst hk
      simp only [beq_self_eq_true, if_true]
      by_cases hm : n = m
      · subst hm; right; rw [List.lookup_cons]; simp
      · have : (n == m) = false := beq_eq_false_iff_ne.mpr hm
        rw [List.lookup_cons, this]
        rcases h with h | h
        · rcases List.mem_cons.mp h with h | h
          · cases h; exact absurd rfl hm
          · exact .inl h
        · exact .inr h
    · have hb : (k == NameKind.free) = false := by simpa using hk
      simp only [hb, Bool.false_eq_true, if_false]
      rcases h with h | h
      · rcases List.mem_cons.mp h with h | h
        · cases h; exact absurd rfl hk
        · exact .inl h
      · exact .inr h
theorem closL_only (cells : List (Str × Addr)) : ∀ (l : List (Str × NameKind)) (acc : List (Str × Addr)) (n : Str) (c : Addr), (closL cells l acc).lookup n = some c → ((n, NameKind.free) ∈ l ∧ c = (cells.lookup n).getD 0) ∨ acc.lookup n = some c
  | [], acc, n, c, h => .inr h
  | (m, k) :: r, acc, n, c, h => by
    rw [closL] at h
    rcases closL_only cells r _ n c h with h' | h'
    · exact .inl ⟨List.mem_cons_of_mem _ h'.1, h'.2⟩
    · by_cases hk : k = .free
      · subst hk
        simp only [beq_self_eq_true, if_true] at h'
        rw [List.lookup_cons] at h'
        cases hm : (n == m) with
        | true =>
          rw [hm] at h'; simp at h'
          have hm' := beq_iff_eq.mp hm
          subst hm'
          exact .inl ⟨List.mem_cons_self, h'.symm⟩
        | false => rw [hm] at h'; exact .inr h'
      · have hb : (k == NameKind.free) = false := by simpa using hk
        simp only [hb, Bool.false_eq_true, if_false] at h'
        exact .inr h'

theorem lookup_mapk (g : Str → NameKind → NameKind) (n : Str) : ∀ l : List (Str × NameKind), (l.map fun p => (p.1, g p.1 p.2)).lookup n = (l.lookup n).map (g n)
  | [] => rfl
  | (m, k) :: l => by
    rw [List.map_cons, List.lookup_cons, List.lookup_cons]
    cases h : (n == m) with
    | true => have hm := beq_iff_eq.mp h; subst hm; rfl
    | false => exact lookup_mapk g n l
theorem lookup_inSc (sc cs : Scope) (n : Str) : (inSc sc cs).names.lookup n = (cs.names.lookup n).map fun k => if k == .free && sc.kind == .function && sc.names.lookup n == some .cell then .cell else k := by
  rw [← lookup_mapk (fun n k => if k == .free && sc.kind == .function && sc.names.lookup n == some .cell then .cell else k)]
  show (List.map _ cs.names).lookup n = _
  congr 2
  funext p
  obtain ⟨m, k⟩ := p
  dsimp only
  split <;> rfl

section
variable {M : Model} {A : Around} {E : Value → Shared → Prop} {s : Shared} {env : Env}
theorem wpR_standIf {α : Type} {c : Prop} [Decidable c] {pos : Pos} {k : PUnit → Sem α} {Q : α → Shared → Prop} (h : wpR M A (k ()) Q E s) :
    wpR M A (if c then (standAt pos >>= k) else k ()) Q E s := by
  split
  · exact wpR_bind (wpR_standAt h)
  · exact h

/-- what is asked at a comprehension's end -/
def compEnd (M : Model) (A : Around) (E : Value → Shared → Prop) (Q : Value → Shared → Prop) (L : Addr) (acc : Value) : Option (Value → Sem Unit) → Shared → Prop
  | none, s' => ∃ m, s'.heap.Ns L m ∧ ∀ h', Heap.SameBut L s'.heap h' → Q acc { s' with heap := h' }
  | some u, s' => wpR M A (u acc) (fun _ s'' => ∃ m, s''.heap.Ns L m ∧ ∀ h', Heap.SameBut L s''.heap h' → Q .none { s'' with heap := h' }) E s'

theorem wpR_comprehension {e : Expr} {cs : Scope} {pos : Pos} {newAcc first : Sem Value} {g : Comprehension} {gs : List Comprehension} {use : Option (Value → Sem Unit)} {Q : Value → Shared → Prop}
    (hcl : clausesOf e = g :: gs) (hs : ∀ x, foldedSetIterable g.iter env x = pure x) (hkind : cs.kind = .function) (hfree : ∀ x ∈ cs.names, x.2 = .free → (env.cells.lookup x.1).isSome)
    (hnames : ∀ x ∈ cs.names, x.2 = .local → cs.names.lookup x.1 = some .local)
    (h : wpR M A first (fun x s₁ => wpR M A (pyIter x) (fun it s₂ => wpR M A newAcc (fun acc s₃ =>
      wpR M A (newFunctionEnv cs env.globals (closL env.cells cs.names []) [] env.qual none .none (some env)) (fun cenv s₄ =>
        codeR M A (.compStart e 0 it acc { cenv with scope := inSc env.scope cs }) (fun r s' => match r with | .ok _ => compEnd M A E Q cenv.locals acc use s' | .error x => False) s₄) E s₃) E s₂) E s₁) E s) :
    wpR M A (comprehension e cs env pos newAcc false first use) Q E s := by
  unfold comprehension
  rw [closureFor_eq hfree, hcl]
  refine wpR_bind (wpR_mono h (fun x s₁ h₁ => wpR_bind (wpR_standAt (wpR_bind (toR (wpAny_of_eq (hs x) (wpR_bind (wpR_holding (wpR_mono h₁ (fun it s₂ h₂ =>
    wpR_standIf (wpR_bind (wpR_mono h₂ (fun acc s₃ h₃ => wpR_bind (wpR_pure (wpR_bind (wpR_mono h₃ (fun cenv s₄ h₄ => ?_) fun _ _ h' => h')))) fun _ _ h' => h')))
      fun _ _ h' => h')))))))) fun _ _ h' => h')
  dsimp only
  have hv : ∀ x : Str × NameKind, x ∈ (cs.names.filter fun x => (x.2 == .local || x.2 == .cell) && x.1 != (".0" : Str)) → x.2 = .local →
      Env.kindOf { cenv with scope := inSc env.scope cs } x.1 = some .local := fun x hx hl => by
    show (inSc env.scope cs).names.lookup x.1 = some .local
    rw [lookup_inSc, hnames x (List.mem_filter.mp hx).1 hl]; rfl
  refine wpR_holding (wpR_bind (wpR_attempt (wpR_holding (wpR_run (codeR_mono h₄ fun r s' hr => ?_)))))
  cases r with
  | error x => exact hr.elim
  | ok f =>
    cases use with
    | none =>
      obtain ⟨m, hn, hr⟩ := hr
      exact wpR_bind (wpR_holding (toR (wpAny_comp_letGo (cenv := { cenv with scope := inSc env.scope cs }) hkind _ s' m (fun x hx => hv x (List.mem_reverse.mp hx)) hn fun h' m' _ hs' => wpR_pure (hr h' hs'))))
    | some u =>
      refine wpR_bind (wpR_rule (wpR_bind (wpR_holding (wpR_mono hr (fun _ s'' hr' => ?_) fun _ _ h' => h'))))
      obtain ⟨m, hn, hr'⟩ := hr'
      refine wpR_bind (toR (wpAny_comp_letGo (cenv := { cenv with scope := inSc env.scope cs }) hkind _ s'' m (fun x hx => ?_) hn fun h' m' _ hs' => wpR_pure (hr' h' hs')))
      refine hv x (List.mem_reverse.mp ?_)
      rcases List.mem_append.mp hx with hx | hx
      · exact List.mem_of_mem_drop hx
      · exact List.mem_of_mem_take hx
end

section
variable {prog : Program} {w : World} {A : Around} {R : Result → Shared → Prop} {s : Shared} {env : Env}
theorem wpR_notedAt {α : Type} {M : Model} {m : Sem α} {pos : Pos} {Q : α → Shared → Prop} {E : Value → Shared → Prop} (h : wpR M A m Q (noted M A env E) s) :
    wpR M A (m.onRaise fun x => do noteFrame x env; standAt pos) Q E s :=
  wpR_onRaise (wpR_mono h (fun _ _ q => q) fun _ _ hx => wpR_bind (wpR_mono hx (fun _ _ e => wpR_standAt e) fun _ _ e => e))
theorem codeR_compStart {elt target iter : Expr} {ifs : List Expr} {rest : List Comprehension} {scope : Scope} {pos : Pos} {it acc : Value}
    (h0 : codeR (model prog w) A (.compLoop (.ListComp elt (⟨target, iter, ifs, 0⟩ :: rest) scope pos) 0 it acc env) R s)
    (h : wpR (model prog w) A (pyIter it) (fun it' s' => codeR (model prog w) A (.compLoop (.ListComp elt (⟨target, iter, ifs, 0⟩ :: rest) scope pos) 0 it' acc env) R s')
      (noted (model prog w) A env fun x s' => R (.error x) s') s) :
    codeR (model prog w) A (.compStart (.ListComp elt (⟨target, iter, ifs, 0⟩ :: rest) scope pos) 0 it acc env) R s := by
  refine codeR_of_tree rfl ?_
  show wpR _ _ ((compStart (.ListComp elt (⟨target, iter, ifs, 0⟩ :: rest) scope pos) 0 it acc env).onRaise (fun x => do noteFrame x env; standAt theWindowsPlace)) _ _ s
  refine wpR_notedAt ?_
  unfold compStart
  show wpR _ _ (ask >>= _) _ _ s
  refine wpR_bind (toR (wpAny_askSetting ?_))
  split
  · exact wpR_pure (And.intro rfl h0)
  · refine wpR_bind (wpR_rule ?_)
    show wpR _ _ (standAt iter.pos >>= _) _ _ s
    exact wpR_bind (wpR_standAt (wpR_bind (wpR_mono h (fun it' s' h' => wpR_pure (And.intro rfl h')) fun _ _ x => x)))

def compIfs (ifs : List Expr) (env : Env) : Sem Bool :=
  forIn ifs true fun c r => if r = true then do let ok ← isTrue c env (eval c env); pure (ForInStep.yield ok) else pure (ForInStep.yield r)
theorem codeR_compLoop1 {elt target iter : Expr} {ifs : List Expr} {scope : Scope} {pos : Pos} {it acc : Value}
    (h : wpR (model prog w) A (pyNext it) (fun r s₁ => match r with
      | none => R (.ok .next) s₁
      | some v => wpR (model prog w) A (letOwnedTupleGo target it v) (fun _ s₁' => wpR (model prog w) A (assign target env v) (fun _ s₂ => wpR (model prog w) A (compIfs ifs env) (fun ok s₃ =>
            if ok = true then wpR (model prog w) A (eval elt env) (fun x s₄ =>
              wpR (model prog w) A (call (.builtin "list.append") [acc, x]) (fun _ s₅ => codeR (model prog w) A (.compLoop (.ListComp elt [⟨target, iter, ifs, 0⟩] scope pos) 0 it acc env) R s₅) (noted (model prog w) A env fun e s' => R (.error e) s') s₄) (noted (model prog w) A env fun e s' => R (.error e) s') s₃
            else codeR (model prog w) A (.compLoop (.ListComp elt [⟨target, iter, ifs, 0⟩] scope pos) 0 it acc env) R s₃) (noted (model prog w) A env fun e s' => R (.error e) s') s₂)
              (noted (model prog w) A env fun e s' => R (.error e) s') s₁') (noted (model prog w) A env fun e s' => R (.error e) s') s₁) (noted (model prog w) A env fun e s' => R (.error e) s') s) :
    codeR (model prog w) A (.compLoop (.ListComp elt [⟨target, iter, ifs, 0⟩] scope pos) 0 it acc env) R s := by
  refine codeR_of_tree rfl ?_
  show wpR _ A ((compTurn (.ListComp elt [⟨target, iter, ifs, 0⟩] scope pos) 0 it acc env).onRaise (fun x => do noteFrame x env; theTreesLotGoes x)) _ _ s
  refine wpR_noted ?_
  rw [compTurn_list]
  refine wpR_bind (wpR_standAt (wpR_bind (wpR_mono h (fun r s₁ h₁ => ?_) fun _ _ h' => h')))
  cases r with
  | none => exact wpR_pure h₁
  | some v =>
    refine wpR_bind (wpR_mono h₁ (fun _ s₁' h₁' => ?_) fun _ _ h' => h')
    refine wpR_bind (wpR_mono h₁' (fun _ s₂ h₂ => wpR_bind (wpR_mono h₂ (fun ok s₃ h₃ => ?_) fun _ _ h' => h')) fun _ _ h' => h')
    cases ok with
    | false => exact wpR_pure ⟨rfl, h₃⟩
    | true =>
      exact wpR_bind (wpR_bind (wpR_mono h₃ (fun x s₄ h₄ => wpR_bind (wpR_mono h₄ (fun _ s₅ h₅ => wpR_pure (wpR_pure ⟨rfl, h₅⟩)) fun _ _ h' => h')) fun _ _ h' => h'))
end

section
variable {Γ : Cx} {k : Nat} {sc cs : Scope} {σ σf : Loc} {μ : Own} {pos : Pos}

/-- the tests of a comprehension -/
def CIf (Γ : Cx) (k : Nat) (sc : Scope) (σ : Loc) (μ : Own) : List Expr → Bool → Prop
  | [], b => b = true
  | [c], b => Tr Γ k sc σ μ c b
  | _, _ => False
/-- a turn of a comprehension: an item gives a value, or none -/
def Turn (Γ : Cx) (k : Nat) (sc cs : Scope) (σf : Loc) (target : Expr) (ifs : List Expr) (elt : Expr) (x : PV) (r : Option PV) : Prop :=
  ∃ σ₁ b, (∀ μ, As Γ k sc σf μ target x σ₁ cs) ∧ (∀ y v, σf.lookup y = some v → σ₁.lookup y = some v) ∧ (∀ μ, CIf Γ k sc σ₁ μ ifs b) ∧
    (b = true → ∃ v, r = some v ∧ ∀ μ, Ev Γ k sc σ₁ μ elt v) ∧ (b = false → r = none)
theorem Turn.all {target elt : Expr} {x v : PV} {σ₁ : Loc} (ha : ∀ μ, As Γ k sc σf μ target x σ₁ cs) (hs : Sub σ₁ σf) (he : ∀ μ, Ev Γ k sc σ₁ μ elt v) : Turn Γ k sc cs σf target [] elt x (some v) :=
  ⟨σ₁, true, ha, hs.to, fun _ => rfl, fun _ => ⟨v, rfl, he⟩, fun h => nomatch h⟩
theorem Turn.if {target elt c : Expr} {x v : PV} {σ₁ : Loc} {b : Bool} (ha : ∀ μ, As Γ k sc σf μ target x σ₁ cs) (hs : Sub σ₁ σf) (hc : ∀ μ, Tr Γ k sc σ₁ μ c b) (he : b = true → ∀ μ, Ev Γ k sc σ₁ μ elt v) :
    Turn Γ k sc cs σf target [c] elt x (if b then some v else none) :=
  ⟨σ₁, b, ha, hs.to, hc, fun h => ⟨v, by rw [h]; rfl, he h⟩, fun h => by rw [h]; rfl⟩

theorem CIf.run {A : Around} {n : Nat} {F : Fm} {s : Shared} {ifs : List Expr} {b : Bool} {Q : Bool → Shared → Prop} {E : Value → Shared → Prop} (h : CIf Γ k sc σ μ ifs b) (hn : n + k ≤ 8) (hA : Lv n A) (st : St Γ sc F σ μ s)
    (hQ : ∀ s', Gr s s' → Q b s') : wpR Γ.M A (compIfs ifs (F.env sc)) Q E s := by
  match ifs, h with
  | [], h => subst h; exact wpR_pure (hQ s (Gr.refl s))
  | [c], h =>
    unfold compIfs
    simp only [List.forIn_cons, List.forIn_nil, if_true]
    have h' : Tr Γ k sc σ μ c b := h
    exact wpR_bind (wpR_bind (h' A n F s _ E hn hA st fun s' g => wpR_pure (wpR_pure (hQ s' g))))
  | _ :: _ :: _, h => exact h.elim

/-- the loop of a comprehension -/
theorem comp_loop {elt target iter : Expr} {ifs : List Expr} {A : Around} {n : Nat} {F : Fm} {h₁ : Heap} {acc it : Addr} {wr : List Addr} {J : (Addr → Prop) → List PV → Heap → Prop} {R : Result → Shared → Prop} {s₀ : Shared}
    {nd : Bool} (hn : n + k ≤ 8) (hA : Lv n A) (hI : Iter Γ A it wr J nd) (hnd : nd = true → isTupE target = true) (hw : ∀ b ∈ wr, h₁.get? b = none) : ∀ {xs : List PV} {rs : List (Option PV)}, Paired (Turn Γ k sc cs σf target ifs elt) xs rs → ∀ (ys : List PV) (σ' : Loc) (s : Shared), ys.length + xs.length < 2 ^ 20 →
      Sx Γ h₁ sc F σ' [(acc, .list ys)] s cs → (∀ y v, σf.lookup y = some v → σ'.lookup y = some v) → J (Dm F [(acc, .list ys)]) xs s.heap → s.gens = s₀.gens → s.os = s₀.os →
      (∀ σ'' s', Sx Γ h₁ sc F σ'' [(acc, .list (ys ++ rs.filterMap id))] s' cs → s'.gens = s₀.gens → s'.os = s₀.os → R (.ok .next) s') →
      codeR Γ.M A (.compLoop (.ListComp elt [⟨target, iter, ifs, 0⟩] cs pos) 0 (.ref it) (.ref acc) (F.env sc)) R s := by
  intro xs rs hp
  induction hp with
  | nil =>
    intro ys σ' s hz X hσ hJ hg ho hR
    refine codeR_compLoop1 (toR (wpAny_mono (hI.done _ s (fun s₁ => R (.ok .next) s₁) _ hJ fun h' tk hk => ?_) (fun r s₁ hr => ?_) fun _ _ e => e))
    · exact hR σ' _ (by simpa using X.wr (tk := tk) hk (hI.wrs _ _ _ hJ) hw) hg ho
    · obtain ⟨rfl, hr⟩ := hr; exact hr
  | @cons x r xs rs ht _ ih =>
    intro ys σ' s hz X hσ hJ hg ho hR
    obtain ⟨σ₁, b, hAs, hsub, hif, hyes, hno⟩ := ht
    have hz' : ys.length + (xs.length + 1) < 2 ^ 20 := hz
    refine codeR_compLoop1 (toR (wpAny_mono (hI.item _ x xs s target (fun v s₁ => wpR Γ.M A (assign target (F.env sc) v) (fun _ s₂ => wpR Γ.M A (compIfs ifs (F.env sc)) (fun ok s₃ =>
            if ok = true then wpR Γ.M A (eval elt (F.env sc)) (fun x s₄ =>
              wpR Γ.M A (PySem.call (.builtin "list.append") [.ref acc, x]) (fun _ s₅ => codeR Γ.M A (.compLoop (.ListComp elt [⟨target, iter, ifs, 0⟩] cs pos) 0 (.ref it) (.ref acc) (F.env sc)) R s₅) (noted Γ.M A (F.env sc) fun e s' => R (.error e) s') s₄) (noted Γ.M A (F.env sc) fun e s' => R (.error e) s') s₃
            else codeR Γ.M A (.compLoop (.ListComp elt [⟨target, iter, ifs, 0⟩] cs pos) 0 (.ref it) (.ref acc) (F.env sc)) R s₃) (noted Γ.M A (F.env sc) fun e s' => R (.error e) s') s₂)
              (noted Γ.M A (F.env sc) fun e s' => R (.error e) s') s₁) _ hJ X.toSt.dom hnd fun v h' tk hv hJ' hk => ?_) (fun r s₁ hr => ?_) fun _ _ e => e))
    · have X' := (X.wr (tk := tk) hk (hI.wrs _ _ _ hJ) hw).less hσ
      refine toR (hAs _ A n F h₁ _ v _ _ hn hA X' hv fun s₂ X₂ sp₂ => ?_)
      refine CIf.run (hif _) hn hA X₂.toSt fun s₃ g₃ => ?_
      have X₃ := X₂.grow g₃
      have sp₃ := sp₂.trans (Sp.gr (F := F) (μ := [(acc, .list ys)]) g₃)
      cases b with
      | false =>
        have := hno rfl
        subst this
        simp only [Bool.false_eq_true, if_false]
        refine ih ys σ₁ s₃ (by omega) X₃ hsub (hI.move _ _ _ _ _ (X'.hk X₃ sp₃) (fun b o hb d => sp₃.dom b (by rw [hb]; rfl) d) hJ') (sp₃.gens.trans hg) (sp₃.os.trans ho) fun σ'' s' Y => hR σ'' s' (by simpa using Y)
      | true =>
        obtain ⟨v', rfl, hev⟩ := hyes rfl
        simp only [if_true]
        refine hev _ A n F s₃ _ _ hn hA X₃.toSt fun val s₄ g₄ hval => ?_
        have X₄ := X₃.grow g₄
        refine MethOk.list_append (Γ := Γ) (xs := ys) (v := v') (by omega) A n _ s₄ acc [val] _ _ (by omega) hA X.ok X₄.base (X₄.own acc (.list ys) (by simp)) (.inr (by simp)) (Vs_cons.mpr ⟨val, [], rfl, hval, Vs_nil.mpr rfl⟩) X₄.toSt.dom fun h5 tk5 hs5 ho5 => ?_
        obtain ⟨X₅, sp₅⟩ := Sx.upd (μ₁ := []) (μ₂ := []) (o' := .list (ys ++ [v'])) (tk := tk5) X₄ hs5 ho5
        have sp₆ := (sp₃.trans (Sp.gr (F := F) (μ := [(acc, .list ys)]) g₄)).trans sp₅
        have hk6 : ∀ b o, h'.get? b = some o → DataOk o.data → (¬ Dm F [(acc, .list ys)] b ∨ o.cls = .type "tuple" ∨ o.cls = .type "range") → h5.get? b = some o := X'.hk X₅ sp₆
        refine ih (ys ++ [v']) σ₁ _ (by simp; omega) X₅ hsub (hI.move _ _ _ _ _ hk6 (fun b o hb d => sp₆.dom b (by rw [hb]; rfl) d) hJ') (sp₆.gens.trans hg) (sp₆.os.trans ho) fun σ'' s' Y => hR σ'' s' (by simpa using Y)
    · cases r with
      | none => exact hr.elim
      | some v => exact toR (wpAny_mono hr (fun _ _ e => e) fun _ _ e => e)

def isCF : Option NameKind → Bool
  | some .cell | some .free => true
  | _ => false
def freeOk (sc cs : Scope) (σ : Loc) : Bool := cs.names.all fun x => x.2 != .free || ((σ.lookup x.1).isSome && isCF (sc.names.lookup x.1))
def freeIn (cs : Scope) (σf : Loc) : Bool := σf.all fun p => cs.names.lookup p.1 == some .free
def cleanSc (cs : Scope) : Bool := (cs.kind == .function) && cs.names.all fun x => x.2 != .cell && (x.2 != .local || cs.names.lookup x.1 == some .local)

theorem freeOk.at {F : Fm} {s : Shared} (h : freeOk sc cs σ = true) (st : St Γ sc F σ μ s) : ∀ n, (n, NameKind.free) ∈ cs.names → ∃ v c val, σ.lookup n = some v ∧ F.cl.lookup n = some c ∧ s.heap.IsCell c (some val) ∧ V (Dm F μ) s.heap v val := by
  intro n hn
  have := List.all_eq_true.mp h _ hn
  simp only [bne_self_eq_false, Bool.false_or, Bool.and_eq_true] at this
  obtain ⟨h1, h2⟩ := this
  obtain ⟨v, hv⟩ := Option.isSome_iff_exists.mp h1
  have : sc.names.lookup n = some .cell ∨ sc.names.lookup n = some .free := by
    unfold isCF at h2
    split at h2
    · left; assumption
    · right; assumption
    · cases h2
  obtain ⟨c, val, e1, e2, e3⟩ := st.cel n v hv this
  exact ⟨v, c, val, hv, e1, e2, e3⟩

/-- what stands when the loop of a comprehension begins -/
theorem comp_start {F : Fm} {s s₃ : Shared} {acc : Addr} {h' : Heap} {tk : Nat} (st : St Γ sc F σ μ s) (g : Gr s s₃) (hfo : freeOk sc cs σ = true) (hfi : freeIn cs σf = true) (hcl : cleanSc cs = true) (hsub : Sub σ σf)
    (hacc0 : s.heap.get? acc = none) (hacc : s₃.heap.get? acc = some { cls := .type "list", data := .seq #[] })
    (hns : h'.Ns s₃.heap.objs.size (fun x => ([] : List (Str × Value)).reverse.lookup x)) (hsb : Heap.SameBut s₃.heap.objs.size (s₃.heap.push { cls := .type "dict", data := .dict #[] }) h') :
    Sx Γ s.heap (inSc sc cs) ⟨s₃.heap.objs.size, closL F.cl cs.names [], F.q, none, F.cd, F.fr, Dm F μ⟩ σf [(acc, .list [])] { s₃ with heap := h', toks := tk } cs := by
  have hkeep3 : Kp s₃.heap h' := fun b o e => (hsb.2 b (Nat.ne_of_lt (Heap.lt_size e))).trans (Heap.get?_push_of_some _ e)
  have hkeep : Kp s.heap h' := g.keep.trans hkeep3
  have hnc : ∀ x ∈ cs.names, x.2 ≠ .cell := fun x hx q => by
    have := List.all_eq_true.mp (Bool.and_eq_true _ _ |>.mp hcl).2 x hx
    rw [q] at this; simp at this
  have hlookFree : ∀ x v, σf.lookup x = some v → cs.names.lookup x = some .free := by
    intro x v hx
    obtain ⟨p, hp, hpx⟩ := List.lookup_isSome_iff.mp (show (σf.lookup x).isSome from by rw [hx]; rfl)
    have h1 := beq_iff_eq.mp (List.all_eq_true.mp hfi p hp)
    rw [beq_iff_eq.mp hpx]; exact h1
  have hmemFree : ∀ x v, σf.lookup x = some v → (x, NameKind.free) ∈ cs.names := by
    intro x v hx
    obtain ⟨l₁, l₂, he, _⟩ := List.lookup_eq_some_iff.mp (hlookFree x v hx)
    rw [he]; simp
  refine ⟨⟨st.ok, st.base.trans hkeep, ⟨_, hns, fun x v h1 h2 => ?_⟩, fun x v h1 h2 => ?_, fun b o hm => ?_, fun b hb => hkeep.alive b (st.dom b hb)⟩, hkeep, st.base, ?_, fun x hx => ?_, fun x c hx => ?_, fun x y c hx => ?_, fun b hb => ?_, fun b hb => st.dom b hb, ?_⟩
  · exfalso
    rw [lookup_inSc, hlookFree x v h1] at h2
    simp only [Option.map_some, Option.some.injEq] at h2
    split at h2 <;> cases h2
  · have hm := hmemFree x v h1
    obtain ⟨v', c, val, e1, e2, e3, e4⟩ := hfo |> fun h => freeOk.at h st x hm
    have hv' : v' = v := by have := hsub.to x v h1; rw [e1] at this; cases this; rfl
    subst hv'
    refine ⟨c, val, ?_, e3.keeps hkeep, ?_⟩
    · have := closL_has F.cl cs.names [] x (.inl hm); rw [e2] at this; exact this
    · refine e4.move (fun b o hb _ => hkeep b o hb) fun b o hb d => ?_
      rcases d with d | d
      · exact d
      · simp at d; subst d; rw [hacc0] at hb; cases hb
  · simp only [List.mem_singleton] at hm
    cases hm
    exact ⟨#[], _, hkeep3 _ _ hacc, by simp [Vs_nil]⟩
  · cases q : s.heap.get? s₃.heap.objs.size with
    | none => rfl
    | some o => have := g.keep _ _ q; rw [fresh_addr] at this; cases this
  · exfalso
    obtain ⟨l₁, l₂, he, _⟩ := List.lookup_eq_some_iff.mp hx
    exact hnc (x, .cell) (by rw [he]; simp) rfl
  · rcases closL_only F.cl cs.names [] x c hx with ⟨hm, hc⟩ | hc
    · obtain ⟨v', c', val, e1, e2, e3, e4⟩ := freeOk.at hfo st x hm
      rw [e2] at hc
      simp only [Option.getD_some] at hc
      subst hc
      exact ⟨_, e3.keeps hkeep⟩
    · cases hc
  · exfalso
    obtain ⟨l₁, l₂, he, _⟩ := List.lookup_eq_some_iff.mp hx
    exact hnc (x, .cell) (by rw [he]; simp) rfl
  · simp at hb; subst hb; exact hacc0
  · simp

theorem cleanSc.ok (h : cleanSc cs = true) : cs.kind = .function ∧ (∀ x ∈ cs.names, x.2 ≠ .cell) ∧ ∀ x ∈ cs.names, x.2 = .local → cs.names.lookup x.1 = some .local := by
  obtain ⟨h1, h2⟩ := (Bool.and_eq_true _ _).mp h
  refine ⟨beq_iff_eq.mp h1, fun x hx q => ?_, fun x hx q => ?_⟩
  · have := List.all_eq_true.mp h2 x hx
    rw [q] at this; simp at this
  · have := List.all_eq_true.mp h2 x hx
    rw [q] at this
    simpa using this

/-- a comprehension runs: what it leaves when its loop is over -/
theorem comp_run {elt target iter : Expr} {ifs : List Expr} {cpos : Pos} {nd : Bool} {xs : List PV} {rs : List (Option PV)} {use : Option (Value → Sem Unit)} {A : Around} {n : Nat} {F : Fm} {s : Shared} {Q : Value → Shared → Prop} {E : Value → Shared → Prop}
    (hit : EvI Γ k sc σ μ iter xs nd) (hnd : nd = true → isTupE target = true) (ht : Paired (Turn Γ k (inSc sc cs) cs σf target ifs elt) xs rs) (hz : xs.length < 2 ^ 20) (hsub : Sub σ σf)
    (hfo : freeOk sc cs σ = true) (hfi : freeIn cs σf = true) (hcl : cleanSc cs = true) (hs : ∀ env x, foldedSetIterable iter env x = pure x)
    (hn : n + k ≤ 8) (hA : Lv n A) (st : St Γ sc F σ μ s)
    (hQ : ∀ acc L s' m, Gr s s' → s.heap.get? acc = none → s.heap.get? L = none → L ≠ acc → POat (Dm F ((acc, .list (rs.filterMap id)) :: μ)) s'.heap acc (.list (rs.filterMap id)) → s'.heap.Ns L m → compEnd Γ.M A E Q L (.ref acc) use s') :
    wpR Γ.M A (comprehension (.ListComp elt [⟨target, iter, ifs, 0⟩] cs pos) cs (F.env sc) cpos (newList []) false (eval iter (F.env sc)) use) Q E s := by
  obtain ⟨c1, c2, c3⟩ := cleanSc.ok hcl
  refine wpR_comprehension rfl (hs _) c1 (fun x hx hxf => ?_) c3 (hit A n F s _ E hn hA st fun it wr J s₂ hI hJ g₂ hw => ?_)
  · obtain ⟨x1, x2⟩ := x
    simp only at hxf; subst hxf
    obtain ⟨v', c, val, e1, e2, e3, e4⟩ := freeOk.at hfo st x1 hx
    show (F.cl.lookup x1).isSome = true
    rw [e2]; rfl
  refine toR (wpAny_newObj_type ?_ (Nat.zero_le _))
  have g₃ : Gr s { s₂ with heap := s₂.heap.push { cls := .type "list", data := .seq #[] } } := g₂.trans (Gr.heap _ (Kp.push _ _))
  have hacc0 : s.heap.get? s₂.heap.objs.size = none := by
    cases q : s.heap.get? s₂.heap.objs.size with
    | none => rfl
    | some o => have := g₂.keep _ _ q; rw [fresh_addr] at this; cases this
  refine toR (wpAny_newFunctionEnv c2 (fun x hx => nomatch hx) (fun h' hns hsb => ?_) c1)
  have X := comp_start (tk := s₂.toks + 0) (s₃ := { s₂ with heap := s₂.heap.push { cls := .type "list", data := .seq #[] } }) st g₃ hfo hfi hcl hsub hacc0 (Heap.get?_push_size _ rfl) hns hsb
  have hkeep3 : Kp (s₂.heap.push { cls := .type "list", data := .seq #[] }) h' := fun b o e => (hsb.2 b (Nat.ne_of_lt (Heap.lt_size e))).trans (Heap.get?_push_of_some _ e)
  have hLacc : (s₂.heap.push { cls := .type "list", data := .seq #[] }).objs.size ≠ s₂.heap.objs.size := by rw [Heap.size_push]; exact Nat.succ_ne_self _
  have hJ' : J (Dm (⟨(s₂.heap.push { cls := .type "list", data := .seq #[] }).objs.size, closL F.cl cs.names [], F.q, none, F.cd, F.fr, Dm F μ⟩ : Fm) [(s₂.heap.objs.size, .list [])]) xs h' :=
    hI.move _ _ _ _ _ (fun b o hb _ _ => hkeep3 b o (Kp.push _ _ b o hb)) (fun b o hb d => by
      rcases d with d | d
      · exact d
      · simp at d; subst d; rw [fresh_addr] at hb; cases hb) hJ
  have fin : ∀ σ'' s', Sx Γ s.heap (inSc sc cs) (⟨(s₂.heap.push { cls := .type "list", data := .seq #[] }).objs.size, closL F.cl cs.names [], F.q, none, F.cd, F.fr, Dm F μ⟩ : Fm) σ'' [(s₂.heap.objs.size, .list ([] ++ rs.filterMap id))] s' cs → s'.gens = s.gens → s'.os = s.os →
      compEnd Γ.M A E Q (s₂.heap.push { cls := .type "list", data := .seq #[] }).objs.size (.ref s₂.heap.objs.size) use s' := by
    intro σ'' s' Y hg ho
    obtain ⟨m, hm, _⟩ := Y.ns
    refine hQ _ _ s' m ⟨Y.keep, hg, ho⟩ hacc0 Y.newL hLacc ?_ hm
    have := Y.own s₂.heap.objs.size (.list ([] ++ rs.filterMap id)) (by simp)
    obtain ⟨items, nn, e1, e2⟩ := this
    refine ⟨items, nn, e1, e2.less fun b _ _ d => ?_⟩
    rcases d with d | d
    · exact .inl (.inl d)
    · rw [List.map_cons, List.mem_cons] at d
      rcases d with d | d
      · exact .inr (by simp at d; simp [d])
      · exact .inl (.inr d)
  have hgen : s₂.gens = s.gens := g₂.gens
  have hos : s₂.os = s.os := g₂.os
  have loop : ∀ s4 : Shared, s4 = { s₂ with heap := h', toks := s₂.toks + 0 } → codeR Γ.M A (.compLoop (.ListComp elt [⟨target, iter, ifs, 0⟩] cs pos) 0 (.ref it) (.ref s₂.heap.objs.size)
      (Fm.env (⟨(s₂.heap.push { cls := .type "list", data := .seq #[] }).objs.size, closL F.cl cs.names [], F.q, none, F.cd, F.fr, Dm F μ⟩ : Fm) (inSc sc cs)))
      (fun r s' => match r with | .ok _ => compEnd Γ.M A E Q (s₂.heap.push { cls := .type "list", data := .seq #[] }).objs.size (.ref s₂.heap.objs.size) use s' | .error x => False) s4 := by
    intro s4 e4
    subst e4
    exact comp_loop (s₀ := s) (h₁ := s.heap) hn hA hI hnd hw ht [] σf _ (by simpa using hz) X (fun _ _ e => e) hJ' hgen hos fun σ'' s' Y hg ho => fin σ'' s' Y hg ho
  refine codeR_compStart (loop _ rfl) (toR (hI.self _ _ _ _ _ hJ' (loop _ rfl)))

theorem EvN.compI {elt target iter : Expr} {ifs : List Expr} {nd : Bool} {xs : List PV} {rs : List (Option PV)}
    (hit : EvI Γ k sc σ μ iter xs nd) (ht : Paired (Turn Γ k (inSc sc cs) cs σf target ifs elt) xs rs) (hz : xs.length < 2 ^ 20) (hsub : Sub σ σf)
    (hnd : nd = true → isTupE target = true := by first | exact (fun h => nomatch h) | exact (fun _ => rfl))
    (hfo : freeOk sc cs σ = true := by kernel_rfl) (hfi : freeIn cs σf = true := by kernel_rfl) (hcl : cleanSc cs = true := by kernel_rfl) (hs : ∀ env x, foldedSetIterable iter env x = pure x := by intro _ _; kernel_rfl) :
    EvN Γ k sc σ μ (.ListComp elt [⟨target, iter, ifs, 0⟩] cs pos) (.list (rs.filterMap id)) := by
  intro A n F s Q E hn hA st hQ
  rw [eval_ListComp]
  refine comp_run hit hnd ht hz hsub hfo hfi hcl hs hn hA st fun acc L s' m g ha hL hne ho hm => ⟨m, hm, fun h' hs' => ?_⟩
  obtain ⟨oL, es, ep, hoL, hdL, _⟩ := id hm
  refine hQ acc _ ⟨fun b o e => (hs'.2 b (fun q => by rw [q, hL] at e; cases e)).trans (g.keep b o e), g.gens, g.os⟩ ha (ho.same hs' hoL (by rw [hdL]; exact id) (by rw [hdL]; intro _ _ q; cases q))
theorem EvN.comp {elt target iter : Expr} {ifs : List Expr} {p : PV} {xs : List PV} {rs : List (Option PV)}
    (hit : Ev Γ k sc σ μ iter p) (hi : IterOk Γ p xs) (ht : Paired (Turn Γ k (inSc sc cs) cs σf target ifs elt) xs rs) (hz : xs.length < 2 ^ 20) (hsub : Sub σ σf)
    (hfo : freeOk sc cs σ = true := by kernel_rfl) (hfi : freeIn cs σf = true := by kernel_rfl) (hcl : cleanSc cs = true := by kernel_rfl) (hs : ∀ env x, foldedSetIterable iter env x = pure x := by intro _ _; kernel_rfl) :
    EvN Γ k sc σ μ (.ListComp elt [⟨target, iter, ifs, 0⟩] cs pos) (.list (rs.filterMap id)) :=
  EvN.compI (EvI.of hit hi) ht hz hsub (fun h => nomatch h) hfo hfi hcl hs
theorem EvN.ev {e : Expr} {ys : List PV} (h : EvN Γ k sc σ μ e (.list ys)) : Ev Γ k sc σ μ e (.lst ys) := by
  intro A n F s Q E hn hA st hQ
  refine h A n F s Q E hn hA st fun a s' g ha ho => hQ _ s' g ?_
  obtain ⟨items, m, e1, e2⟩ := ho
  refine V_lst.mpr ⟨a, items, rfl, (fun d => by have := st.dom a d; rw [ha] at this; cases this), ⟨_, e1, rfl, m, rfl⟩, e2.less fun b _ _ d => ?_⟩
  rcases d with d | d
  · exact .inl d
  · exact .inr (by simp [d])

/-- an object that nobody knows is changed -/
theorem Sx.junk {F : Fm} {h₀ h' : Heap} {s : Shared} {L : Addr} {o : Obj} {tk : Nat} (X : Sx Γ h₀ sc F σ μ s) (hL : s.heap.get? L = some o) (hd : ¬ DataOk o.data) (hb : ∀ l n, o.data ≠ .bytearray l n) (hc : ∀ v, o.data ≠ .cell v) (hne : L ≠ F.L) (hnew : h₀.get? L = none)
    (hs : Heap.SameBut L s.heap h') : Sx Γ h₀ sc F σ μ { s with heap := h', toks := tk } := by
  have hold : ∀ b o, h₀.get? b = some o → h'.get? b = some o := fun b o e => (hs.2 b (fun q => by rw [q, hnew] at e; cases e)).trans (X.keep b o e)
  have hcell : ∀ c v, s.heap.IsCell c v → h'.IsCell c v := fun c v ⟨oc, hoc, hdc⟩ => ⟨oc, (hs.2 c (fun q => by subst q; rw [hL] at hoc; cases hoc; exact hc _ hdc)).trans hoc, hdc⟩
  obtain ⟨m, hm, hmv⟩ := X.ns
  have hm' : h'.Ns F.L m := by
    obtain ⟨oL, es, ep, hoL, hdL, r⟩ := hm
    exact ⟨oL, es, ep, (hs.2 _ (Ne.symm hne)).trans hoL, hdL, r⟩
  exact ⟨⟨X.ok, fun b o e => hold b o (X.baseh b o e), ⟨m, hm', fun x v a b => let ⟨val, e1, e2⟩ := hmv x v a b; ⟨val, e1, e2.same hs hL hd⟩⟩, fun x v a b => let ⟨c, val, e1, e2, e3⟩ := X.cel x v a b; ⟨c, val, e1, hcell _ _ e2, e3.same hs hL hd⟩,
    fun a o' hm => (X.own a o' hm).same hs hL hd hb, fun b hb => by
      obtain ⟨o', ho'⟩ := Option.isSome_iff_exists.mp (X.dold b hb)
      show (h'.get? b).isSome
      rw [hold b o' ho']; rfl⟩,
    hold, X.baseh, X.newL, fun x e => let ⟨c, v, a1, a2, a3⟩ := X.cells x e; ⟨c, v, a1, a2, hcell _ _ a3⟩, fun x c e => let ⟨v, a3⟩ := X.cellsAll x c e; ⟨v, hcell _ _ a3⟩, X.cellsApart, X.ownNew, X.dold, X.apart⟩

variable {P : Fl → Loc → Own → Prop}
/-- x = [.. for ..] where the stores change places -/
theorem X1.ownCompI {x : Str} {p' cp : Pos} {elt target iter : Expr} {ifs : List Expr} {nd : Bool} {xs : List PV} {rs : List (Option PV)}
    (hit : EvI Γ k sc σ μ iter xs nd) (ht : Paired (Turn Γ k (inSc sc cs) cs σf target ifs elt) xs rs) (hz : xs.length < 2 ^ 20) (hsub : Sub σ σf)
    (h : ∀ a, a ∉ μ.map (·.1) → P .next ((x, .ref a) :: σ) ((a, .list (rs.filterMap id)) :: μ))
    (hnd : nd = true → isTupE target = true := by first | exact (fun h => nomatch h) | exact (fun _ => rfl))
    (hfo : freeOk sc cs σ = true := by kernel_rfl) (hfi : freeIn cs σf = true := by kernel_rfl) (hcl : cleanSc cs = true := by kernel_rfl) (hs : ∀ env x, foldedSetIterable iter env x = pure x := by intro _ _; kernel_rfl)
    (hl : isPlace (sc.names.lookup x) = true := by decide +kernel) (hk : sc.kind = .function := by kernel_rfl)
    (hsw : ∀ F : Fm, swapsWith (.ListComp elt [⟨target, iter, ifs, 0⟩] cs cp) (some (.Name x p')) pos.line (F.env sc) = pure true := by intro _; kernel_rfl) :
    X1 Γ k sc σ μ (.Assign [.Name x p'] (.ListComp elt [⟨target, iter, ifs, 0⟩] cs cp) pos) P := by
  intro A n F h₀ s Q E hn hA X hQ
  have e : exec (.Assign [.Name x p'] (.ListComp elt [⟨target, iter, ifs, 0⟩] cs cp) pos) (F.env sc) = (do
      standAt pos
      if ← swapsWith (.ListComp elt [⟨target, iter, ifs, 0⟩] cs cp) (some (.Name x p')) pos.line (F.env sc) then
        evalThenUse (.ListComp elt [⟨target, iter, ifs, 0⟩] cs cp) (F.env sc) (PySem.assign (.Name x p') (F.env sc))
        return .next
      let v ← eval (.ListComp elt [⟨target, iter, ifs, 0⟩] cs cp) (F.env sc)
      standAt p'
      bindName (F.env sc) x v
      pure .next) := rfl
  rw [e, hsw]
  refine wpR_bind (wpR_standAt (wpR_bind (wpR_pure ?_)))
  simp only [if_true]
  refine wpR_bind ?_
  rw [arm_evalThenUse_ListComp]
  refine wpR_bind (comp_run (pos := cp) hit hnd ht hz hsub hfo hfi hcl hs hn hA X.toSt fun acc L s' m g ha hL hne ho hm => ?_)
  obtain ⟨X₁, sp₁⟩ := X.own' g ha ho
  have hnot : acc ∉ μ.map (·.1) := fun d => by have := X.toSt.dom acc (.inr d); rw [ha] at this; cases this
  obtain ⟨oL, es, ep, hoL, hdL, hrest⟩ := id hm
  have hLD : ¬ Dm F ((acc, .list (rs.filterMap id)) :: μ) L := by
    rintro (d | d)
    · have := X.toSt.dom L (.inl d); rw [hL] at this; cases this
    · rw [List.map_cons, List.mem_cons] at d
      rcases d with d | d
      · exact hne d
      · have := X.toSt.dom L (.inr d); rw [hL] at this; cases this
  have hLL : L ≠ F.L := fun q => by
    obtain ⟨m', ⟨o', _, _, ho', _⟩, _⟩ := X.ns
    rw [q, ho'] at hL; cases hL
  have hLc : ∀ y, F.cl.lookup y ≠ some L := fun y q => by
    obtain ⟨v, o', ho', _⟩ := X.cellsAll y L q
    rw [ho'] at hL; cases hL
  have hL0 : h₀.get? L = none := by
    cases q : h₀.get? L with
    | none => rfl
    | some o' => have := X.keep _ _ q; rw [hL] at this; cases this
  refine toR (wpAny_assign_Name (X₁.store (V_ref.mpr rfl) hl hk fun s₂ X₂ sp₂ _ => ?_))
  have hoL2 := sp₂.keep L oL hoL hLL hLc hLD
  refine ⟨m, ⟨oL, es, ep, hoL2, hdL, hrest⟩, fun h' hs' => ?_⟩
  have X₃ := X₂.junk (tk := s₂.toks) hoL2 (by rw [hdL]; exact id) (by rw [hdL]; intro _ _ q; cases q) (by rw [hdL]; intro _ q; cases q) hLL hL0 hs'
  have sp := sp₁.trans sp₂
  have hbL : ∀ b, (s.heap.get? b).isSome → b ≠ L := fun b hb q => by rw [q, hL] at hb; cases hb
  refine wpR_pure (wpR_pure (hQ .next _ _ _ _ (h acc hnot) X₃ ⟨fun b o' e h1 h2 h3 => (hs'.2 b (hbL b (by rw [e]; rfl))).trans (sp.keep b o' e h1 h2 h3), fun b e => ?_, sp.dom, sp.gens, sp.os⟩ rfl))
  show (h'.get? b).isSome
  rw [hs'.2 b (hbL b e)]
  exact sp.alive b e
theorem X1.ownComp {x : Str} {p' cp : Pos} {elt target iter : Expr} {ifs : List Expr} {p : PV} {xs : List PV} {rs : List (Option PV)}
    (hit : Ev Γ k sc σ μ iter p) (hi : IterOk Γ p xs) (ht : Paired (Turn Γ k (inSc sc cs) cs σf target ifs elt) xs rs) (hz : xs.length < 2 ^ 20) (hsub : Sub σ σf)
    (h : ∀ a, a ∉ μ.map (·.1) → P .next ((x, .ref a) :: σ) ((a, .list (rs.filterMap id)) :: μ))
    (hfo : freeOk sc cs σ = true := by kernel_rfl) (hfi : freeIn cs σf = true := by kernel_rfl) (hcl : cleanSc cs = true := by kernel_rfl) (hs : ∀ env x, foldedSetIterable iter env x = pure x := by intro _ _; kernel_rfl)
    (hl : isPlace (sc.names.lookup x) = true := by decide +kernel) (hk : sc.kind = .function := by kernel_rfl)
    (hsw : ∀ F : Fm, swapsWith (.ListComp elt [⟨target, iter, ifs, 0⟩] cs cp) (some (.Name x p')) pos.line (F.env sc) = pure true := by intro _; kernel_rfl) :
    X1 Γ k sc σ μ (.Assign [.Name x p'] (.ListComp elt [⟨target, iter, ifs, 0⟩] cs cp) pos) P :=
  X1.ownCompI (EvI.of hit hi) ht hz hsub h (fun h => nomatch h) hfo hfi hcl hs hl hk hsw
end
end Mine

set_option maxRecDepth 100000
namespace Mine

section
variable {Γ : Cx} {k : Nat} {sc : Scope} {σ : Loc} {μ : Own} {pos : Pos}

/-! ### bytes as items -/
/-! ### slices of lists -/
theorem slicePick_cut (items : Array Value) (lo hi : Option Int) : slicePick items lo hi none = (cutL items.toList lo hi).toArray := by
  unfold slicePick cutL
  rw [sliceBounds_plain]
  simp only [sliceRange_one, pick_run]
  simp
theorem Vs.cut {D : Addr → Prop} {h : Heap} {xs : List PV} {vs : List Value} {lo hi : Option Int} (e : Vs D h xs vs) : Vs D h (cutL xs lo hi) (cutL vs lo hi) := by
  unfold cutL
  rw [e.length]
  exact (e.drop _).take _
theorem SliceOk.lst {xs : List PV} {lo hi : Option Int} (hz : xs.length < 2 ^ 20) : SliceOk Γ (.lst xs) lo hi none (.lst (cutL xs lo hi)) := by
  intro A n D s x sl vl vu vs Q E _ _ hv hD hs pl pu ps hQ
  obtain ⟨a, items, rfl, _, hl, he⟩ := V_lst.mp hv
  have hlen : items.size = xs.length := by simpa using he.length
  refine wpAny_getItem_list_slice (hsz := by rw [sizeLine_eq]; omega) hl hs pl pu ps (fun q => nomatch q) ?_
  cases ps
  rw [slicePick_cut]
  exact hQ _ _ (Gr.heap _ (Kp.push _ _)) (V.newList hD he.cut)

/-! ### bytes of a list of ints -/
end
end Mine

set_option maxRecDepth 100000
namespace Mine

/-! ## calls of defs whose names are held in cells -/
theorem cellsFrom_has : ∀ (names : List (Str × NameKind)) (n : Nat) (acc : List (Str × Addr)) (x : Str), ((x, NameKind.cell) ∈ names ∨ (acc.lookup x).isSome) → ((cellsFrom n names acc).lookup x).isSome
  | [], n, acc, x, h => by
    rcases h with h | h
    · cases h
    · exact h
  | (m, k) :: r, n, acc, x, h => by
    unfold cellsFrom
    split
    · rename_i hk
      refine cellsFrom_has r (n + 1) _ x ?_
      rcases h with h | h
      · rcases List.mem_cons.mp h with h | h
        · cases h; right; rw [List.lookup_cons]; simp
        · exact .inl h
      · right
        rw [List.lookup_cons]
        split
        · rfl
        · exact h
    · rename_i hk
      refine cellsFrom_has r n _ x ?_
      rcases h with h | h
      · rcases List.mem_cons.mp h with h | h
        · cases h; exact absurd rfl hk
        · exact .inl h
      · exact .inr h

theorem bindL_other (K : Str → Option NameKind) : ∀ (binds : List (Str × Value)) (m : Str → Option Value) (x : Str), x ∉ binds.map (·.1) → bindL K binds m x = m x
  | [], m, x, _ => rfl
  | (n, v) :: r, m, x, h => by
    rw [List.map_cons, List.mem_cons, not_or] at h
    rw [bindL, bindL_other K r _ x h.2]
    split
    · show (if x = n then some v else m x) = m x
      rw [if_neg h.1]
    · rfl
theorem bindC_other (K : Str → Option NameKind) : ∀ (binds : List (Str × Value)) (m : Str → Option Value) (x : Str), x ∉ binds.map (·.1) → bindC K binds m x = m x
  | [], m, x, _ => rfl
  | (n, v) :: r, m, x, h => by
    rw [List.map_cons, List.mem_cons, not_or] at h
    rw [bindC, bindC_other K r _ x h.2]
    split
    · rfl
    · show (if x = n then some v else m x) = m x
      rw [if_neg h.1]
theorem bindL_at (K : Str → Option NameKind) : ∀ (binds : List (Str × Value)) (m : Str → Option Value) (x : Str) (v : Value), (binds.map (·.1)).Nodup → K x = some .local → binds.lookup x = some v → bindL K binds m x = some v
  | [], m, x, v, _, _, h => nomatch h
  | (n, w) :: r, m, x, v, hn, hk, h => by
    rw [List.map_cons, List.nodup_cons] at hn
    rw [List.lookup_cons] at h
    cases hx : (x == n) with
    | true =>
      rw [hx] at h; cases h
      have := beq_iff_eq.mp hx; subst this
      rw [bindL, bindL_other K r _ x hn.1, if_pos hk]
      show (if x = x then some w else m x) = some w
      rw [if_pos rfl]
    | false => rw [hx] at h; rw [bindL]; exact bindL_at K r _ x v hn.2 hk h
theorem bindC_at (K : Str → Option NameKind) : ∀ (binds : List (Str × Value)) (m : Str → Option Value) (x : Str) (v : Value), (binds.map (·.1)).Nodup → K x ≠ some .local → binds.lookup x = some v → bindC K binds m x = some v
  | [], m, x, v, _, _, h => nomatch h
  | (n, w) :: r, m, x, v, hn, hk, h => by
    rw [List.map_cons, List.nodup_cons] at hn
    rw [List.lookup_cons] at h
    cases hx : (x == n) with
    | true =>
      rw [hx] at h; cases h
      have := beq_iff_eq.mp hx; subst this
      rw [bindC, bindC_other K r _ x hn.1, if_neg hk]
      show (if x = x then some w else m x) = some w
      rw [if_pos rfl]
    | false => rw [hx] at h; rw [bindC]; exact bindC_at K r _ x v hn.2 hk h
theorem zip_keys (ns : List Str) (vs : List Value) : ((ns.zip vs).map (·.1)).Sublist ns := by
  induction ns generalizing vs with
  | nil => simp
  | cons n ns ih =>
    cases vs with
    | nil => simp
    | cons v vs => simpa using ih vs
theorem lookup_zip_V' {D : Addr → Prop} {h : Heap} {x : Str} {v : PV} : ∀ (names : List Str) (args : List PV) (vals : List Value), Vs D h args vals → (names.zip args).lookup x = some v → ∃ val, (names.zip vals).lookup x = some val ∧ V D h v val := by
  intro names
  induction names with
  | nil => intro args vals _ hl; simp at hl
  | cons y ys ih =>
    intro args vals hvs hl
    cases args with
    | nil => simp at hl
    | cons a as =>
      rw [Vs_cons] at hvs
      obtain ⟨w, r, rfl, h1, h2⟩ := hvs
      rw [List.zip_cons_cons, List.lookup_cons] at hl ⊢
      cases hxy : (x == y) with
      | true => rw [hxy] at hl; simp at hl; subst hl; exact ⟨w, rfl, h1⟩
      | false => rw [hxy] at hl; exact ih as r h2 hl

section
variable {Γ : Cx} {k : Nat}
/-- a call of a def of the text, its names local or in cells -/
theorem CallOk.fnC {a : Addr} {o : Obj} {name : Str} {params : Arguments} {body : List Stmt} {scope : Scope} {pm cd doc : Value} {args : List PV} {r : PV}
    (ho : Γ.B.get? a = some o) (hd : o.data = .func (docDef name params body scope pm cd doc)) (hcd : Γ.B.CodeRec cd name)
    (hbind : ∀ vals : List Value, vals.length = args.length → bindArgs (docDef name params body scope pm cd doc) ⟨vals, []⟩ = pure ((params.args.map (·.arg)).zip vals))
    (hbody : Xs Γ k scope ((params.args.map (·.arg)).zip args) [] body (fun fl _ μ' => fl = .ret r))
    (hnd : (params.args.map (·.arg)).Nodup := by decide +kernel)
    (hloc : (params.args.map (·.arg)).all (fun x => isPlace (scope.names.lookup x)) = true := by decide +kernel)
    (hco : scope.isCoroutine = false := by kernel_rfl) (hgen : scope.isGenerator = false := by kernel_rfl) (hk : scope.kind = .function := by kernel_rfl) : CallOk Γ (k + 1) (.ref a) args r := by
  intro A n D s vals Q E hn hA ok hB hvs hD hQ
  have hlen := hvs.length
  have hmem : ∀ x kd, scope.names.lookup x = some kd → (x, kd) ∈ scope.names := fun x kd h => mem_of_lookup h
  refine wpR_call (codeR_call_function (by have := hA.depth; show _ < 1000; omega) (hB a o ho) hd hco hgen rfl (hcd.keeps hB) ?_)
  rw [hbind vals hlen]
  refine wpR_pure (toR (wpAny_newFunctionEnv_cells hk (fun x hx => ?_) fun env henv s' C => ⟨(ok.nolimit.keeps hB).keeps C.toInCall.keep, ?_⟩))
  · have h1 := (List.of_mem_zip hx).1
    have h2 := List.all_eq_true.mp hloc x.1 h1
    cases hq : scope.names.lookup x.1 with
    | none => rw [hq] at h2; cases h2
    | some kd =>
      rw [hq] at h2
      cases kd with
      | «local» => exact .inl hq
      | cell => exact .inr ⟨hq, cellsFrom_has _ _ _ _ (.inl (hmem _ _ hq))⟩
      | _ => cases h2
  · let F : Fm := ⟨s.heap.objs.size, cellsFrom (s.heap.objs.size + 1) scope.names [], name ++ ".<locals>.", some a, cd, some s.heap.objs.size, D⟩
    have eenv : env = F.env scope := henv
    subst eenv
    have hkeep : Kp s.heap s'.heap := C.toInCall.keep
    have habove : ∀ x c, (cellsFrom (s.heap.objs.size + 1) scope.names []).lookup x = some c → s.heap.get? c = none := fun x c hc => by
      have := C.above x c (mem_of_lookup hc)
      cases q : s.heap.get? c with
      | none => rfl
      | some o' => exact absurd (Heap.lt_size q) (Nat.lt_asymm this)
    have hkeys : (((params.args.map (·.arg)).zip vals).map (·.1)).Nodup := hnd.sublist (zip_keys _ _)
    have hvs' : Vs (Dm F []) s'.heap args vals := (hvs.grow hkeep).less fun b o _ hb => by
      rcases hb with hb | hb
      · exact hb
      · simp at hb
    have X : Sx Γ s.heap scope F ((params.args.map (·.arg)).zip args) [] s' := by
      refine ⟨⟨ok, hB.trans hkeep, ⟨_, C.toInCall.ns, fun x v h1 h2 => ?_⟩, fun x v h1 h2 => ?_, fun _ _ hm => (nomatch hm), fun b hb => hkeep.alive b (hD b hb)⟩,
        hkeep, hB, fresh_addr _, fun x hx => ?_, fun x c h1 => ⟨_, C.cell x c h1⟩, fun x y c _ h1 h2 => name_of_addr C.apart (mem_of_lookup h2) (mem_of_lookup h1), fun b hb => (nomatch hb), hD, List.nodup_nil⟩
      · obtain ⟨val, e1, e2⟩ := lookup_zip_V' _ _ _ hvs' h1
        exact ⟨val, bindL_at _ _ _ x val hkeys h2 e1, e2⟩
      · obtain ⟨val, e1, e2⟩ := lookup_zip_V' _ _ _ hvs' h1
        have hnl : scope.names.lookup x ≠ some .local := by rcases h2 with h2 | h2 <;> (rw [h2]; decide)
        have hx : x ∈ (params.args.map (·.arg)) := by
          have := (zip_keys (params.args.map (·.arg)) vals).subset (List.mem_map.mpr ⟨(x, val), mem_of_lookup e1, rfl⟩)
          exact this
        have hp := List.all_eq_true.mp hloc x hx
        have hcell : scope.names.lookup x = some .cell := by
          rcases h2 with h2 | h2
          · exact h2
          · rw [h2] at hp; cases hp
        obtain ⟨c, hc⟩ := Option.isSome_iff_exists.mp (cellsFrom_has scope.names (s.heap.objs.size + 1) [] x (.inl (hmem _ _ hcell)))
        refine ⟨c, val, hc, ?_, e2⟩
        have := C.cell x c hc
        rw [bindC_at _ _ _ x val hkeys hnl e1] at this
        exact this
      · obtain ⟨c, hc⟩ := Option.isSome_iff_exists.mp (cellsFrom_has scope.names (s.heap.objs.size + 1) [] x (.inl (hmem _ _ hx)))
        exact ⟨c, _, hc, habove x c hc, C.cell x c hc⟩
    refine codeR_func (hbody (A.deeper (F.env scope)) (n + 1) F s.heap _ _ _ (by omega) hA.deeper X fun fl σ' μ' f s'' hP X' sp hf => ?_)
    subst hP
    obtain ⟨val, rfl, hv⟩ := hf
    obtain ⟨h2, tk2, e2⟩ := C.toInCall.same
    refine hQ val s'' ⟨X'.keep, sp.gens.trans (by rw [e2]), sp.os.trans (by rw [e2])⟩ (hv.less fun b o _ hb => .inl hb)

theorem DefAt.callC {a : Addr} {name : Str} {params : Arguments} {body : List Stmt} {scope : Scope} {args : List PV} {r : PV} (h : DefAt Γ a name (params, body, scope))
    (hbody : Xs Γ k scope ((params.args.map (·.arg)).zip args) [] body (fun fl _ μ' => fl = .ret r))
    (hbind : ∀ (pm cd doc : Value) (vals : List Value), vals.length = args.length → bindArgs (docDef name params body scope pm cd doc) ⟨vals, []⟩ = pure ((params.args.map (·.arg)).zip vals))
    (hnd : (params.args.map (·.arg)).Nodup := by decide +kernel)
    (hloc : (params.args.map (·.arg)).all (fun x => isPlace (scope.names.lookup x)) = true := by decide +kernel)
    (hco : scope.isCoroutine = false := by kernel_rfl) (hgen : scope.isGenerator = false := by kernel_rfl) (hk : scope.kind = .function := by kernel_rfl) : CallOk Γ (k + 1) (.ref a) args r := by
  obtain ⟨o, pm, cd, doc, h1, h2, h3⟩ := h.out
  exact CallOk.fnC h1 h2 h3 (hbind pm cd doc) hbody hnd hloc hco hgen hk
end
end Mine

set_option maxRecDepth 100000
namespace Mine

section
variable {Γ : Cx} {k : Nat} {sc cs : Scope} {σ σ₁ σ₂ σ₃ : Loc} {μ : Own} {pos : Pos} {P : Fl → Loc → Own → Prop}

/-! ### targets that are tuples -/
theorem As.grown {target : Expr} {v : PV} (h : As Γ k sc σ μ target v σ₁ cs) {A : Around} {n : Nat} {F : Fm} {h₀ : Heap} {s s' : Shared} {val : Value} {Q : Unit → Shared → Prop} {E : Value → Shared → Prop}
    (hn : n + k ≤ 8) (hA : Lv n A) (X : Sx Γ h₀ sc F σ μ s cs) (hv : V (Dm F μ) s.heap v val) (g : Gr s s') (hQ : ∀ s'', Sx Γ h₀ sc F σ₁ μ s'' cs → Sp F μ μ s s'' → Q () s'') : wpAny Γ.M A (assign target (F.env sc) val) Q E s' :=
  h A n F h₀ s' val Q E hn hA (X.grow g) (hv.grow g.keep) fun s'' X' sp => hQ s'' X' ((Sp.gr g).trans sp)
def plainT : Expr → Bool
  | .Starred _ _ => false
  | _ => true
theorem assignEach1 {t : Expr} {ts : List Expr} {env : Env} (h : plainT t = true) : assignEach (t :: ts) env = (false, assign t env) :: assignEach ts env := by
  cases t <;> first | (cases h; done) | rfl
theorem assignEach2 {t1 t2 : Expr} {env : Env} (h1 : plainT t1 = true) (h2 : plainT t2 = true) : assignEach [t1, t2] env = [(false, assign t1 env), (false, assign t2 env)] := by
  rw [assignEach1 h1, assignEach1 h2]; rfl
theorem As.tuple2 {t1 t2 : Expr} {kd : Nat} {v1 v2 : PV} (h1 : As Γ k sc σ μ t1 v1 σ₁ cs) (h2 : As Γ k sc σ₁ μ t2 v2 σ₂ cs) (p1 : plainT t1 = true := by rfl) (p2 : plainT t2 = true := by rfl) : As Γ k sc σ μ (.Tuple [t1, t2] kd pos) (.tup [v1, v2]) σ₂ cs := by
  intro A n F h₀ s val Q E hn hA X hv hQ
  obtain ⟨a, items, rfl, hT, hvs⟩ := V_tup.mp hv
  rw [Vs_cons] at hvs
  obtain ⟨x1, r1, e1, hx1, hr1⟩ := hvs
  rw [Vs_cons] at hr1
  obtain ⟨x2, r2, e2, hx2, hr2⟩ := hr1
  rw [Vs_nil] at hr2
  subst hr2; subst e2
  have hi : items.size = 2 := by rw [← Array.length_toList, e1]; rfl
  refine wpAny_assign_Tuple hA.handled hT (by rw [assignEach2 p1 p2, hi]; rfl) (by rw [assignEach2 p1 p2]; rfl) fun h' hx => ?_
  rw [assignEach2 p1 p2, e1]
  have g : Gr s { s with heap := h' } := ⟨fun b o e => hx b o (Nat.ne_of_lt (Heap.lt_size e)) e, rfl, rfl⟩
  show wpAny _ _ (holding [x2] (assign t1 (F.env sc) x1) >>= fun _ => holding [] (assign t2 (F.env sc) x2) >>= fun _ => pure ()) _ _ _
  refine wpAny_bind (wpAny_holding (As.grown h1 hn hA X hx1 g fun s₂ X₂ sp₂ => ?_))
  refine wpAny_bind (wpAny_holding (h2 A n F h₀ s₂ x2 _ _ hn hA X₂ (X.step X₂ sp₂ hx2) fun s₃ X₃ sp₃ => wpAny_pure (hQ s₃ X₃ (sp₂.trans sp₃))))

/-! ### bytes -/
/-! ### zip of two lists (its own tuple is written again and again: no tuple may be known meanwhile) -/

end
end Mine

set_option maxRecDepth 100000
namespace Mine

section
variable {Γ : Cx} {k : Nat} {sc cs : Scope} {σ σ₁ σ₂ σ₃ : Loc} {μ μ₁ μ₂ : Own} {pos : Pos} {P : Fl → Loc → Own → Prop}

/-! ### enumerate -/
def enumL : Int → List PV → List PV
  | _, [] => []
  | i, x :: xs => .tup [.int i, x] :: enumL (i + 1) xs
def JEnum (it : Addr) (i1 : Addr) (D : Addr → Prop) (zs : List PV) (h : Heap) : Prop :=
  ∃ l i items xs old, ¬ D it ∧ ¬ D i1 ∧ ¬ D l ∧ it ≠ i1 ∧ l ≠ i1 ∧ l ≠ it ∧ IsEnum h it i1 ((i : Nat) : Int) old ∧ h.IsListIter i1 l i ∧ h.IsList l items ∧ Vs D h xs (items.toList.drop i) ∧ zs = enumL (i : Int) xs
theorem Iter.enum {A : Around} (hh : A.handled = none) (it i1 : Addr) : Iter Γ A it [it, i1] (JEnum it i1) true where
  move := by
    rintro D D' zs h h' hk hD ⟨l, i, items, xs, old, a1, a2, a3, a4, a5, a6, a7, ⟨o1, e1, c1, d1⟩, ⟨o2, e2, c2, m2, d2⟩, a10, a11⟩
    exact ⟨l, i, items, xs, old, fun d => a1 (hD _ _ a7 d), fun d => a2 (hD _ _ e1 d), fun d => a3 (hD _ _ e2 d), a4, a5, a6, hk _ _ a7 trivial (.inl a1), ⟨o1, hk _ _ e1 (by rw [d1]; trivial) (.inl a2), c1, d1⟩, ⟨o2, hk _ _ e2 (by rw [d2]; trivial) (.inl a3), c2, m2, d2⟩, a10.move' hk hD, a11⟩
  wrs := by
    rintro D zs h ⟨l, i, items, xs, old, a1, a2, a3, a4, a5, a6, a7, ⟨o1, e1, c1, d1⟩, a9, a10, a11⟩ b hb
    simp only [List.mem_cons, List.not_mem_nil, or_false] at hb
    rcases hb with rfl | rfl
    · exact ⟨a1, _, _, a7, rfl, by show Value.type "enumerate" ≠ Value.type "range"; decide⟩
    · exact ⟨a2, o1, _, e1, d1, by rw [c1]; decide⟩
  item := by
    rintro D x zs s target Q E ⟨l, i, items, xs, old, a1, a2, a3, a4, a5, a6, a7, a8, a9, a10, a11⟩ hal hnd hQ
    cases xs with
    | nil => cases a11
    | cons y ys =>
      simp only [enumL, List.cons.injEq] at a11
      obtain ⟨rfl, rfl⟩ := a11
      obtain ⟨v, ev, hv, hvs⟩ := dropStep a10
      have ht := hnd rfl
      cases target with
      | Tuple elts kd tp =>
        refine wpAny_pyNext_enum_item a7 a8 a9 ev a4 fun h₁ q1 q2 q3 q4 hk₁ => ?_
        refine wpAny_letOwnedTupleGo_enum q1 fun h₂ r1 hs₂ => ?_
        have hs₂' : Heap.SameBut it h₁ h₂ := hs₂
        have hk : ∀ b o, b ∉ [it, i1] → s.heap.get? b = some o → h₂.get? b = some o := fun b o hb e => (hs₂'.2 b (fun q => hb (by simp [q]))).trans (hk₁ b o (fun q => hb (by simp [q])) (fun q => hb (by simp [q])) e)
        obtain ⟨o1, e1, c1, d1⟩ := id a8
        have hnode : ∀ b o, s.heap.get? b = some o → Node D b o → h₂.get? b = some o := fun b o hb hn => hk b o (fun q => by
          simp only [List.mem_cons, List.not_mem_nil, or_false] at q
          rcases q with rfl | rfl
          · rw [a7] at hb; cases hb
            rcases hn with ⟨_, _, hn, _⟩ | ⟨hn, _⟩
            · cases hn
            · exact absurd hn (by show Value.type "enumerate" ≠ Value.type "range"; decide)
          · rw [e1] at hb; cases hb
            rcases hn with ⟨_, _, hn, _⟩ | ⟨hn, _⟩
            · rw [d1] at hn; cases hn
            · rw [c1] at hn; exact absurd hn (by decide)) hb
        have lt : ∀ {c o}, s.heap.get? c = some o → s.heap.objs.size ≠ c := fun e => Nat.ne_of_gt (Heap.lt_size e)
        refine hQ _ h₂ _ ?_ ⟨l, i + 1, items, ys, v, a1, a2, a3, a4, a5, a6, ?_, ?_, ?_, hvs.move hnode (fun _ _ _ d => d), ?_⟩ hk
        · refine V_tup.mpr ⟨_, #[.int i s.toks, v], rfl, ⟨_, (hs₂'.2 _ (lt a7)).trans q3, rfl, _, rfl⟩, ?_⟩
          show Vs _ _ [.int (i : Int), y] [.int i s.toks, v]
          exact Vs_cons.mpr ⟨_, _, rfl, V.int _ _, Vs_cons.mpr ⟨v, [], rfl, hv.move hnode (fun _ _ _ d => d), Vs_nil.mpr rfl⟩⟩
        · exact r1
        · exact q2.extBut hs₂'.extBut (Ne.symm a4)
        · obtain ⟨o, ho, r⟩ := a9; exact ⟨o, hk _ _ (by simp [a5, a6]) ho, r⟩
        · congr 1
      | _ => cases ht
  done := by
    rintro D s Q E ⟨l, i, items, xs, old, a1, a2, a3, a4, a5, a6, a7, a8, a9, a10, a11⟩ hQ
    cases xs with
    | cons y ys => cases a11
    | nil => exact wpAny_pyNext_enum_end hh a7 a8 a9 (dropEnd a10) fun h' he => ⟨rfl, hQ h' _ fun b o hb e => he b o (fun q => hb (by simp [q])) e⟩
  self := by
    rintro D xs s Q E ⟨l, i, items, xs', old, a1, a2, a3, a4, a5, a6, a7, a8, a9, a10, a11⟩ hQ
    have hT : s.TypeIs (.ref it) "enumerate" := ⟨_, a7, rfl⟩
    refine wpAny_pyIter_slot hT PySem.F.slot_enumerate_iter (wpAny_call_entry PySem.F.slot_enumerate_iter hT PySem.F.entry_enumerate_iter ?_ (PySem.F.args_enumerate_iter_1 _))
    show wpAny _ _ (ret (.ref it)) _ _ s
    exact wpAny_pure ⟨_, rfl, "enumerate", _, hT, PySem.F.slot_enumerate_next.lookup, hQ⟩
theorem EvI.enum {x : Str} {xp cp : Pos} {args : List Expr} {us : List PV} (hf : Ev Γ k sc σ μ (.Name x xp) (.obj (.type "enumerate"))) (ha : Es Γ k sc σ μ cp args [.lst us]) (hp : args.any isStarred = false := by kernel_rfl) :
    EvI Γ k sc σ μ (.Call (.Name x xp) args [] cp) (enumL 0 us) true := by
  intro A n F s Q E hn hA st hQ
  refine wpR_CallName (hf A n F s _ _ hn hA st fun fv s₁ g₁ hfv => ?_)
  rw [V_obj] at hfv; subst hfv
  refine wpR_callWith (P := fun h => Kp Γ.B h) (starEach_plain_any args hp) KeepOk.type ?_
  refine wpR_evalArgs hp (ha A n F s₁ _ _ hn hA (st.grow g₁) fun vals s₂ g₂ hvs => ?_)
  have st₂ := (st.grow g₁).grow g₂
  refine ⟨st₂.base, ?_⟩
  rw [Vs_cons] at hvs
  obtain ⟨v1, r1, rfl, hv1, hr1⟩ := hvs
  rw [Vs_nil] at hr1; subst hr1
  obtain ⟨l, xs, rfl, n1, m1, e1⟩ := V_lst.mp hv1
  show wpR _ _ (PySem.call (.type "enumerate") [.ref l] []) _ E s₂
  refine toR (call_enumerate_list m1 fun h' z1 z2 z3 hk => ?_)
  have lt1 : l < s₂.heap.objs.size := by obtain ⟨o, ho, _⟩ := m1; exact Heap.lt_size ho
  have nD : ∀ j, ¬ Dm F μ (s₂.heap.objs.size + j) := fun j d => by
    obtain ⟨o, ho⟩ := Option.isSome_iff_exists.mp (st₂.dom _ d)
    exact absurd (Heap.lt_size ho) (Nat.not_lt.mpr (Nat.le_add_right _ _))
  have J : JEnum (s₂.heap.objs.size + 1) s₂.heap.objs.size (Dm F μ) (enumL 0 us) h' :=
    ⟨l, 0, xs, us, .none, nD 1, nD 0, n1, Nat.succ_ne_self _, Nat.ne_of_lt lt1, Nat.ne_of_lt (Nat.lt_succ_of_lt lt1), z1, z2, (by obtain ⟨o, ho, r⟩ := m1; exact ⟨o, hk _ _ ho, r⟩), by simpa using e1.grow hk, rfl⟩
  have hT : ({ s₂ with heap := h' } : Shared).TypeIs (.ref (s₂.heap.objs.size + 1)) "enumerate" := ⟨_, z1, rfl⟩
  refine toR ((Iter.enum (Γ := Γ) hA.handled _ _).self _ _ { s₂ with heap := h' } _ _ J (hQ _ _ _ _ (Iter.enum hA.handled _ _) J ((g₁.trans g₂).trans (Gr.heap _ hk)) fun b hb => ?_))
  simp only [List.mem_cons, List.not_mem_nil, or_false] at hb
  cases q : s.heap.get? b with
  | none => rfl
  | some o =>
    have := Heap.lt_size ((g₁.trans g₂).keep _ _ q)
    rcases hb with rfl | rfl
    · exact absurd this (Nat.not_lt.mpr (Nat.le_succ _))
    · exact absurd this (Nat.lt_irrefl _)

/-! ### bytearray.extend of bytes -/
theorem MethOk.ba_extend {l m : List UInt8} (hz : l.length + m.length < 2 ^ 20) : MethOk Γ "bytearray.extend" (.barr l) [.bytes m] (.barr (l ++ m)) := by
  intro A n D s a vals Q E _ hA ok hB ha hDa hv hD hQ
  rw [Vs_cons] at hv
  obtain ⟨v, r, rfl, hv, hr⟩ := hv
  rw [Vs_nil] at hr; subst hr
  obtain ⟨t, rfl⟩ := V_bytes.mp hv
  have ha' : s.heap.get? a = some (baObj l) := ha
  have hTb := typeIs_bytes s m.toArray t
  refine wpR_call (codeR_call_builtin (by kernel_rfl) F.ba_slot_extend.plain F.ba_entry_extend (F.ba_slot_extend.check _ _ _ _ _ _ _ _ (typeIs_ba ha') (F.ba_args_extend _ _) ?_))
  unfold Builtin.«bytearray.extend»
  refine wpR_bind (wpR_pure ?_)
  dsimp only
  refine wpR_bind (toR (wpAny_specialOf hTb F.b_buffer ?_))
  simp only [Option.isSome_some, if_true]
  refine wpR_bind (wpR_rule ?_)
  refine wpR_bind (toR (wpAny_payload_ba ha' ?_))
  refine wpR_bind ?_
  unfold Builtin.Bytes.takeBufferQuiet?
  refine wpR_bind (wpR_attempt ?_)
  unfold Builtin.Bytes.takeBuffer?
  refine wpR_bind (toR (wpAny_specialOf hTb F.b_buffer ?_))
  dsimp only
  refine wpR_bind (toR (wpAny_slotIsOwn_b hTb ?_))
  simp only [Bool.not_true, Bool.false_eq_true, if_false]
  refine wpR_bind (toR (wpAny_specialOf hTb F.b_buffer ?_))
  refine wpR_bind (toR (wpAny_buffer_b ?_))
  refine wpR_pure (wpR_pure ?_)
  show wpR _ _ (if (!m.toArray.isEmpty) = true then (Builtin.Bytes.checkResize (.ref a) >>= fun _ => Builtin.Bytes.write (.ref a) (· ++ m.toArray) >>= fun _ => ret .none) else (Builtin.Bytes.write (.ref a) (· ++ m.toArray) >>= fun _ => ret .none)) _ _ _
  have fin : wpR (model Γ.prog Γ.w) A.in1 (Builtin.Bytes.write (.ref a) (· ++ m.toArray) >>= fun _ => ret .none) (fun fin s' => match fin with | .done f => (match Except.ok f with | Except.ok (.ret v) => Q v s' | Except.ok _ => False | Except.error e => E e s') | .again c' => c'.quiet = true ∧ codeR (model Γ.prog Γ.w) A c' (fun r s' => match r with | .ok (.ret v) => Q v s' | .ok _ => False | .error e => E e s') s') (fun e s' => E e s') s := by
    refine wpR_bind (toR (wpAny_write (l' := l ++ m) ha' (by simp) (by rw [sizeLine_eq]; simp; omega) fun h' hs' ha2 => ?_))
    exact wpR_pure (hQ h' s.toks hs' ha2)
  split
  · exact wpR_bind (wpR_checkResize hA.guards ha' fin)
  · exact fin
end
end Mine

set_option maxRecDepth 100000
namespace Mine

section
variable {Γ : Cx} {k : Nat} {sc cs : Scope} {σ σ₁ σ₂ : Loc} {μ μ₁ μ₂ : Own} {pos : Pos} {P : Fl → Loc → Own → Prop} {a : Addr}

/-! ### lists: +, * -/
theorem Op2.addL {xs ys : List PV} (h : xs.length + ys.length < 2 ^ 20) : Op2 Γ (binaryOp .Add) (.lst xs) (.lst ys) (.lst (xs ++ ys)) := by
  intro A n D s x y Q E _ _ _ _ hx hy hD hQ
  obtain ⟨l, items, rfl, _, ⟨⟨cls, dd, data, sl⟩, ho, hc, m, hd⟩, e1⟩ := V_lst.mp hx
  obtain ⟨l2, items2, rfl, _, ⟨⟨cls2, dd2, data2, sl2⟩, ho2, hc2, m2, hd2⟩, e2⟩ := V_lst.mp hy
  simp only at hc hd hc2 hd2
  subst hc hd hc2 hd2
  have h1 : items.size = xs.length := by simpa using e1.length
  have h2 : items2.size = ys.length := by simpa using e2.length
  refine concat_meets ⟨_, ho, rfl⟩ ⟨_, ho2, rfl⟩ noFill_list_add seq_list_add PySem.F.slot_list_add PySem.F.entry_list_add (PySem.F.args_list_add_2 _ _) (list_addW l l2 items items2 m m2 dd dd2 sl sl2 (by rw [sizeLine_eq]; omega)) ⟨ho, ho2, ?_⟩
  have hv := V.newList hD (e1.append e2)
  have e : (items.toList ++ items2.toList).toArray = items ++ items2 := by simp
  rw [e] at hv
  exact hQ _ _ (Gr.heap _ (Kp.push _ _)) hv
/-! ### list.extend, list.insert -/
theorem ownNode {D : Addr → Prop} {s : Shared} {a : Addr} {items : Array Value} {m : Nat} (ho : s.heap.get? a = some { cls := .type "list", data := .seq items m }) (hDa : D a) {h' : Heap} (hs : Heap.SameBut a s.heap h') :
    ∀ b o', s.heap.get? b = some o' → Node D b o' → h'.get? b = some o' := fun b o' hb hn => (hs.2 b (fun q => by
    subst q; rw [ho] at hb; cases hb
    rcases hn with ⟨_, _, _, hn | hn⟩ | ⟨hn, _⟩
    · exact hn hDa
    · exact absurd hn (by show Value.type "list" ≠ Value.type "tuple"; decide)
    · exact absurd hn (by show Value.type "list" ≠ Value.type "range"; decide))).trans hb

def insL {α : Type} (xs : List α) (i : Nat) (x : α) : List α := xs.take i ++ x :: xs.drop i
theorem MethOk.list_insert {xs : List PV} {i : Int} {v : PV} (h0 : 0 ≤ i) (h1 : i ≤ xs.length) (hz : xs.length < 2 ^ 20) : MethOk Γ "list.insert" (.list xs) [.int i, v] (.list (insL xs i.toNat v)) := by
  intro A n D s a vals Q E _ hA ok hB ha hDa hv hD hQ
  rw [Vs_cons] at hv
  obtain ⟨iv, r, rfl, hi, hr⟩ := hv
  rw [Vs_cons] at hr
  obtain ⟨val, r2, rfl, hv, hr⟩ := hr
  rw [Vs_nil] at hr; subst hr
  obtain ⟨u, rfl⟩ := V_int.mp hi
  obtain ⟨items, m, ho, e⟩ := ha
  have hsz : items.size = xs.length := by simpa using e.length
  refine toR (call_meets PySem.F.slot_list_insert ⟨_, ho, rfl⟩ PySem.F.entry_list_insert (PySem.F.args_list_insert_3 _ _ _) (AutoSeq1.list_insert_list_int_val_1 a items m i u val (by simp [Builtin.List.listFitsIndex]; omega) (by rw [sizeLine_eq]; omega)) ⟨ho, ?_⟩)
  have hs : Heap.SameBut a s.heap (s.heap.update a (Obj.mapSeq fun xs => have k := if i < 0 then (i + (xs.size : Int)).toNat else min i.toNat xs.size; (xs.extract 0 k).push val ++ xs.extract k)) := Heap.SameBut.update ..
  refine hQ _ s.toks hs ⟨_, _, Heap.get?_update_self _ ho rfl, ?_⟩
  have ek : (if i < 0 then (i + (items.size : Int)).toNat else min i.toNat items.size) = i.toNat := by rw [if_neg (by omega)]; omega
  have el : ((items.extract 0 i.toNat).push val ++ items.extract i.toNat).toList = items.toList.take i.toNat ++ val :: items.toList.drop i.toNat := by
    simp [List.take_of_length_le]
  simp only [ek]
  rw [el]
  have e' := e.move (ownNode ho hDa hs) fun _ _ _ d => d
  exact (e'.take _).append (Vs_cons.mpr ⟨val, _, rfl, hv.move (ownNode ho hDa hs) (fun _ _ _ d => d), e'.drop _⟩)

/-! ### what an owned list says -/
/-! ### methods of values -/
def HasMeth (a : PV) (T : String) : Prop := ∀ (D : Addr → Prop) (s : Shared) (v : Value), V D s.heap a v → s.TypeIs v T ∧ ∀ b, v ≠ .ref b
theorem HasMeth.bytes {l : List UInt8} : HasMeth (.bytes l) "bytes" := fun D s v hv => by
  obtain ⟨t, rfl⟩ := V_bytes.mp hv
  exact ⟨typeIs_bytes s _ _, fun b q => nomatch q⟩
theorem HasMeth.str {l : List Nat} : HasMeth (.str l) "str" := fun D s v hv => by
  obtain ⟨t, rfl⟩ := V_str.mp hv
  exact ⟨typeIs_str s _ _, fun b q => nomatch q⟩
theorem Ev.meth {o : Expr} {name : Str} {ap : Pos} {args : List Expr} {T id : String} {v r : PV} {vs : List PV} (ho : Ev Γ k sc σ μ o v) (hm : HasMeth v T) (ha : Es Γ k sc σ μ pos args vs) (hc : CallOk Γ k (.builtin id) (v :: vs) r)
    (pa : PlainAttrs T) (slot : Slot T name id) (hty : typeOf (.builtin id) = pure (.type "method_descriptor"))
    (hbase : ∀ env, attributeBase o name env (eval o env) = eval o env := by intro _; kernel_rfl)
    (hp : args.any isStarred = false := by kernel_rfl) (hn30 : args.length < 30 := by decide +kernel)
    (hline : ∀ F : Fm, methodCallPos true o (F.env sc) ap pos = pure pos := by intro _; kernel_rfl) :
    Ev Γ k sc σ μ (.Call (.Attribute o name ap) args [] pos) r := by
  intro A n F s Q E hn hA st hQ
  refine wpR_Call_method (hbase _) (form_plain hp hn30) (hline F) pa slot hty ?_
  refine ho A n F s _ _ hn hA st fun ov s₁ g₁ hov => ?_
  obtain ⟨hT, hnr⟩ := hm _ _ _ hov
  refine ⟨hT, fun b e => absurd e (hnr b), ?_⟩
  refine wpR_callWith (P := fun h => Kp Γ.B h) (starEach_plain_any args hp) (KeepOk.builtin) ?_
  refine wpR_evalArgs hp (ha A n F s₁ _ _ hn hA (st.grow g₁) fun vals s₂ g₂ hvs => ?_)
  have st₂ := (st.grow g₁).grow g₂
  refine ⟨st₂.base, ?_⟩
  show wpR _ _ (PySem.call (.builtin id) ([ov] ++ vals) []) _ E s₂
  exact hc A n _ s₂ (ov :: vals) _ E (by omega) hA st.ok st₂.base (Vs_cons.mpr ⟨ov, vals, rfl, hov.grow g₂.keep, hvs⟩) st₂.dom fun v s₃ g₃ hv => hQ v s₃ ((g₁.trans g₂).trans g₃) hv

namespace F
theorem b_owner : Manifest.owners.lookup (String.ofList ['s', 'e', 't', 'y', 'b'].reverse) = some Manifest.sig_bytes := by kernel_rfl
theorem b_slot_upper : Slot "bytes" "upper" "bytes.upper" :=
  .of (owner := "bytes") (n := "upper") (by rw [typeLookup_type, builtinLookup_eq_fast]; kernel_rfl) (by decide +kernel) (by decide +kernel) (by decide +kernel)
    (by first | exact .inl (by decide +kernel) | exact .inr (by decide +kernel)) (by rw [isSubtype_type]; kernel_rfl)
theorem b_entry_upper : entryFor table "bytes.upper" = some Builtin.«bytes.upper» := by first | exact entryFor_of_fast (by kernel_rfl) | exact entryFor_of_tree (by kernel_rfl)
theorem b_args_upper (a : Value) : argsOk "bytes.upper" ⟨[a], []⟩ := by
  unfold argsOk; rw [signature?_of (id := "bytes.upper") (n := ['r', 'e', 'p', 'p', 'u']) (o := ['s', 'e', 't', 'y', 'b']) (by kernel_rfl) b_owner]; kernel_rfl
theorem b_type_upper : typeOf (.builtin "bytes.upper") = pure (.type "method_descriptor") := by show builtinType _ = _; rw [builtinType_eq_fast]; kernel_rfl
theorem b_plainAttrs : PlainAttrs "bytes" :=
  ⟨⟨"bytes.__getattribute__", by rw [typeLookup_type, builtinLookup_eq_fast]; kernel_rfl, by decide +kernel⟩, by rw [typeLookup_type, builtinLookup_eq_fast]; kernel_rfl⟩
end F
theorem meets_upper (b : Array UInt8) (t : Tok) : Meets (Builtin.«bytes.upper» ⟨[.bytes b t], []⟩) (fun _ R s => b.size ≤ sizeLine ∧ ∀ t' k, R (.ok (.ret (.bytes (b.toList.map Builtin.Bytes.toUpper).toArray t'))) { s with toks := k }) := by
  intro prog w A R s h
  show wpAny _ _ (mkBytes (b.toList.map Builtin.Bytes.toUpper).toArray >>= fun v => ret v) _ _ s
  refine wpAny_bind (wpAny_mkBytes ?_ (by simpa using h.1))
  exact wpAny_pure (h.2 _ _)
theorem CallOk.upper {l : List UInt8} (hz : l.length < 2 ^ 20) : CallOk Γ k (.builtin "bytes.upper") [.bytes l] (.bytes (l.map Builtin.Bytes.toUpper)) := by
  intro A n D s vals Q E _ _ _ _ hvs _ hQ
  rw [Vs_cons] at hvs
  obtain ⟨v, r, rfl, hv, hr⟩ := hvs
  rw [Vs_nil] at hr; subst hr
  obtain ⟨t, rfl⟩ := V_bytes.mp hv
  refine toR (call_meets F.b_slot_upper (typeIs_bytes s _ _) F.b_entry_upper (F.b_args_upper _) (meets_upper _ _) ⟨by rw [sizeLine_eq]; simp; omega, fun t' k => hQ _ _ (Gr.toks k) (V.bytes _ _)⟩)

/-! ### x, y = e -/
theorem wpR_Assign_Tuple {M : Model} {A : Around} {E : Value → Shared → Prop} {s : Shared} {env : Env} {elts k tpos value pos} {Q : Flow → Shared → Prop}
    (h : wpR M A (eval value env) (fun v s₁ => wpR M A (assign (.Tuple elts k tpos) env v) (fun _ => Q .next) E s₁) E s)
    (hs : swapsWithSole [.Tuple elts k tpos] value pos.line env = pure false)
    (hw : swappedStores [.Tuple elts k tpos] value env = pure none) :
    wpR M A (exec (.Assign [.Tuple elts k tpos] value pos) env) Q E s := by
  rw [PyProof.Rows.exec_Assign]
  refine wpR_bind (wpR_standAt ?_)
  rw [hs]
  refine wpR_bind (wpR_pure ?_)
  rw [if_neg (by decide)]
  refine wpR_bind (wpR_mono h (fun v s₁ h₁ => ?_) fun _ _ x => x)
  rw [hw]
  refine wpR_bind (wpR_pure ?_)
  show wpR M A (do assignAll v [assign (.Tuple elts k tpos) env]; pure .next) Q E s₁
  exact wpR_bind (wpR_mono h₁ (fun _ _ x => wpR_pure x) fun _ _ x => x)
theorem X1.assignT {elts : List Expr} {kd : Nat} {tp : Pos} {e : Expr} {v : PV} (he : Ev Γ k sc σ μ e v) (ha : As Γ k sc σ μ (.Tuple elts kd tp) v σ₁) (h : P .next σ₁ μ)
    (hs : ∀ F : Fm, swapsWithSole [.Tuple elts kd tp] e pos.line (F.env sc) = pure false := by intro _; kernel_rfl)
    (hw : ∀ F : Fm, swappedStores [.Tuple elts kd tp] e (F.env sc) = pure none := by intro _; kernel_rfl) : X1 Γ k sc σ μ (.Assign [.Tuple elts kd tp] e pos) P := by
  intro A n F h₀ s Q E hn hA X hQ
  refine wpR_Assign_Tuple (he A n F s _ _ hn hA X.toSt fun val s₁ g hv => ?_) (hs F) (hw F)
  exact toR (ha A n F h₀ s₁ val _ _ hn hA (X.grow g) hv fun s₂ X₂ sp₂ => hQ .next _ μ _ s₂ h X₂ ((Sp.gr g).trans sp₂) rfl)

/-! ### try, nothing raised -/
theorem wpR_tryStmt {M : Model} {A : Around} {E : Value → Shared → Prop} {s : Shared} {env : Env} {body orelse : Sem Flow} {h₀ : ExceptHandler} {hs : List ExceptHandler} {Q : Flow → Shared → Prop}
    (h : wpR M A body (fun f s₁ => match f with | .next => wpR M A orelse Q E s₁ | f => Q f s₁)
      (fun e s₁ => wpR M A (noteFrame e env) (fun _ s₂ => wpR M A (setFlight e none) (fun _ s₃ => wpR M A (handleBy e env (h₀ :: hs)) Q E s₃) E s₂) E s₁) s) :
    wpR M A (tryStmt false body (h₀ :: hs) orelse [] env) Q E s := by
  unfold tryStmt
  simp only [List.isEmpty_nil, if_true, List.isEmpty_cons, Bool.false_and, Bool.false_eq_true, if_false]
  refine wpR_bind (wpR_attempt (wpR_mono h (fun f s₁ h₁ => ?_) fun e s₁ h₁ => ?_))
  · cases f <;> first | exact h₁ | exact wpR_pure h₁
  · exact wpR_bind (wpR_mono h₁ (fun _ _ h₂ => wpR_bind h₂) fun _ _ x => x)
theorem X1.try {body orelse : List Stmt} {h₀ : ExceptHandler} {hs : List ExceptHandler} (h : Xs Γ k sc σ μ body (fun fl σ' μ' => match fl with | .next => Xs Γ k sc σ' μ' orelse P | fl => P fl σ' μ')) : X1 Γ k sc σ μ (.Try body (h₀ :: hs) orelse [] pos) P := by
  intro A n F h₀ s Q E hn hA X hQ
  rw [arm_exec_Try]
  refine wpR_bind (wpR_standAt (wpR_tryStmt (h A n F h₀ s _ _ hn hA X fun fl σ' μ' f s' hP X' sp hf => ?_)))
  cases fl with
  | next =>
    have : f = .next := hf
    subst this
    exact hP A n F h₀ s' _ _ hn hA X' fun fl2 σ2 μ2 f2 s2 hP2 X2 sp2 hf2 => hQ fl2 σ2 μ2 f2 s2 hP2 X2 (sp.trans sp2) hf2
  | brk => have : f = .brk := hf; subst this; exact hQ _ _ _ _ _ hP X' sp rfl
  | cont => have : f = .cont := hf; subst this; exact hQ _ _ _ _ _ hP X' sp rfl
  | ret v =>
    obtain ⟨val, rfl, hv⟩ := hf
    exact hQ _ _ _ _ _ hP X' sp ⟨val, rfl, hv⟩
end
end Mine

namespace Mine

/-! ## the head, for the logic over restricted contexts
The library's head asks for wpAny under the claim's caller. The run itself starts on one context, and that one holds no decoder:
so wpR under the caller is enough. -/

theorem good_caller : GoodC (⟨.builtin "claim.caller" {}, none, none, [], none⟩ : Ctx) := ⟨by decide +kernel, fun _ h => nomatch h⟩

theorem halts_of_wpR {prog : Program} {w : World} {t : Sem Fin} {s : Shared} {R : Result → Shared → Prop} (hreg : s.asleep)
    (h : wpR (model prog w) callerA t (fun fin s' => ∃ f, fin = .done f ∧ (R (.ok f) s' ∧ leftWithCleanup s'.gens = false)) (fun e s' => R (.error e) s' ∧ leftWithCleanup s'.gens = false) s) :
    ∃ n r s' s'', runN (denote table) prog w n s ⟨t, .builtin "claim.caller" {}, default, []⟩ = .halted (outcomeOf r) s' ∧
      schedN (denote table) prog w n (.single s ⟨t, .builtin "claim.caller" {}, default, []⟩) = .halted (outcomeOf r) s' ∧ s'.forget = s''.forget ∧ R r s'' := by
  have hwp : Sem.wp (model prog w) ⟨.builtin "claim.caller" {}, none, none, [], none⟩ t (Sem.finPost (model prog w) ⟨.builtin "claim.caller" {}, none, none, [], none⟩ fun r s' => R r s' ∧ leftWithCleanup s'.gens = false)
      (fun e _ s' => R (.error e) s' ∧ leftWithCleanup s'.gens = false) default s := by
    refine Sem.wp_mono _ _ t (fun fin p' s' h' => ?_) (fun _ _ _ h' => h') _ s (h _ default caller_in good_caller)
    obtain ⟨f, rfl, hf⟩ := h'
    exact hf
  obtain ⟨n, r, s₁, s₂, hs, hn, hfo, hR⟩ := wp_halts_full (M := model prog w) (R := R) hreg hwp
  exact ⟨n, r, s₂, s₁, hn, hs, hfo, hR⟩

theorem callFromR {c : ClaimW} {tree : List Value → Sem Fin} {w : World} {s : Shared} {free : Addr → Prop} {gens : Prop} {kept : Heap → Prop} (hz : s.asleep) (hgens : s.gens = #[])
    (hspec : ∀ args, c.pre args = true → WData.layableAll args = true → ∀ ord : List DictEntry → List DictEntry, (∀ l, (ord l).Perm l) →
      ∃ vs s₁, layAllW c.records (classAt s.heap) w.params ord args s = some (vs, s₁) ∧
        wpR (model c.prog w) callerA (tree vs) (fun fin s' => ∃ f, fin = .done f ∧ (c.Ends s args vs s₁ (.ok f) s' ∧ s'.os = s.os ∧ AllBare s'.gens ∧ kept s'.heap))
          (fun e s' => c.Ends s args vs s₁ (.error e) s' ∧ s'.os = s.os ∧ AllBare s'.gens ∧ kept s'.heap) s₁) :
    c.CallFrom (fun vs => ⟨tree vs, .builtin "claim.caller" {}, default, []⟩) w free gens kept s := by
  intro args hpre hlay ord hord
  obtain ⟨vs, s₁, hlaid, hcode⟩ := hspec args hpre hlay ord hord
  have hal := layAllW_rest _ _ _ hlaid
  obtain ⟨k, r, s', s'', hrun, hsched, hfo, hcase, hos, hkp⟩ := halts_of_wpR (prog := c.prog) (w := w) (t := tree vs) (s := s₁)
    (R := fun r s' => c.Ends s args vs s₁ r s' ∧ s'.os = s.os ∧ kept s'.heap) (Shared.asleep_of_life hal.2.2.2 hz)
    (wpR_mono hcode (fun fin s' ⟨f, e, h1, h2, h3, h4⟩ => ⟨f, e, ⟨h1, h2, h4⟩, leftWithCleanup_false_of_bare h3⟩) fun e s' ⟨h1, h2, h3, h4⟩ => ⟨⟨h1, h2, h4⟩, leftWithCleanup_false_of_bare h3⟩)
  obtain ⟨eh, _, _, eo, _⟩ := Shared.forget_eq hfo
  have hends := hcase.congr eh
  have hkept : kept s'.heap := by rw [eh]; exact hkp
  have hos' : s'.os = s.os := eo.trans hos
  have hlife : s'.heap.life = s.heap.life := (runN_life _ _ _ hrun).trans hal.2.2.2
  refine ⟨vs, s₁, hlaid, k, _, s', hsched, ?_, (fun _ i x hx => by rw [hgens] at hx; simp at hx), hkept, by rw [hlife], Shared.rest_eq hos'⟩
  rcases hends with ⟨v, rfl, d1, d2, d3, d4, d5⟩ | ⟨e, ob, cls, rfl, d1, d2, d3, d4, d5⟩
  · exact .inl ⟨v, rfl, d1, d2, d3, fun b o y _ => d4 b o y, d5⟩
  · exact .inr ⟨e, ob, cls, rfl, d1, d2, d3, d4, fun b o y _ => d5 b o y⟩

abbrev WalkR (q : Program) (loose : List Str) (XP : (Str → Option Value) → Heap → Prop) (YP : World → Heap → Prop) (r : RowW) (d : DefRec) (kwd : List (Str × Expr)) (run : Value → List Value → Sem Value) : Prop :=
  ∀ (w : World) (s₀ s₁ : Shared) (mg mb : Str → Option Value), Ground q loose r.records XP w s₀ mg mb s₁.heap → YP w s₁.heap → ∀ (a : Addr) (o : Obj) (pm cd doc dV kV : Value), s₁.heap.get? a = some o →
    o.data = .func { docDef d.name d.params d.body d.scope pm cd doc with defaults := dV, kwdefaults := kV } → s₁.heap.CodeRec cd d.name → Dflts mg s₁.heap d.params kwd dV kV → mg d.name = some (.ref a) → s₁.gens = #[] →
    ∀ (args : List WData) (vals : List Value) (as : List Addr), r.claim.pre args = true → WData.layableAll args = true → ReadsAllW r.records (classAt s₀.heap) s₁.heap vals args as → WellAll w.params s₁.heap vals args → (∀ a ∈ as, (a == sysModules) = false) →
      wpR (model r.prog w) callerA (run (.ref a) vals) (fun v s' => GoodWG r.claim (classAt s₀.heap) (ExcName.means s₀.heap) args s₁ (.ok (.ret v)) s')
        (fun e s' => GoodWG r.claim (classAt s₀.heap) (ExcName.means s₀.heap) args s₁ (.error e) s') s₁

theorem PySem.W.holds_open {r : OpenRow} {q : Program} {loose : List Str} {Xt : Shared → Bool} {XP : (Str → Option Value) → Heap → Prop} {α : Type} {Yf : Shared → α} {Ya : World → α} {YP : World → Heap → Prop} {d : DefRec} {kwd : List (Str × Expr)} {N : Nat}
    (left : LeftO r.prog q loose Xt Yf Ya N) (hY : ∀ w s, Yf s = Ya w → YP w s.heap) (hYk : ∀ w h h', YP w h → (∀ b o, h.get? b = some o → h'.get? b = some o) → YP w h')
    (hX : ∀ s, Xt s = true → XP (s.heap.nsMap mainGlobals) s.heap) (hXk : ∀ mg h h', XP mg h → (∀ b o, h.get? b = some o → h'.get? b = some o) → XP mg h')
    (hdef : defOf q r.name = some (d, kwd)) (hp : r.prog.theDef r.name = some (d.params, d.body, d.scope)) (hk : kwWritten? d.params.kwonlyargs d.params.kw_defaults = some kwd) (hRf : ∀ s, Xt s = true → RecFacts r.records s.heap) (hwr : (!r.writes || r.records.isEmpty) = true)
    (k1 : r.wellSaid = true) (ok : (chainsOk q && opensWell r.prog && (frees r.toRowW && r.within.isEmpty)) = true) (hb : r.prog.bare) (hw : r.toRowW.promised)
    (call : WalkR q loose XP YP r.toRowW d kwd fun f vs => PySem.call f vs) : r.Holds := by
  obtain ⟨ok, k5⟩ := Bool.and_eq_true_iff.mp ok
  obtain ⟨hch, o1⟩ := Bool.and_eq_true_iff.mp ok
  obtain ⟨k5, k6⟩ := Bool.and_eq_true_iff.mp k5
  obtain ⟨hsame, hu, ha, hap, hm⟩ := frees_parts k5
  refine ⟨k1, hw, ⟨⟨hb, o1, by show r.makers.map _ = []; rw [hm]; rfl⟩, hw.witness, fun w => ⟨(left.behind hX hch w).1, fun s' hs' => ?_⟩⟩⟩
  obtain ⟨s₀, hf, hg0, s, hT, hz, hgens, hg, G00, y⟩ := (left.behind (XP := fun mg h => XP mg h ∧ RecFacts r.records h) (fun s hs => ⟨hX s hs, hRf s hs⟩) hch w).2 s' hs'
  have G0 : Ground q loose [] XP w s (s.heap.nsMap mainGlobals) (s.heap.nsMap builtinsNs) s.heap := ⟨G00.T, G00.B, G00.D, G00.TE, G00.TD, G00.W, G00.X.1, G00.cls, G00.has, G00.apart, G00.once, G00.K⟩
  have RF := G00.X.2
  have hT' := hT
  refine ⟨s₀, hf, hg0, s, hT, (fun n hn => ?_), RF.1, RF.2.1, ?_⟩
  · obtain rfl : n = r.name := by split at hn <;> simp_all
    exact pinned_of_view hg G0 hdef hp hk
  have hgens : s.gens = #[] := Array.eq_empty_of_size_eq_zero (beq_iff_eq.mp hgens)
  have G : Ground q loose r.records XP w s _ _ s.heap := RF.ground G0
  refine callFromR (c := r.toRowW.claim) hz hgens fun args hpre hlay ord hord => ?_
  obtain ⟨⟨vs, s₁⟩, hlaid⟩ := Option.isSome_iff_exists.mp (layAllW_isSome (P := w.params) (ord := ord) G.has args r.args s (pre_splitW hpre).1)
  have keeps := layAllW_keeps _ _ _ hlaid
  have hal := layAllW_rest _ _ _ hlaid
  obtain ⟨as, hrd, hin, hold⟩ := reads_layAllW hord _ _ _ hlaid hlay s₁.heap (fun _ _ e => e)
  have L : Laid r.records w s s₁ args vs as := ⟨⟨ord, hord, hlaid⟩, hrd, hin, hold, keeps, hal.1.trans hgens, hal.2.2.1⟩
  have G₁ := G.keeps hXk keeps
  obtain ⟨a, o, pm, cd, doc, dV, kV, h1, h2, h3, h4, h5⟩ := G₁.fn hdef
  have h := call w s s₁ _ _ G₁ (hYk _ _ _ (hY w s y) keeps) a o pm cd doc dV kV h2 h3 h4 h5 (defOf_name hdef ▸ h1) L.gens args vs as hpre hlay L.reads L.well (L.low G.low)
  have hi := ident_freeW hu ha hap
  have hwi : r.toRowW.claim.within = [] := List.isEmpty_iff.mp k6
  refine ⟨vs, s₁, hlaid, ?_⟩
  refine wpR_bind (toR (wpAny_nsGet G₁.T.g ?_))
  rw [h1]
  exact wpR_bind (wpR_mono h (fun v s' g => wpR_pure ⟨_, rfl, have z := g.laid (c := r.toRowW.claim) hsame hwi hi L; ⟨z.1, z.2.1, z.2.2, fun q => ⟨namesKept_of hT' hg r.keeps keeps g.2.1.old, noTable hwr q⟩⟩⟩)
    fun e s' g => have z := g.laid (c := r.toRowW.claim) hsame hwi hi L; ⟨z.1, z.2.1, z.2.2, fun q => ⟨namesKept_of hT' hg r.keeps keeps g.2.1.old, noTable hwr q⟩⟩)

theorem Lv.top : Lv 0 callerA := ⟨rfl, by decide, by decide, rfl⟩

/-- from the contract of 'law' to what the head asks -/
theorem law_called {Γ : Cx} {k : Nat} {ns : List Int} {l fa : Addr} {vs : List Value} {s₁ : Shared} {Q : Value → Shared → Prop} {E : Value → Shared → Prop}
    (ok : Γ.Ok) (hB : Γ.B = s₁.heap) (hk : k ≤ 8) (hl : s₁.heap.IsList l vs.toArray) (hi : IntsAre vs ns)
    (hc : CallOk Γ k (.ref fa) [.lst (ns.map .int)] (.bool true))
    (hQ : ∀ s', Kp s₁.heap s'.heap → s'.gens = s₁.gens → s'.os = s₁.os → Q (.bool true) s') : wpR Γ.M callerA (PySem.call (.ref fa) [.ref l]) Q E s₁ := by
  refine hc callerA 0 (fun _ => False) s₁ [.ref l] Q E (by omega) Lv.top ok (by rw [hB]; exact fun _ _ e => e) ?_ (fun _ h => h.elim) fun val s' g hv => ?_
  · exact Vs_cons.mpr ⟨_, [], rfl, V_lst.mpr ⟨l, vs.toArray, rfl, id, hl, by simpa using Vs.of_ints hi⟩, Vs_nil.mpr rfl⟩
  · rw [V_bool] at hv; subst hv
    exact hQ s' g.keep g.gens g.os
end Mine

namespace Mine

def adLoop (delta divs : Int) : Int := if h : 455 < delta then adLoop (delta / 35) (divs + 36) else divs + 36 * delta / (delta + 38)
termination_by delta.toNat
decreasing_by omega

def adaptF (delta : Int) (first : Bool) (n : Int) : Int := adLoop ((if first then delta / 700 else delta / 2) + (if first then delta / 700 else delta / 2) / n) 0

/-! ## adapt in numbers -/
end Mine

namespace Mine

/-! ## the plain law of generate_generalized_integer -/

def tF (j bias : Int) : Int := if 36 * (j + 1) - bias < 1 then 1 else if 26 < 36 * (j + 1) - bias then 26 else 36 * (j + 1) - bias
theorem tF_ge (j bias : Int) : 1 ≤ tF j bias := by unfold tF; repeat' split <;> omega
theorem tF_le (j bias : Int) : tF j bias ≤ 26 := by unfold tF; repeat' split <;> omega

def dgs : List UInt8 := [97, 98, 99, 100, 101, 102, 103, 104, 105, 106, 107, 108, 109, 110, 111, 112, 113, 114, 115, 116, 117, 118, 119, 120, 121, 122, 48, 49, 50, 51, 52, 53, 54, 55, 56, 57]
def dB (d : Int) : UInt8 := dgs.getD d.toNat 0

theorem ediv_small {a b : Int} (h : 0 < a) (hb : 2 ≤ b) : a / b < a := by
  have := Int.ediv_lt_of_lt_mul (a := a) (b := a) (c := b) (by omega) (by
    have : a * 2 ≤ a * b := Int.mul_le_mul_of_nonneg_left hb (by omega)
    omega)
  exact this
theorem next_lt {N t : Int} (h1 : 1 ≤ t) (h2 : t ≤ 26) (h : ¬ N < t) : ((N - t) / (36 - t)).toNat < N.toNat := by
  have hb : (N - t) / (36 - t) ≤ N - t := by
    by_cases hz : N - t = 0
    · rw [hz]; simp
    · have := ediv_small (a := N - t) (b := 36 - t) (by omega) (by omega)
      omega
  omega

/-- the numeral's figures -/
def ggiD (N bias : Int) (j : Int) : List Int :=
  if h : N < tF j bias then [N]
  else (tF j bias + (N - tF j bias) % (36 - tF j bias)) :: ggiD ((N - tF j bias) / (36 - tF j bias)) bias (j + 1)
termination_by N.toNat
decreasing_by exact next_lt (tF_ge _ _) (tF_le _ _) h

def ggiB (N bias : Int) : List UInt8 := (ggiD N bias 0).map dB

theorem ggiD_length_le : ∀ (m : Nat) (N bias j : Int), N < 10 ^ m → (ggiD N bias j).length ≤ m + 1
  | 0, N, bias, j, h => by
    rw [ggiD, dif_pos (by have := tF_ge j bias; omega)]; simp
  | m + 1, N, bias, j, h => by
    rw [ggiD]
    split
    · simp
    · rename_i hn
      have h1 := tF_ge j bias
      have h2 := tF_le j bias
      have : (N - tF j bias) / (36 - tF j bias) < 10 ^ m := by
        refine Int.ediv_lt_of_lt_mul (by omega) ?_
        have h3 : (10 : Int) ^ m * 10 ≤ 10 ^ m * (36 - tF j bias) := Int.mul_le_mul_of_nonneg_left (by omega) (Int.pow_nonneg (by omega))
        rw [Int.pow_succ] at h
        omega
      have := ggiD_length_le m _ bias (j + 1) this
      simpa using this
end Mine

namespace Mine

/-! ## the plain law 04: adding numerals -/
theorem ggiD_range : ∀ (m : Nat) (N bias j : Int), N.toNat ≤ m → 0 ≤ N → ∀ d ∈ ggiD N bias j, 0 ≤ d ∧ d < 36 := by
  intro m
  induction m using Nat.strongRecOn with
  | ind m ih =>
    intro N bias j hm h0 d hd
    have h1 := tF_ge j bias
    have h2 := tF_le j bias
    rw [ggiD] at hd
    split at hd
    · simp at hd; subst hd; omega
    · rename_i hn
      rcases List.mem_cons.mp hd with rfl | hd
      · have := Int.emod_nonneg (N - tF j bias) (b := 36 - tF j bias) (by omega)
        have := Int.emod_lt_of_pos (N - tF j bias) (b := 36 - tF j bias) (by omega)
        omega
      · have := next_lt h1 h2 hn
        exact ih _ (by omega) _ bias (j + 1) (Nat.le_refl _) (Int.ediv_nonneg (by omega) (by omega)) d hd
theorem ggiD_dig {N bias : Int} (h0 : 0 ≤ N) : ∀ d ∈ ggiD N bias 0, 0 ≤ d ∧ d < 36 := ggiD_range _ N bias 0 (Nat.le_refl _) h0

end Mine

namespace Mine

/-! ## the plain law 05: a numeral, cut -/
end Mine

namespace Mine
/-! ## generate_integers in numbers -/
def giD (base : Int) : Int → Int → List Int → List Int
  | _, _, [] => []
  | p, b, d :: ds => ggiD d b 0 ++ giD base (p + 1) (adaptF d (decide (p = 0)) (base + p + 1)) ds
theorem giD_length (base : Int) : ∀ (ds : List Int) (p b : Int), (∀ d ∈ ds, d < 10 ^ 20) → (giD base p b ds).length ≤ 21 * ds.length
  | [], _, _, _ => by simp [giD]
  | d :: ds, p, b, h => by
    have h1 := ggiD_length_le 20 d b 0 (h d List.mem_cons_self)
    have h2 := giD_length base ds (p + 1) (adaptF d (decide (p = 0)) (base + p + 1)) fun x hx => h x (List.mem_cons_of_mem _ hx)
    simp only [giD, List.length_append, List.length_cons]; omega
end Mine

namespace Mine
/-! ## thresholds of a bias that adapt gives -/
/-! ## capitals -/
def upB (c : UInt8) : UInt8 := if 97 ≤ c ∧ c ≤ 122 then c - 32 else c
def dU (d : Int) : UInt8 := upB (dB d)
theorem dU_val : ∀ d : Nat, d < 36 → ((dU (d : Int)).toNat : Int) = if (d : Int) < 26 then (d : Int) + 65 else (d : Int) + 22 := by decide +kernel
theorem map_upB (ds : List Int) : (ds.map dB).map upB = ds.map dU := by rw [List.map_map]; rfl
/-! ## law 07 in numbers -/
end Mine

namespace Mine
/-! ## small helps for the walks -/
theorem Paired.maps {α β γ : Type} {R : β → γ → Prop} {f : α → β} {g : α → γ} : ∀ (l : List α), (∀ a ∈ l, R (f a) (g a)) → Paired R (l.map f) (l.map g)
  | [], _ => .nil
  | a :: l, h => .cons (h a List.mem_cons_self) (Paired.maps l fun b hb => h b (List.mem_cons_of_mem _ hb))
theorem filterMap_some {α β : Type} (f : α → β) (l : List α) : (l.map fun a => some (f a)).filterMap id = l.map f := by
  induction l with
  | nil => rfl
  | cons a l ih => simp
theorem cut_to {α : Type} (l : List α) (c : Nat) : cutL l none (some (c : Int)) = l.take c := by
  unfold cutL
  simp only [Option.elim, clipAt_nat, List.drop_zero, Nat.sub_zero]
  by_cases h : c ≤ l.length
  · rw [Nat.min_eq_left h]
  · rw [Nat.min_eq_right (by omega), List.take_of_length_le (Nat.le_refl _), List.take_of_length_le (by omega)]
theorem toUpper_eq : Builtin.Bytes.toUpper = upB := by
  funext c
  unfold Builtin.Bytes.toUpper upB Builtin.Bytes.isLower
  by_cases h : 97 ≤ c ∧ c ≤ 122
  · rw [if_pos h, if_pos (by simpa using h)]
  · rw [if_neg h, if_neg (by simpa using h)]
theorem len1 {α : Type} {l : List α} (h : l.length = 1) : ∃ x, l = [x] := by
  cases l with
  | nil => cases h
  | cons x l => cases l with
    | nil => exact ⟨x, rfl⟩
    | cons y l => cases h
theorem len2 {α : Type} {l : List α} (h : l.length = 2) : ∃ x y, l = [x, y] := by
  cases l with
  | nil => cases h
  | cons x l =>
    obtain ⟨y, rfl⟩ := len1 (l := l) (by simpa using h)
    exact ⟨x, y, rfl⟩
theorem len3 {α : Type} {l : List α} (h : l.length = 3) : ∃ x y z, l = [x, y, z] := by
  cases l with
  | nil => cases h
  | cons x l =>
    obtain ⟨y, z, rfl⟩ := len2 (l := l) (by simpa using h)
    exact ⟨x, y, z, rfl⟩
theorem len4 {α : Type} {l : List α} (h : l.length = 4) : ∃ x y z u, l = [x, y, z, u] := by
  cases l with
  | nil => cases h
  | cons x l =>
    obtain ⟨y, z, u, rfl⟩ := len3 (l := l) (by simpa using h)
    exact ⟨x, y, z, u, rfl⟩
end Mine

set_option maxRecDepth 100000
namespace Mine

section
variable {Γ : Cx} {k : Nat} {sc : Scope} {σ : Loc} {μ : Own} {pos : Pos}

/-! ## text -/
theorem str_len (l : List Nat) : (Str.mk l.toArray).length = l.length := by show l.toArray.size = _; simp
theorem str_app (a b : List Nat) : (Str.mk a.toArray) ++ (Str.mk b.toArray) = Str.mk (a ++ b).toArray := by
  show Str.mk (a.toArray ++ b.toArray) = _
  simp
theorem Op2.addS {a b : List Nat} (h : a.length + b.length < 2 ^ 20) : Op2 Γ (binaryOp .Add) (.str a) (.str b) (.str (a ++ b)) := by
  intro A n D s x y Q E _ _ _ _ hx hy _ hQ
  obtain ⟨t, rfl⟩ := V_str.mp hx; obtain ⟨u, rfl⟩ := V_str.mp hy
  refine PyProof.Rows.add_str (fun t' tk => hQ _ _ (Gr.toks tk) ?_) (by rw [str_len, str_len, sizeLine_eq]; omega)
  rw [str_app]; exact V.str _ _
theorem Op2.eqS {a b : List Nat} : Op2 Γ (compareOp .Eq) (.str a) (.str b) (.bool (a == b)) := by
  intro A n D s x y Q E _ _ _ _ hx hy _ hQ
  obtain ⟨t, rfl⟩ := V_str.mp hx; obtain ⟨u, rfl⟩ := V_str.mp hy
  exact P.eq_str (hQ _ _ (Gr.refl s) (by simpa using V.bool _))
def isNoneP : PV → Bool
  | .none => true
  | _ => false
def noObj : PV → Bool
  | .obj _ => false
  | _ => true
theorem V.isNone {D : Addr → Prop} {h : Heap} {p : PV} {v : Value} (ho : noObj p = true) (e : V D h p v) : (v == .none) = isNoneP p := by
  cases p with
  | none => rw [V_none] at e; subst e; rfl
  | bool b => rw [V_bool] at e; subst e; rfl
  | int i => obtain ⟨t, rfl⟩ := V_int.mp e; rfl
  | str l => obtain ⟨t, rfl⟩ := V_str.mp e; rfl
  | bytes l => obtain ⟨t, rfl⟩ := V_bytes.mp e; rfl
  | obj w => cases ho
  | tup xs => obtain ⟨a, items, rfl, _⟩ := V_tup.mp e; rfl
  | lst xs => obtain ⟨a, items, rfl, _⟩ := V_lst.mp e; rfl
  | lsn xs => obtain ⟨a, items, n, rfl, _⟩ := V_lsn.mp e; rfl
  | ref a => rw [V_ref] at e; subst e; rfl
  | rng a b c => obtain ⟨r, t, u, z, rfl, _⟩ := V_rng.mp e; rfl
theorem Op2.is0 {p : PV} (ho : noObj p = true) : Op2 Γ (compareOp .Is) p .none (.bool (isNoneP p)) := by
  intro A n D s x y Q E _ _ _ _ hx hy _ hQ
  rw [V_none] at hy; subst hy
  refine is_none_gen ?_
  rw [hx.isNone ho]
  exact hQ _ _ (Gr.refl s) (V.bool _)
theorem CallOk.len_str {l : List Nat} (h : l.length < 2 ^ 62) : CallOk Γ k (.builtin "len") [.str l] (.int l.length) := by
  intro A n D s vals Q E _ _ _ _ hvs _ hQ
  rw [Vs_cons] at hvs
  obtain ⟨v, r, rfl, hv, hr⟩ := hvs
  rw [Vs_nil] at hr; subst hr
  obtain ⟨t, rfl⟩ := V_str.mp hv
  refine toR (P.len_str (by rw [str_len]; omega) (hQ _ _ (Gr.toks _) ?_))
  rw [str_len]; exact V.int _ _
theorem CallOk.chr {i : Int} (h0 : 0 ≤ i) (h1 : i ≤ 1114111) : CallOk Γ k (.builtin "chr") [.int i] (.str [i.toNat]) := by
  intro A n D s vals Q E _ _ _ _ hvs _ hQ
  rw [Vs_cons] at hvs
  obtain ⟨v, r, rfl, hv, hr⟩ := hvs
  rw [Vs_nil] at hr; subst hr
  obtain ⟨t, rfl⟩ := V_int.mp hv
  exact toR (chr_of_range h0 h1 (hQ _ _ (Gr.toks _) (V.str [i.toNat] _)))
theorem CallOk.ord {c : Nat} : CallOk Γ k (.builtin "ord") [.str [c]] (.int c) := by
  intro A n D s vals Q E _ _ _ _ hvs _ hQ
  rw [Vs_cons] at hvs
  obtain ⟨v, r, rfl, hv, hr⟩ := hvs
  rw [Vs_nil] at hr; subst hr
  obtain ⟨t, rfl⟩ := V_str.mp hv
  exact toR (P.ord_of_char (hQ _ _ (Gr.toks _) (V.int _ _)))
/-! ### slices and items -/
theorem getItem_slice {prog : Program} {w : World} {A : Around} {E : Value → Shared → Prop} {s : Shared} {x : Str} {t : Tok} {sl : Addr} {vl vu : Value} {lo hi : Option Int} {Q : Value → Shared → Prop}
    (hs : s.heap.IsSliceOf sl vl vu .none) (pl : IsPart vl lo) (pu : IsPart vu hi) (hz : x.length ≤ sizeLine) (hQ : ∀ t' k, Q (.str (Txt.slice x lo hi) t') { s with toks := k }) : wpAny (model prog w) A (getItem (.str x t) (.ref sl)) Q E s := by
  cases pl with
  | none =>
    cases pu with
    | none => exact wpAny_getItem_str_slice (l := none) (u := none) (st := none) hs rfl (post_val_or_str ⟨Nat.le_trans (Txt.slice_le x _ _) hz, fun t' k => hQ t' k⟩)
    | int j uj => exact wpAny_getItem_str_slice (l := none) (u := some (j, uj)) (st := none) hs rfl (post_val_or_str ⟨Nat.le_trans (Txt.slice_le x _ _) hz, fun t' k => hQ t' k⟩)
  | int i ui =>
    cases pu with
    | none => exact wpAny_getItem_str_slice (l := some (i, ui)) (u := none) (st := none) hs rfl (post_val_or_str ⟨Nat.le_trans (Txt.slice_le x _ _) hz, fun t' k => hQ t' k⟩)
    | int j uj => exact wpAny_getItem_str_slice (l := some (i, ui)) (u := some (j, uj)) (st := none) hs rfl (post_val_or_str ⟨Nat.le_trans (Txt.slice_le x _ _) hz, fun t' k => hQ t' k⟩)
theorem SliceOk.strTo {l : List Nat} {c : Nat} (hc : c ≤ l.length) (hz : l.length < 2 ^ 20) : SliceOk Γ (.str l) none (some (c : Int)) none (.str (l.take c)) := by
  intro A n D s x sl vl vu vs Q E _ _ hv hD hs pl pu ps hQ
  obtain ⟨t, rfl⟩ := V_str.mp hv
  cases ps
  refine getItem_slice hs pl pu (by rw [str_len, sizeLine_eq]; omega) fun t' k => hQ _ _ (Gr.toks k) ?_
  have e : Txt.slice ⟨l.toArray⟩ none (some (c : Int)) = ⟨(l.take c).toArray⟩ := by
    show StrLaws.sliceText ⟨l.toArray⟩ none (some (c : Int)) = _
    rw [StrLaws.sliceText_to ⟨by omega, by simp; omega⟩]
    simp
  rw [e]; exact V.str _ _
theorem SliceOk.strFrom {l : List Nat} {c : Nat} (hc : c ≤ l.length) (hz : l.length < 2 ^ 20) : SliceOk Γ (.str l) (some (c : Int)) none none (.str (l.drop c)) := by
  intro A n D s x sl vl vu vs Q E _ _ hv hD hs pl pu ps hQ
  obtain ⟨t, rfl⟩ := V_str.mp hv
  cases ps
  refine getItem_slice hs pl pu (by rw [str_len, sizeLine_eq]; omega) fun t' k => hQ _ _ (Gr.toks k) ?_
  have e : Txt.slice ⟨l.toArray⟩ (some (c : Int)) none = ⟨(l.drop c).toArray⟩ := by
    show StrLaws.sliceText ⟨l.toArray⟩ (some (c : Int)) none = _
    rw [StrLaws.sliceText_from ⟨by omega, by simp; omega⟩]
    simp only [Int.toNat_natCast]
    rw [List.take_of_length_le (by simp)]
  rw [e]; exact V.str _ _
/-! ### join -/
theorem strsAre {D : Addr → Prop} {h : Heap} : ∀ {ls : List (List Nat)} {vs : List Value}, Vs D h (ls.map .str) vs → StrsAre vs (ls.map fun l => Str.mk l.toArray)
  | [], vs, e => by simp only [List.map_nil, Vs_nil] at e; subst e; exact .nil
  | l :: ls, vs, e => by
    simp only [List.map_cons, Vs_cons] at e
    obtain ⟨v, r, rfl, e2, e3⟩ := e
    obtain ⟨t, rfl⟩ := V_str.mp e2
    exact .cons _ _ (strsAre e3)
theorem join_flat : ∀ (ls : List (List Nat)), Str.join ⟨#[]⟩ (ls.map fun l => Str.mk l.toArray) = Str.mk ls.flatten.toArray
  | [] => rfl
  | [l] => by show Str.mk l.toArray = _; simp
  | l :: m :: ls => by
    have ih := join_flat (m :: ls)
    show Str.mk l.toArray ++ ⟨#[]⟩ ++ Str.join ⟨#[]⟩ ((m :: ls).map fun l => Str.mk l.toArray) = _
    rw [ih]
    show Str.mk ((l.toArray ++ #[]) ++ (m :: ls).flatten.toArray) = _
    simp
theorem CallOk.join {ls : List (List Nat)} (hw : (ls.map (·.length)).sum + ls.length < 2 ^ 20) : CallOk Γ k (.builtin "str.join") [.str [], .lst (ls.map .str)] (.str ls.flatten) := by
  intro A n D s vals Q E _ hA _ _ hvs _ hQ
  rw [Vs_cons] at hvs
  obtain ⟨v, r, rfl, hv, hr⟩ := hvs
  rw [Vs_cons] at hr
  obtain ⟨v2, r2, rfl, hv2, hr2⟩ := hr
  rw [Vs_nil] at hr2; subst hr2
  obtain ⟨t, rfl⟩ := V_str.mp hv
  obtain ⟨a, items, rfl, _, hl, he⟩ := V_lst.mp hv2
  refine toR (join_listW hl (strsAre he) (by decide) ?_ fun t' k => hQ _ _ (Gr.toks k) ?_)
  · rw [List.map_map, List.length_map]
    have : ((fun x : Str => x.length) ∘ fun l : List Nat => Str.mk l.toArray) = (·.length) := by funext l; exact str_len l
    rw [this]; omega
  · have e : Txt.join ⟨([] : List Nat).toArray⟩ (ls.map fun l => Str.mk l.toArray) = Str.mk ls.flatten.toArray := (StrLaws.glued_eq_join _ _).trans (join_flat ls)
    rw [e]; exact V.str _ _
theorem flatten_ones {α β : Type} (f : α → β) : ∀ l : List α, (l.map fun a => [f a]).flatten = l.map f
  | [] => rfl
  | a :: l => by rw [List.map_cons, List.flatten_cons, flatten_ones f l]; rfl

/-! ### max, rfind -/
end
end Mine

set_option maxRecDepth 100000
namespace Mine
section
variable {Γ : Cx} {k : Nat}
theorem Lv.room {n : Nat} {A : Around} (h : Lv n A) (hn : n ≤ 8) : A.units + 64 < cLine := by
  have := h.units
  show A.units + 64 < _
  unfold cLine
  omega
/-! ### lists of ints: ==, != -/
end
end Mine

namespace Mine
/-! ## insertion_sort in numbers -/
def stepC (c : Int) : Int := if 1114111 < c then 63 else c
def putN (base : List Nat) (p : Int) (c : Int) : List Nat := base.take p.toNat ++ c.toNat :: base.drop p.toNat
theorem putN_length (base : List Nat) (p c : Int) : (putN base p c).length = base.length + 1 := by
  unfold putN; simp [List.length_take, List.length_drop]; omega
def insF : List Nat → Int → Int → List Int → List Nat
  | base, _, _, [] => base
  | base, char, pos, d :: ds =>
    insF (putN base ((pos + (d + 1)) % ((base.length : Int) + 1)) (stepC (char + (pos + (d + 1)) / ((base.length : Int) + 1)))) (stepC (char + (pos + (d + 1)) / ((base.length : Int) + 1))) ((pos + (d + 1)) % ((base.length : Int) + 1)) ds
/-- no code point too great -/
def noOv : List Nat → Int → Int → List Int → Prop
  | _, _, _, [] => True
  | base, char, pos, d :: ds => char + (pos + (d + 1)) / ((base.length : Int) + 1) ≤ 1114111 ∧
    noOv (putN base ((pos + (d + 1)) % ((base.length : Int) + 1)) (char + (pos + (d + 1)) / ((base.length : Int) + 1))) (char + (pos + (d + 1)) / ((base.length : Int) + 1)) ((pos + (d + 1)) % ((base.length : Int) + 1)) ds
theorem stepC_id {c : Int} (h : c ≤ 1114111) : stepC c = c := by unfold stepC; rw [if_neg (by omega)]
theorem ggiD_pos (N bias j : Int) : 1 ≤ (ggiD N bias j).length := by rw [ggiD]; split <;> simp
theorem giD_dig (base : Int) : ∀ (ds : List Int) (p b : Int), (∀ d ∈ ds, 0 ≤ d) → ∀ x ∈ giD base p b ds, 0 ≤ x ∧ x < 36
  | [], _, _, _, x, h => nomatch h
  | d :: ds, p, b, hd, x, h => by
    simp only [giD, List.mem_append] at h
    rcases h with h | h
    · exact ggiD_dig (hd d List.mem_cons_self) x h
    · exact giD_dig base ds _ _ (fun y hy => hd y (List.mem_cons_of_mem _ hy)) x h
def strictL : List Nat := [115, 116, 114, 105, 99, 116]
end Mine

namespace Mine
/-! ## law 09 in numbers -/
theorem putN_mem {base : List Nat} {p c : Int} {a : Nat} (h : a ∈ putN base p c) : a ∈ base ∨ a = c.toNat := by
  unfold putN at h
  rcases List.mem_append.mp h with h | h
  · exact .inl (List.mem_of_mem_take h)
  · rcases List.mem_cons.mp h with h | h
    · exact .inr h
    · exact .inl (List.mem_of_mem_drop h)
theorem filterMap_if {α β : Type} (p : α → Bool) (f : α → β) : ∀ l : List α, (l.map fun a => if p a then some (f a) else none).filterMap id = (l.filter p).map f
  | [] => rfl
  | a :: l => by
    rw [List.map_cons, List.filter_cons]
    cases h : p a
    · simp [filterMap_if p f l]
    · simp [filterMap_if p f l]
end Mine

set_option maxRecDepth 100000
namespace Mine

/-! ## sorted -/

/-- the tree of questions, answered by c -/
def kRun {α : Type} (c : Nat → Nat → Bool) : KasT α → α
  | .ret a => a
  | .ask i j k => kRun c (k (c i j))
theorem kRun_bind {α β : Type} (c : Nat → Nat → Bool) (f : α → KasT β) : ∀ t : KasT α, kRun c (t.bind f) = kRun c (f (kRun c t))
  | .ret _ => rfl
  | .ask i j k => kRun_bind c f (k (c i j))
/-- all that is asked lies below n -/
def KIn {α : Type} (n : Nat) : KasT α → (α → Prop) → Prop
  | .ret a, P => P a
  | .ask i j k, P => i < n ∧ j < n ∧ ∀ b, KIn n (k b) P
theorem KIn.bind {α β : Type} {n : Nat} {P' : α → Prop} {P : β → Prop} {f : α → KasT β} : ∀ (t : KasT α), KIn n t P' → (∀ a, P' a → KIn n (f a) P) → KIn n (t.bind f) P
  | .ret a, h, hf => hf a h
  | .ask i j k, h, hf => ⟨h.1, h.2.1, fun b => KIn.bind (k b) (h.2.2 b) hf⟩
theorem KIn.run {α : Type} {n : Nat} {P : α → Prop} (c : Nat → Nat → Bool) : ∀ (t : KasT α), KIn n t P → P (kRun c t)
  | .ret a, h => h
  | .ask i j k, h => KIn.run c (k (c i j)) (h.2.2 _)
theorem KIn.wp {α : Type} {n : Nat} {P : α → Prop} {cmp : Nat → Nat → (Bool → Shared → Prop) → Shared → Prop} {c : Nat → Nat → Bool} {s : Shared} (hc : ∀ i j C, i < n → j < n → C (c i j) s → cmp i j C s) {Q : α → Shared → Prop} :
    ∀ (t : KasT α), KIn n t P → Q (kRun c t) s → t.kasWp cmp Q s
  | .ret a, _, h => h
  | .ask i j k, hk, h => hc i j _ hk.1 hk.2.1 (KIn.wp hc (k (c i j)) (hk.2.2 _) h)

def Ent (n : Nat) (p : Array Nat) : Prop := p.toList.Perm (List.range n)
theorem Ent.lt {n : Nat} {p : Array Nat} (h : Ent n p) : ∀ x, x ∈ p.toList → x < n := fun x hx => by simpa using h.mem_iff.mp hx
theorem Ent.at {n : Nat} {p : Array Nat} (h : Ent n p) (h0 : 0 < n) (i : Nat) : p.getD i 0 < n := by
  by_cases hi : i < p.size
  · have : p.getD i 0 = p[i] := by simp [Array.getD, hi]
    rw [this]; exact h.lt _ (by simp)
  · have : p.getD i 0 = 0 := by simp [Array.getD, hi]
    omega
theorem Ent.perm {n : Nat} {p q : Array Nat} (h : Ent n p) (hp : q.Perm p) : Ent n q := (Array.perm_iff_toList_perm.mp hp).trans h

section
variable {n : Nat}
theorem asc_in {p : Array Nat} (h : Ent n p) (h0 : 0 < n) : ∀ (f m : Nat), KIn n (kas_asc p f m) (fun _ => True)
  | 0, m => trivial
  | f + 1, m => ⟨h.at h0 _, h.at h0 _, fun b => by
    cases b
    · exact asc_in h h0 f (m + 1)
    · exact trivial⟩
theorem rev_ent {p : Array Nat} (h : Ent n p) (i j : Nat) : Ent n (kas_rev p i j) := h.perm (mirror_perm _ _ _ _)
theorem desc_in (h0 : 0 < n) : ∀ (f : Nat) (p : Array Nat) (m q : Nat), Ent n p → KIn n (kas_desc f p m q) (fun r => Ent n r.1)
  | 0, p, m, q, h => h
  | f + 1, p, m, q, h => ⟨h.at h0 _, h.at h0 _, fun b => by
    cases b
    · refine ⟨h.at h0 _, h.at h0 _, fun d => ?_⟩
      cases d
      · exact desc_in h0 f p (m + 1) (q + 1) h
      · exact h
    · show KIn n (if q > 0 then _ else _) _
      split
      · exact desc_in h0 f _ (m + 1) 0 (rev_ent h _ _)
      · exact desc_in h0 f p (m + 1) 0 h⟩
theorem tail3_in (h0 : 0 < n) {p : Array Nat} (h : Ent n p) (m r : Nat) : KIn n (kas_tail3 m r p) (fun x => Ent n x.2) :=
  KIn.bind _ (asc_in (rev_ent h _ _) h0 _ _) fun _ _ => rev_ent h _ _
theorem descPart_in (h0 : 0 < n) {p : Array Nat} (h : Ent n p) (m r : Nat) : KIn n (kas_descPart m r p) (fun x => Ent n x.2) := by
  refine KIn.bind _ (desc_in h0 _ p _ _ h) fun x hx => ?_
  split
  · exact tail3_in h0 (rev_ent hx _ _) _ _
  · exact tail3_in h0 hx _ _
theorem count_in (h0 : 0 < n) {p : Array Nat} (h : Ent n p) (r : Nat) : KIn n (kas_count r p) (fun x => Ent n x.2) := by
  refine KIn.bind _ (asc_in h h0 _ _) fun m _ => ?_
  split
  · exact h
  · split
    · refine ⟨h.at h0 _, h.at h0 _, fun b => ?_⟩
      cases b
      · exact descPart_in h0 (rev_ent h _ _) _ _
      · exact h
    · exact descPart_in h0 h _ _
theorem place_in (h0 : 0 < n) {p : Array Nat} (h : Ent n p) (k : Nat) : ∀ (f l r : Nat), KIn n (kas_place p k f l r) (fun _ => True)
  | 0, l, r => trivial
  | f + 1, l, r => by
    unfold kas_place
    split
    · trivial
    · refine ⟨h.at h0 _, h.at h0 _, fun b => ?_⟩
      cases b
      · exact place_in h0 h k f _ _
      · exact place_in h0 h k f _ _
theorem bin_in (h0 : 0 < n) : ∀ (f : Nat) (p : Array Nat) (k : Nat), Ent n p → KIn n (kas_bin f p k) (fun p' => Ent n p')
  | 0, p, k, h => h
  | f + 1, p, k, h => KIn.bind _ (place_in h0 h k _ _ _) fun l _ => bin_in h0 f _ _ (h.perm (bubble_perm _ _ _))
theorem sort_in (h0 : 0 < n) : KIn n (kas_sort n) (fun p => Ent n p) := by
  refine KIn.bind _ (count_in h0 (p := List.toArray (List.range n)) (List.Perm.refl _) n) fun x hx => ?_
  split
  · exact bin_in h0 _ _ _ hx
  · exact hx
end

/-- the order in which the items come out -/
def sortP (n : Nat) (c : Nat → Nat → Bool) : List Nat := if n < 2 then List.range n else (kRun c (kas_sort n)).toList
theorem sortP_perm {n : Nat} {c : Nat → Nat → Bool} : (sortP n c).Perm (List.range n) := by
  unfold sortP
  split
  · exact List.Perm.refl _
  · exact KIn.run c _ (sort_in (n := n) (by omega))
theorem sortP_lt {n : Nat} {c : Nat → Nat → Bool} : ∀ i ∈ sortP n c, i < n := fun i hi => by simpa using sortP_perm.mem_iff.mp hi

theorem sortP_few (vs : List Value) (c : Nat → Nat → Bool) (h : vs.length < 2) : ((vs.toArray.zip vs.toArray).map (·.2)) = List.toArray ((sortP vs.length c).map fun i => vs.getD i Value.none) := by
  unfold sortP
  rw [if_pos h]
  match vs with
  | [] => simp
  | [v] => simp [List.range_succ]
  | _ :: _ :: _ => exact absurd h (by simp)
section
variable {prog : Program} {w : World} {A : Around} {E : Value → Shared → Prop} {s : Shared}
theorem list_sortP {a : Addr} {vs : List Value} {n : Nat} {κ : SortKind} {c : Nat → Nat → Bool} {P : PySem.Fin → Shared → Prop} (ho : s.heap.get? a = some (seqObj "list" vs.toArray n)) (h64 : vs.length < 64)
    (hk : 2 ≤ vs.length → ∀ h' : Heap, (∀ b o, b ≠ a → s.heap.get? b = some o → h'.get? b = some o) → ∀ Q : SortKind → Shared → Prop, Q κ { s with heap := h' } → wpAny (model prog w) A (keyKind' vs.toArray) Q (fun _ _ => False) { s with heap := h' })
    (hc : ∀ h' : Heap, (∀ b o, b ≠ a → s.heap.get? b = some o → h'.get? b = some o) → ∀ i j C, i < vs.length → j < vs.length → C (c i j) { s with heap := h' } → kas_ask prog w A κ vs i j C { s with heap := h' })
    (hP : ∀ h' e, (∀ b o, b ≠ a → s.heap.get? b = some o → h'.get? b = some o) → h'.get? a = some (seqObj "list" (List.toArray ((sortP vs.length c).map fun i => vs.getD i Value.none)) e) → P (.done (.ret .none)) { s with heap := h' }) :
    wpAny (model prog w) A (Builtin.«list.sort» ⟨[.ref a], []⟩) P E s := by
  have ha : a < s.heap.objs.size := Heap.lt_size ho
  have s1 := Heap.SameBut.update s.heap a (Obj.mapSeq fun _ => (#[] : Array Value))
  obtain ⟨e1, ho1⟩ : ∃ e1, (s.heap.update a (Obj.mapSeq fun _ => (#[] : Array Value))).get? a = some (seqObj "list" #[] e1) := ⟨_, get?_update_seq ho fun _ => #[]⟩
  generalize hH : ((s.heap.update a (Obj.mapSeq fun _ => (#[] : Array Value))).push (seqObj "tuple" vs.toArray 0)).push (seqObj "list" #[] 0) = H
  have hkeep : ∀ b o, b ≠ a → s.heap.get? b = some o → H.get? b = some o := fun b o hb e => by
    subst hH
    exact Heap.get?_push_of_some _ (Heap.get?_push_of_some _ ((s1.2 b hb).trans e))
  have hoH : H.get? a = some (seqObj "list" #[] e1) := by
    subst hH
    exact Heap.get?_push_of_some _ (Heap.get?_push_of_some _ ho1)
  have fin : ∀ (h' : Heap) (out : Array Value), h' = H.update a (Obj.mapSeq fun _ => out) → out = List.toArray ((sortP vs.length c).map fun i => vs.getD i Value.none) → P (.done (.ret .none)) { s with heap := h' } := by
    rintro h' out rfl rfl
    have s2 := Heap.SameBut.update H a (Obj.mapSeq fun _ => List.toArray ((sortP vs.length c).map fun i => vs.getD i Value.none))
    exact hP _ _ (fun b o hb e => (s2.2 b hb).trans (hkeep b o hb e)) (get?_update_seq hoH fun _ => _)
  rw [list_sort_plain]
  refine wpAny_bind (listItems_at ho rfl ?_)
  refine wpAny_bind (listUpdate_at ho rfl ?_ (by rw [List.size_toArray, sizeLine_eq]; omega) (Nat.zero_le _))
  refine wpAny_bind (seqEpoch_at ho1 rfl ?_)
  refine wpAny_bind (wpAny_newTuple ?_ (by show vs.length ≤ _; rw [sizeLine_eq]; omega))
  refine wpAny_bind (wpAny_newList ?_ (Nat.zero_le _))
  refine wpAny_holding ?_
  show wpAny (model prog w) A _ P E { s with heap := ((s.heap.update a (Obj.mapSeq fun _ => (#[] : Array Value))).push (seqObj "tuple" vs.toArray 0)).push (seqObj "list" #[] 0) }
  rw [hH]
  dsimp only
  by_cases h2 : vs.toArray.size < 2
  · rw [if_pos h2, if_pos h2]
    have h2' : vs.length < 2 := by simpa using h2
    refine wpAny_bind (wpAny_pure ?_)
    rw [StateT.run_pure]
    refine wpAny_bind (wpAny_pure ?_)
    dsimp only
    refine wpAny_bind (seqEpoch_at hoH rfl ?_)
    refine wpAny_bind (listUpdate_at hoH rfl ?_ (Nat.zero_le _) (by rw [Array.size_map]; show (pairsOf vs).size ≤ _; rw [pairsOf_size, sizeLine_eq]; omega))
    simp only [bne_self_eq_false, Bool.false_eq_true, if_false]
    refine wpAny_pure (fin _ _ rfl ?_)
    exact sortP_few vs c h2'
  · rw [if_neg h2, if_neg h2]
    have h2' : 2 ≤ vs.length := by simp at h2; omega
    refine wpAny_bind (hk h2' H hkeep _ ?_ |> fun h => wpAny_mono h (fun _ _ x => x) fun _ _ x => x.elim)
    refine wpAny_bind (wpAny_mono (kat_run (ks := vs) (G := fun p s' => s' = { s with heap := H } ∧ p = kRun c (kas_sort vs.length)) (Q := fun st' s' => s' = { s with heap := H } ∧ (arrOf st').size = vs.length ∧ failedOf st' = none ∧ arrOf st' = (kRun c (kas_sort vs.length)).map (kas_item (vs.toArray.zip vs.toArray)))
      rfl h2' h64 (fun p st' s' a1 a2 a3 a4 => ⟨a4.1, by rw [a2, Array.size_map, a1], a3, by rw [a2, a4.2]⟩) (KIn.wp (n := vs.length) (c := c) (hc H hkeep) _ (sort_in (by omega)) ⟨rfl, rfl⟩)) ?_ fun _ _ e => e)
    rintro ⟨⟨⟩, st'⟩ s' ⟨rfl, hsz, hf, har⟩
    dsimp only
    have hout := kat_snds rfl har
    have hsp : (sortP vs.length c) = (kRun c (kas_sort vs.length)).toList := by unfold sortP; rw [if_neg (by omega)]
    rw [← hsp] at hout
    have hlen : (arrOf st').size ≤ sizeLine + 1 := by
      rw [sizeLine_eq, hsz]; omega
    refine wpAny_bind (seqEpoch_at hoH rfl ?_)
    refine wpAny_bind (listUpdate_at hoH rfl ?_ (Nat.zero_le _) (by rw [Array.size_map]; exact hlen))
    rw [hf]
    simp only [bne_self_eq_false, Bool.false_eq_true, if_false]
    exact wpAny_pure (fin _ _ rfl hout)
end

section
variable {prog : Program} {w : World} {A : Around} {E : Value → Shared → Prop} {s : Shared}
theorem call_sortedP {l : Addr} {vs : List Value} {κ : SortKind} {c : Nat → Nat → Bool} {Q : Value → Shared → Prop} (hl : s.heap.IsList l vs.toArray) (h64 : vs.length < 64)
    (hk : 2 ≤ vs.length → ∀ h' : Heap, Kp s.heap h' → ∀ Q : SortKind → Shared → Prop, Q κ { s with heap := h' } → wpAny (model prog w) A.in1.in1 (keyKind' vs.toArray) Q (fun _ _ => False) { s with heap := h' })
    (hc : ∀ h' : Heap, Kp s.heap h' → ∀ i j C, i < vs.length → j < vs.length → C (c i j) { s with heap := h' } → kas_ask prog w A.in1.in1 κ vs i j C { s with heap := h' })
    (hQ : ∀ a h' e, Kp s.heap h' → s.heap.get? a = none → h'.get? a = some (seqObj "list" (List.toArray ((sortP vs.length c).map fun i => vs.getD i Value.none)) e) → Q (.ref a) { s with heap := h' }) :
    wpAny (model prog w) A (call (.builtin "sorted") [.ref l]) Q E s := by
  refine Calls.call_function_entry kind_sorted plain_sorted entry_sorted (args_sorted1 _) ?_
  unfold Builtin.«sorted»
  refine wpAny_bind (m := checkCount "sorted" 1 1 _) (wpAny_pure ?_)
  refine wpAny_bind (collect_list hl ?_ (by rw [sizeLine_eq]; omega))
  refine wpAny_bind (wpAny_newList ?_ (by rw [sizeLine_eq]; omega))
  have hsz : ((s.heap.push (seqObj "list" #[] 0)).update s.heap.objs.size (Obj.mapSeq (· ++ vs.toArray))).objs.size = s.heap.objs.size + 1 := by
    rw [Heap.size_update, size_push']
  have hoL : (((s.heap.push (seqObj "list" #[] 0)).update s.heap.objs.size (Obj.mapSeq (· ++ vs.toArray))).push (seqObj "list" vs.toArray 0)).get? (s.heap.objs.size + 1) = some (seqObj "list" vs.toArray 0) := by
    rw [← hsz]; exact Heap.get?_push_size _ rfl
  have keep : Kp s.heap (((s.heap.push (seqObj "list" #[] 0)).update s.heap.objs.size (Obj.mapSeq (· ++ vs.toArray))).push (seqObj "list" vs.toArray 0)) := fun b o q => by
    have hlt : b < s.heap.objs.size := Heap.lt_size q
    rw [Heap.get?_push_ne _ _ _ (by rw [hsz]; exact Nat.ne_of_lt (Nat.lt_succ_of_lt hlt)), Heap.get?_update_ne _ _ _ _ (Nat.ne_of_lt hlt), Heap.get?_push_ne _ _ _ (Nat.ne_of_lt hlt)]
    exact q
  have hne : ∀ b o, s.heap.get? b = some o → b ≠ s.heap.objs.size + 1 := fun b o q => Nat.ne_of_lt (Nat.lt_succ_of_lt (Heap.lt_size q))
  show wpAny _ _ _ _ _ { s with heap := ((s.heap.push (seqObj "list" #[] 0)).update s.heap.objs.size (Obj.mapSeq (· ++ vs.toArray))).push (seqObj "list" vs.toArray 0) }
  rw [hsz]
  generalize ((s.heap.push (seqObj "list" #[] 0)).update s.heap.objs.size (Obj.mapSeq (· ++ vs.toArray))).push (seqObj "list" vs.toArray 0) = H at keep hoL
  refine wpAny_bind (wpAny_holding (wpAny_call_entry slot_list_sort ⟨_, hoL, rfl⟩ entry_list_sort (list_sortP (s := { s with heap := H }) (κ := κ) (c := c) hoL h64 (fun h2 h' kk => hk h2 h' fun b o e => kk b o (hne b o e) (keep b o e)) (fun h' kk => hc h' fun b o e => kk b o (hne b o e) (keep b o e)) fun h' e kk ho => ⟨_, rfl, ?_⟩) (args_list_sort _)))
  refine wpAny_pure ⟨_, rfl, hQ _ h' e (fun b o q => kk b o (hne b o q) (keep b o q)) ?_ ho⟩
  cases q : s.heap.get? (s.heap.objs.size + 1) with
  | none => rfl
  | some o => exact absurd (Heap.lt_size q) (Nat.not_lt.mpr (Nat.le_succ _))
end

theorem Vs.pick {D : Addr → Prop} {h : Heap} {xs : List PV} {vs : List Value} (e : Vs D h xs vs) : ∀ (is : List Nat), (∀ i ∈ is, i < xs.length) → Vs D h (is.map fun i => xs.getD i .none) (is.map fun i => vs.getD i Value.none)
  | [], _ => Vs_nil.mpr rfl
  | i :: is, hi => by
    rw [List.map_cons, List.map_cons, Vs_cons]
    have hlt := hi i List.mem_cons_self
    have hx : xs[i]? = some (xs.getD i .none) := by simp [hlt]
    obtain ⟨v, e1, e2⟩ := e.get i hx
    refine ⟨v, _, ?_, e2, Vs.pick e is fun j hj => hi j (List.mem_cons_of_mem _ hj)⟩
    congr 1
    rw [List.getD_eq_getElem?_getD, e1]; rfl

/-- items whose order is known -/
structure SortOk (Γ : Cx) (xs : List PV) (c : Nat → Nat → Bool) : Prop where
  out : ∃ κ : SortKind, ∀ (A : Around) (n : Nat) (D : Addr → Prop) (s : Shared) (vs : List Value), n ≤ 8 → Lv n A → Kp Γ.B s.heap → Vs D s.heap xs vs → (∀ b, D b → (s.heap.get? b).isSome) →
    (2 ≤ vs.length → ∀ Q : SortKind → Shared → Prop, Q κ s → wpAny Γ.M A.in1.in1 (keyKind' vs.toArray) Q (fun _ _ => False) s) ∧
    ∀ i j C, i < vs.length → j < vs.length → C (c i j) s → kas_ask Γ.prog Γ.w A.in1.in1 κ vs i j C s
theorem CallN.sorted {Γ : Cx} {xs : List PV} {c : Nat → Nat → Bool} (hS : SortOk Γ xs c) (h64 : xs.length < 64) : CallN Γ (.builtin "sorted") [.lst xs] (.list ((sortP xs.length c).map fun i => xs.getD i .none)) := by
  intro A n D s vals Q E hn hA ok hB hvs hD hQ
  rw [Vs_cons] at hvs
  obtain ⟨v, r, rfl, hv, hr⟩ := hvs
  rw [Vs_nil] at hr; subst hr
  obtain ⟨l, items, rfl, _, hl, he⟩ := V_lst.mp hv
  obtain ⟨κ, hS⟩ := hS.out
  have hlen : items.toList.length = xs.length := he.length
  have hl' : s.heap.IsList l items.toList.toArray := by simpa using hl
  have key : ∀ h', Kp s.heap h' → _ := fun h' hk => hS A n D { s with heap := h' } items.toList hn hA (hB.trans hk) (he.grow hk) (fun b hb => hk.alive b (hD b hb))
  refine toR (call_sortedP (κ := κ) (c := c) hl' (by omega) (fun h2 h' hk => (key h' hk).1 h2) (fun h' hk => (key h' hk).2) fun a h' e hk ha ho => hQ a _ ⟨hk, rfl, rfl⟩ ha fun D' hD' => ⟨_, e, ho, ?_⟩)
  rw [hlen]
  have := he.pick (sortP xs.length c) (fun i hi => sortP_lt i hi)
  refine Vs.move (D := D) (h := s.heap) (fun b o hb _ => hk b o hb) (fun b o hb d => ?_) (by simpa using this)
  rcases hD' b d with d | d
  · exact d
  · subst d; rw [ha] at hb; cases hb
end Mine

set_option maxRecDepth 100000
namespace Mine

/-! ## plain data: ==, != -/
mutual
def pd : PV → PyData
  | .none => .none
  | .bool b => .bool b
  | .int i => .int i
  | .str l => .str ⟨l.toArray⟩
  | .tup xs => .tuple (pds xs)
  | .lst xs => .list (pds xs)
  | _ => .none
def pds : List PV → List PyData
  | [] => []
  | x :: xs => pd x :: pds xs
end
def pok : Nat → PV → Bool
  | _, .none => true
  | _, .int _ => true
  | _, .str l => l.all (fun c => decide (c < 0x110000))
  | n + 1, .tup xs => xs.all (pok n)
  | n + 1, .lst xs => xs.all (pok n)
  | _, _ => false

theorem reads_all {D : Addr → Prop} {h : Heap} {n : Nat} (ih : ∀ p v, pok n p = true → V D h p v → ∃ as, Reads h v (pd p) as) : ∀ (ps : List PV) (vs : List Value), ps.all (pok n) = true → Vs D h ps vs → ∃ as, ReadsAll h vs (pds ps) as
  | [], vs, _, e => by rw [Vs_nil] at e; subst e; rw [pds]; exact ⟨_, ReadsAll.nil⟩
  | p :: ps, vs, hp, e => by
    rw [List.all_cons, Bool.and_eq_true] at hp
    rw [Vs_cons] at e
    obtain ⟨v, r, rfl, e1, e2⟩ := e
    obtain ⟨as, a1⟩ := ih p v hp.1 e1
    obtain ⟨bs, b1⟩ := reads_all ih ps r hp.2 e2
    rw [pds]
    exact ⟨_, ReadsAll.cons a1 b1⟩
theorem V.reads {D : Addr → Prop} {h : Heap} : ∀ (n : Nat) (p : PV) (v : Value), pok n p = true → V D h p v → ∃ as, Reads h v (pd p) as
  | n, .none, v, _, e => by rw [V_none] at e; subst e; rw [pd]; exact ⟨_, Reads.none⟩
  | n, .int i, v, _, e => by obtain ⟨t, rfl⟩ := V_int.mp e; rw [pd]; exact ⟨_, Reads.int _ _⟩
  | n, .str l, v, _, e => by obtain ⟨t, rfl⟩ := V_str.mp e; rw [pd]; exact ⟨_, Reads.str _ _⟩
  | n + 1, .tup xs, v, hp, e => by
    obtain ⟨a, items, rfl, ⟨o, ho, hc, m, hd⟩, e2⟩ := V_tup.mp e
    obtain ⟨as, r⟩ := reads_all (V.reads n) xs _ (by simpa [pok] using hp) e2
    rw [pd]
    exact ⟨_, Reads.tuple ho hc hd r⟩
  | n + 1, .lst xs, v, hp, e => by
    obtain ⟨a, items, rfl, _, ⟨o, ho, hc, m, hd⟩, e2⟩ := V_lst.mp e
    obtain ⟨as, r⟩ := reads_all (V.reads n) xs _ (by simpa [pok] using hp) e2
    rw [pd]
    exact ⟨_, Reads.list ho hc hd r⟩
  | 0, .tup _, v, hp, _ => by simp [pok] at hp
  | 0, .lst _, v, hp, _ => by simp [pok] at hp
  | n, .bool _, v, hp, _ => by cases n <;> simp [pok] at hp
  | n, .bytes _, v, hp, _ => by cases n <;> simp [pok] at hp
  | n, .obj _, v, hp, _ => by cases n <;> simp [pok] at hp
  | n, .ref _, v, hp, _ => by cases n <;> simp [pok] at hp
  | n, .rng _ _ _, v, hp, _ => by cases n <;> simp [pok] at hp
  | n, .lsn _, v, hp, _ => by cases n <;> simp [pok] at hp

theorem pd_lay : ∀ (n : Nat) (p : PV), pok n p = true → (pd p).canLay0 = true ∧ (pd p).depth ≤ n := by
  have all : ∀ (n : Nat), (∀ p, pok n p = true → (pd p).canLay0 = true ∧ (pd p).depth ≤ n) → ∀ ps : List PV, ps.all (pok n) = true → PyData.canLayAll0 (pds ps) = true ∧ PyData.depthAll (pds ps) ≤ n := by
    intro n ih ps
    induction ps with
    | nil => intro _; simp [pds, PyData.canLayAll0, PyData.depthAll]
    | cons p ps hi =>
      intro h
      rw [List.all_cons, Bool.and_eq_true] at h
      have h1 := ih p h.1
      have h2 := hi h.2
      simp only [pds, PyData.canLayAll0, PyData.depthAll, h1.1, h2.1, Bool.and_self, true_and]
      have a1 := h1.2
      have a2 := h2.2
      omega
  intro n
  induction n with
  | zero =>
    intro p h
    cases p with
    | str l => simp [pok] at h; simp [pd, PyData.canLay0, PyData.depth, PyData.strOk]; exact h
    | none => simp [pd, PyData.canLay0, PyData.depth]
    | int i => simp [pd, PyData.canLay0, PyData.depth]
    | _ => simp [pok] at h
  | succ n ih =>
    intro p h
    cases p with
    | str l => simp [pok] at h; simp [pd, PyData.canLay0, PyData.depth, PyData.strOk]; exact h
    | none => simp [pd, PyData.canLay0, PyData.depth]
    | int i => simp [pd, PyData.canLay0, PyData.depth]
    | tup xs =>
      have q := all n ih xs (by simpa [pok] using h)
      have q2 := q.2
      simp only [pd, PyData.canLay0, PyData.depth, q.1, true_and]
      omega
    | lst xs =>
      have q := all n ih xs (by simpa [pok] using h)
      have q2 := q.2
      simp only [pd, PyData.canLay0, PyData.depth, q.1, true_and]
      omega
    | _ => simp [pok] at h
theorem pd_shaped {n : Nat} {p : PV} (hn : n ≤ 64) (h : pok n p = true) : SeqAt.shaped (pd p) = true := by
  have := pd_lay n p h
  unfold SeqAt.shaped
  rw [this.1, Bool.true_and]
  exact decide_eq_true (by omega)

mutual
theorem eqv_self : ∀ (p : PV), PyData.eqv (pd p) (pd p) = true
  | .none => by simp [pd, PyData.eqv]
  | .bool b => by simp [pd, PyData.eqv]
  | .int i => by simp [pd, PyData.eqv]
  | .str l => by simp [pd, PyData.eqv]
  | .tup xs => by rw [pd, PyData.eqv]; exact eqvs_self xs
  | .lst xs => by rw [pd, PyData.eqv]; exact eqvs_self xs
  | .bytes _ => by simp [pd, PyData.eqv]
  | .obj _ => by simp [pd, PyData.eqv]
  | .ref _ => by simp [pd, PyData.eqv]
  | .rng _ _ _ => by simp [pd, PyData.eqv]
  | .lsn _ => by simp [pd, PyData.eqv]
theorem eqvs_self : ∀ (ps : List PV), PyData.eqvAll (pds ps) (pds ps) = true
  | [] => by simp [pds, PyData.eqvAll]
  | p :: ps => by rw [pds, PyData.eqvAll, eqv_self p, eqvs_self ps]; rfl
end
section
variable {Γ : Cx} {k : Nat}
theorem Op2.neD {p q : PV} (n : Nat) (hp : pok n p = true) (hq : pok n q = true) (hn : n ≤ 64 := by decide) : Op2 Γ (compareOp .NotEq) p q (.bool (!PyData.eqv (pd p) (pd q))) := by
  intro A m D s x y Q E hm hA _ _ hx hy _ hQ
  obtain ⟨as, r1⟩ := hx.reads n p x hp
  obtain ⟨bs, r2⟩ := hy.reads n q y hq
  exact ne_dataH r1 r2 (pd_shaped hn hp) (pd_shaped hn hq) (hA.room hm) (hQ _ _ (Gr.refl s) (V.bool _))
theorem Op2.neSelf {p : PV} (n : Nat) (hp : pok n p = true) (hn : n ≤ 64 := by decide) : Op2 Γ (compareOp .NotEq) p p (.bool false) := by
  have := Op2.neD (Γ := Γ) n hp hp hn; rwa [eqv_self] at this
/-! ## tuples -/
theorem Op2.itemT {xs : List PV} {i : Int} {r : PV} (h0 : 0 ≤ i) (hx : xs[i.toNat]? = some r) (hl : xs.length < 2 ^ 62) : Op2 Γ getItem (.tup xs) (.int i) r := by
  intro A n D s x y Q E _ _ _ _ hv hy _ hQ
  obtain ⟨a, items, rfl, h, hvs⟩ := V_tup.mp hv
  obtain ⟨t, rfl⟩ := V_int.mp hy
  obtain ⟨v, e1, e2⟩ := hvs.get _ hx
  have hlt : i.toNat < xs.length := (List.getElem?_eq_some_iff.mp hx).1
  have hlen : items.size = xs.length := by simpa using hvs.length
  refine PyProof.Rows.getItem_tuple h (by omega) (by omega) (j := i.toNat) ?_ (by simpa using e1) (hQ _ _ (Gr.refl _) e2)
  unfold seqIndex?
  rw [hlen]
  have hn : ¬ i < 0 := by omega
  have hl : i < xs.length := by omega
  simp [hn, hl, h0]
end

section
variable {Γ : Cx} {k : Nat} {sc cs : Scope} {σ σ₁ σ₂ σ₃ : Loc} {μ : Own} {pos : Pos}
theorem assignEach3 {t1 t2 t3 : Expr} {env : Env} (h1 : plainT t1 = true) (h2 : plainT t2 = true) (h3 : plainT t3 = true) : assignEach [t1, t2, t3] env = [(false, assign t1 env), (false, assign t2 env), (false, assign t3 env)] := by
  rw [assignEach1 h1, assignEach1 h2, assignEach1 h3]; rfl
theorem As.tuple3 {t1 t2 t3 : Expr} {kd : Nat} {v1 v2 v3 : PV} (h1 : As Γ k sc σ μ t1 v1 σ₁ cs) (h2 : As Γ k sc σ₁ μ t2 v2 σ₂ cs) (h3 : As Γ k sc σ₂ μ t3 v3 σ₃ cs) (p1 : plainT t1 = true := by rfl) (p2 : plainT t2 = true := by rfl) (p3 : plainT t3 = true := by rfl) : As Γ k sc σ μ (.Tuple [t1, t2, t3] kd pos) (.tup [v1, v2, v3]) σ₃ cs := by
  intro A n F h₀ s val Q E hn hA X hv hQ
  obtain ⟨a, items, rfl, hT, hvs⟩ := V_tup.mp hv
  rw [Vs_cons] at hvs
  obtain ⟨x1, r1, e1, hx1, hr1⟩ := hvs
  rw [Vs_cons] at hr1
  obtain ⟨x2, r2, e2, hx2, hr2⟩ := hr1
  rw [Vs_cons] at hr2
  obtain ⟨x3, r3, e3, hx3, hr3⟩ := hr2
  rw [Vs_nil] at hr3
  subst hr3; subst e3; subst e2
  have hi : items.size = 3 := by rw [← Array.length_toList, e1]; rfl
  refine wpAny_assign_Tuple hA.handled hT (by rw [assignEach3 p1 p2 p3, hi]; rfl) (by rw [assignEach3 p1 p2 p3]; rfl) fun h' hx => ?_
  rw [assignEach3 p1 p2 p3, e1]
  have g : Gr s { s with heap := h' } := ⟨fun b o e => hx b o (Nat.ne_of_lt (Heap.lt_size e)) e, rfl, rfl⟩
  show wpAny _ _ (holding [x2, x3] (assign t1 (F.env sc) x1) >>= fun _ => holding [x3] (assign t2 (F.env sc) x2) >>= fun _ => holding [] (assign t3 (F.env sc) x3) >>= fun _ => pure ()) _ _ _
  refine wpAny_bind (wpAny_holding (As.grown h1 hn hA X hx1 g fun s₂ X₂ sp₂ => ?_))
  refine wpAny_bind (wpAny_holding (h2 A n F h₀ s₂ x2 _ _ hn hA X₂ (X.step X₂ sp₂ hx2) fun s₃ X₃ sp₃ => ?_))
  refine wpAny_bind (wpAny_holding (h3 A n F h₀ s₃ x3 _ _ hn hA X₃ (X.step X₃ (sp₂.trans sp₃) hx3) fun s₄ X₄ sp₄ => wpAny_pure (hQ s₄ X₄ ((sp₂.trans sp₃).trans sp₄))))
end

/-! ## tuples of ints in order -/
def ltL : List Int → List Int → Bool
  | a :: as, b :: bs => if a == b then ltL as bs else decide (a < b)
  | _, _ => false
section
variable {prog : Program} {w : World} {A : Around} {s : Shared} {Q : Bool → Shared → Prop}
theorem lex_ints : ∀ {vs us : List Value} {as bs : List Int} (i : Nat), IntsAre vs as → IntsAre us bs → Q (ltL as bs) s → KatLex prog w A true false Q (vs.zip us) i s
  | _, _, _, _, i, .nil, .nil, h => kat_nil h
  | _, _, _, _, i, .nil, .cons _ _ _, h => kat_nil h
  | _, _, _, _, i, .cons _ _ _, .nil, h => kat_nil h
  | _, _, _, _, i, .cons (vs := vs) (ns := as) a t ha, .cons (vs := us) (ns := bs) b u hb, h => by
    rw [List.zip_cons_cons]
    refine kat_cons (wpAny_eqBool_int ?_)
    rw [ltL] at h
    cases e : (a == b) with
    | true =>
      rw [e] at h
      exact kat_yes (lex_ints (i + 1) ha hb (by simpa using h))
    | false =>
      rw [e] at h
      simp only [Bool.false_eq_true, if_false] at h
      refine kat_no ?_
      cases i with
      | zero => exact oneLt_int h
      | succ i => exact kat_one _ _ (PyProof.Rows.lt_int (s := s) h)
end
theorem Vs.tups {D : Addr → Prop} {h : Heap} : ∀ {ts : List (List Int)} {vs : List Value}, Vs D h (ts.map fun t => PV.tup (t.map .int)) vs → ∀ i, i < ts.length → ∃ a items o n, vs.getD i Value.none = .ref a ∧ h.get? a = some o ∧ o.cls = .type "tuple" ∧ o.data = .seq items n ∧ IntsAre items.toList (ts.getD i [])
  | [], vs, e, i, hi => by simp at hi
  | t :: ts, vs, e, i, hi => by
    rw [List.map_cons, Vs_cons] at e
    obtain ⟨v, r, rfl, e1, e2⟩ := e
    cases i with
    | zero =>
      obtain ⟨a, items, rfl, ⟨o, ho, hc, n, hd⟩, e3⟩ := V_tup.mp e1
      exact ⟨a, items, o, n, rfl, ho, hc, hd, by simpa using e3.ints⟩
    | succ i => simpa using Vs.tups e2 i (by simpa using hi)
theorem Vs.katTups {D : Addr → Prop} {h : Heap} : ∀ {ts : List (List Int)} {vs : List Value}, (∀ t ∈ ts, t ≠ []) → Vs D h (ts.map fun t => PV.tup (t.map .int)) vs → ∃ fs, KatTups h vs fs ∧ fs.length = vs.length ∧ ∀ f ∈ fs, ∃ i t, f = Value.int i t
  | [], vs, _, e => by
    rw [List.map_nil, Vs_nil] at e; subst e
    exact ⟨[], KatTups.nil, rfl, fun _ h => nomatch h⟩
  | t :: ts, vs, hne, e => by
    rw [List.map_cons, Vs_cons] at e
    obtain ⟨v, r, rfl, e1, e2⟩ := e
    obtain ⟨fs, k1, k2, k3⟩ := Vs.katTups (fun t ht => hne t (List.mem_cons_of_mem _ ht)) e2
    obtain ⟨a, items, rfl, ⟨o, ho, hc, n, hd⟩, e3⟩ := V_tup.mp e1
    obtain ⟨i, t', rfl⟩ : ∃ i t', t = i :: t' := by
      cases t with
      | nil => exact absurd rfl (hne [] List.mem_cons_self)
      | cons i t' => exact ⟨i, t', rfl⟩
    rw [List.map_cons, Vs_cons] at e3
    obtain ⟨f, r', e4, e5, _⟩ := e3
    obtain ⟨u, rfl⟩ := V_int.mp e5
    refine ⟨.int i u :: fs, KatTups.cons ho hc hd ?_ k1, by simp [k2], fun f hf => ?_⟩
    · have : items.toList[0]? = some (.int i u) := by rw [e4]; rfl
      simpa using this
    · rcases List.mem_cons.mp hf with rfl | hf
      · exact ⟨_, _, rfl⟩
      · exact k3 f hf
theorem SortOk.ints {Γ : Cx} {ts : List (List Int)} {m : Nat} (hm : ∀ t ∈ ts, t.length = m) (h0 : 0 < m) : SortOk Γ (ts.map fun t => PV.tup (t.map .int)) (fun i j => ltL (ts.getD i []) (ts.getD j [])) := by
  refine ⟨tuples' true, fun A n D s vs hn hA hB hvs hD => ⟨fun h2 Q hQ => ?_, fun i j C hi hj hC => ?_⟩⟩
  · obtain ⟨fs, k1, k2, k3⟩ := Vs.katTups (fun t ht q => by have := hm t ht; rw [q] at this; simp at this; omega) hvs
    refine kat_kind (T := .type "int") k1 (by omega) (fun f hf => ?_) rfl hQ
    obtain ⟨i, t, rfl⟩ := k3 f hf
    exact Looks.of_pure rfl
  · have hl := hvs.length
    rw [List.length_map] at hl
    obtain ⟨a, items, o, n1, e1, e2, e3, e4, e5⟩ := Vs.tups hvs i (by omega)
    obtain ⟨b, items', o', n2, f1, f2, f3, f4, f5⟩ := Vs.tups hvs j (by omega)
    unfold kas_ask
    rw [e1, f1]
    refine kat_lt e2 e4 f2 f4 ?_
    have g : ∀ (l : List (List Int)) (q : Nat), q < l.length → (∀ t ∈ l, t.length = m) → (l.getD q []).length = m := fun l q hq hl => by
      have : l.getD q [] = l[q] := by simp [hq]
      rw [this]; exact hl _ (by simp)
    have s1 : items.size = m := by have := e5.length; rw [g ts i (by omega) hm] at this; simpa using this
    have s2 : items'.size = m := by have := f5.length; rw [g ts j (by omega) hm] at this; simpa using this
    rw [s1, s2, show decide (m < m) = false from by simp]
    exact lex_ints 0 e5 f5 hC
end Mine

set_option maxRecDepth 100000
namespace Mine

section
variable {Γ : Cx} {k : Nat} {sc cs : Scope} {σ σf : Loc} {μ μ' μ₁ μ₂ : Own} {pos : Pos} {P : Fl → Loc → Own → Prop} {F : Fm} {h₀ : Heap} {s : Shared} {a : Addr} {o o' : PO}

/-! ## what is owned, in another order -/
theorem Dm_perm (h : μ.Perm μ') : Dm F μ = Dm F μ' := by
  funext b
  unfold Dm
  have : b ∈ μ.map (·.1) ↔ b ∈ μ'.map (·.1) := (h.map _).mem_iff
  rw [propext this]
theorem Sx.perm (h : μ.Perm μ') (X : Sx Γ h₀ sc F σ μ s cs) : Sx Γ h₀ sc F σ μ' s cs := by
  have e := Dm_perm (F := F) h
  exact ⟨⟨X.ok, X.base, by rw [← e]; exact X.ns, by rw [← e]; exact X.cel, fun a o hm => by rw [← e]; exact X.own a o (h.mem_iff.mpr hm), X.dal⟩, X.keep, X.baseh, X.newL, X.cells, X.cellsAll, X.cellsApart,
    fun b hb => X.ownNew b ((h.map _).mem_iff.mpr hb), X.dold, (h.map _).nodup_iff.mp X.apart⟩
theorem Sp.perm {s' : Shared} (h : μ.Perm μ') {μ'' : Own} (p : Sp F μ' μ'' s s') : Sp F μ μ'' s s' := by
  have e := Dm_perm (F := F) h
  exact ⟨fun b o hb h1 h2 h3 => p.keep b o hb h1 h2 (by rw [← e]; exact h3), p.alive, fun b hb d => by rw [e]; exact p.dom b hb d, p.gens, p.os⟩
theorem SpW.perm {s' : Shared} {wr : List Addr} (h : μ.Perm μ') {μ'' : Own} (p : SpW F wr μ' μ'' s s') : SpW F wr μ μ'' s s' := by
  have e := Dm_perm (F := F) h
  exact ⟨fun b o hw hb h1 h2 h3 => p.keep b o hw hb h1 h2 (by rw [← e]; exact h3), p.alive, fun b hw hb d => by rw [e]; exact p.dom b hw hb d, p.gens, p.os⟩
theorem Xs.perm {sts : List Stmt} (h : μ.Perm μ') (hx : Xs Γ k sc σ μ' sts P) : Xs Γ k sc σ μ sts P :=
  fun A n F h₀ s Q E hn hA X hQ => hx A n F h₀ s Q E hn hA (X.perm h) fun fl σ' μ'' f s' hP X' sp hf => hQ fl σ' μ'' f s' hP X' (sp.perm h) hf
theorem Fo.perm {target : Expr} {body orelse : List Stmt} {xs : List PV} (h : μ.Perm μ') (hx : Fo Γ k sc σ μ' target body orelse xs P) : Fo Γ k sc σ μ target body orelse xs P :=
  fun A n F h₀ s R it wr J hn hA X nd hI hnd hJ hw hR => hx A n F h₀ s R it wr J hn hA (X.perm h) nd hI hnd (by rw [← Dm_perm (F := F) h]; exact hJ) hw fun fl σ' μ'' f s' hP X' sp hf => hR fl σ' μ'' f s' hP X' (sp.perm h) hf

/-! ## an owned list in a value is done with -/
theorem Sx.freezeAt {x : Str} {xs : List PV} {v u : PV} (X : Sx Γ h₀ sc F σ (μ₁ ++ (a, .list xs) :: μ₂) s) (hx : σ.lookup x = some v)
    (hu : ∀ (D : Addr → Prop) (h : Heap) (val : Value), V D h (.lst xs) (.ref a) → V D h v val → V D h u val) : Sx Γ h₀ sc F ((x, u) :: σ) (μ₁ ++ μ₂) s := by
  have hv : V (Dm F (μ₁ ++ μ₂)) s.heap (.lst xs) (.ref a) := by
    obtain ⟨items, n, h, e⟩ := X.own a (.list xs) (by simp)
    exact V_lst.mpr ⟨a, items, rfl, X.notOwn, ⟨_, h, rfl, n, rfl⟩, e.less fun b _ _ d => Dm_less b d⟩
  refine X.drop.set (fun hl m hn hm => ?_) (fun hl => ?_)
  · obtain ⟨val, e1, e2⟩ := hm x _ hx hl
    exact ⟨_, e1, hu _ _ _ hv e2⟩
  · obtain ⟨c, val, e1, e2, e3⟩ := X.drop.cel x _ hx hl
    exact ⟨c, _, e1, e2, hu _ _ _ hv e3⟩
theorem Xs.freezeAt {x : Str} {xs : List PV} {v : PV} {sts : List Stmt} (u : PV) (hx : σ.lookup x = some v)
    (hu : ∀ (D : Addr → Prop) (h : Heap) (val : Value), V D h (.lst xs) (.ref a) → V D h v val → V D h u val) (h : Xs Γ k sc ((x, u) :: σ) (μ₁ ++ μ₂) sts P) : Xs Γ k sc σ (μ₁ ++ (a, .list xs) :: μ₂) sts P :=
  fun A n F h₀ s Q E hn hA X hQ => h A n F h₀ s Q E hn hA (X.freezeAt hx hu) fun fl σ' μ' f s' hP X' sp hf => hQ fl σ' μ' f s' hP X' (Sp.drop.trans sp) hf
theorem V.into {D : Addr → Prop} {h : Heap} {val : Value} {ps qs : List PV} {p q : PV} (hpq : ∀ v, V D h p v → V D h q v) (e : V D h (.lst (ps ++ p :: qs)) val) : V D h (.lst (ps ++ q :: qs)) val := by
  obtain ⟨l, items, rfl, h1, h2, h3⟩ := V_lst.mp e
  refine V_lst.mpr ⟨l, items, rfl, h1, h2, ?_⟩
  generalize items.toList = vs at h3
  clear e h2
  induction ps generalizing vs with
  | nil =>
    rw [List.nil_append, Vs_cons] at *
    obtain ⟨v, r, e1, e2, e3⟩ := h3
    exact ⟨v, r, e1, hpq v e2, e3⟩
  | cons x ps ih =>
    rw [List.cons_append, Vs_cons] at *
    obtain ⟨v, r, e1, e2, e3⟩ := h3
    exact ⟨v, r, e1, e2, ih r e3⟩

/-! ## many new objects come under the frame -/
theorem Sx.ownMany {s' : Shared} {nw : Own} (X : Sx Γ h₀ sc F σ μ s cs) (g : Gr s s') (ha : ∀ p ∈ nw, s.heap.get? p.1 = none) (hnd : (nw.map (·.1)).Nodup) (ho : ∀ p ∈ nw, POat (Dm F (nw ++ μ)) s'.heap p.1 p.2) :
    Sx Γ h₀ sc F σ (nw ++ μ) s' cs ∧ Sp F μ (nw ++ μ) s s' := by
  have hnone : ∀ b, b ∈ nw.map (·.1) → s.heap.get? b = none := fun b hb => by
    obtain ⟨p, hp, rfl⟩ := List.mem_map.mp hb
    exact ha p hp
  have hD : ∀ b o', s.heap.get? b = some o' → Dm F (nw ++ μ) b → Dm F μ b := by
    intro b o' hb d
    rcases d with d | d
    · exact .inl d
    · rw [List.map_append, List.mem_append] at d
      rcases d with d | d
      · rw [hnone b d] at hb; cases hb
      · exact .inr d
  have hv : ∀ {x v}, V (Dm F μ) s.heap x v → V (Dm F (nw ++ μ)) s'.heap x v := fun e => e.move (fun b o hb _ => g.keep b o hb) hD
  have hvs : ∀ {x v}, Vs (Dm F μ) s.heap x v → Vs (Dm F (nw ++ μ)) s'.heap x v := fun e => e.move (fun b o hb _ => g.keep b o hb) hD
  refine ⟨⟨⟨X.ok, X.base.trans g.keep, ?_, fun x v p q => ?_, fun b q hm => ?_, fun b hb => g.keep.alive b (X.dal b hb)⟩, X.keep.trans g.keep, X.baseh, X.newL, fun y e => let ⟨c, v, p, q, d⟩ := X.cells y e; ⟨c, v, p, q, d.keeps g.keep⟩,
    fun y c e => let ⟨v, d⟩ := X.cellsAll y c e; ⟨v, d.keeps g.keep⟩, X.cellsApart, fun b hb => ?_, X.dold, ?_⟩, fun b o' e _ _ _ => g.keep b o' e, fun b e => g.keep.alive b e, fun b e d => ?_, g.gens, g.os⟩
  · obtain ⟨m, hn, hm⟩ := X.ns
    exact ⟨m, hn.keeps g.keep, fun x v p q => let ⟨val, e1, e2⟩ := hm x v p q; ⟨val, e1, hv e2⟩⟩
  · obtain ⟨c, val, e1, e2, e3⟩ := X.cel x v p q
    exact ⟨c, val, e1, e2.keeps g.keep, hv e3⟩
  · rcases List.mem_append.mp hm with hm | hm
    · exact ho _ hm
    · have := X.own b q hm
      cases q with
      | list xs => obtain ⟨items, n, ho, e⟩ := this; exact ⟨items, n, g.keep _ _ ho, hvs e⟩
      | barr l => exact g.keep _ _ this
  · rw [List.map_append, List.mem_append] at hb
    rcases hb with hb | hb
    · cases q : h₀.get? b with
      | none => rfl
      | some o' => have := X.keep b o' q; rw [hnone b hb] at this; cases this
    · exact X.ownNew b hb
  · rw [List.map_append, List.nodup_append]
    refine ⟨hnd, X.apart, fun x hx y hy q => ?_⟩
    subst q
    have := X.toSt.dom x (.inr hy)
    rw [hnone x hx] at this; cases this
  · obtain ⟨o', ho'⟩ := Option.isSome_iff_exists.mp e
    exact hD b o' ho' d

/-- a fresh list of fresh lists -/
structure NewsAt (F : Fm) (μ : Own) (s s' : Shared) (acc : Addr) (nw : Own) : Prop where
  gr : Gr s s'
  acc0 : s.heap.get? acc = none
  new : ∀ p ∈ nw, s.heap.get? p.1 = none
  nodup : (acc :: nw.map (·.1)).Nodup
  isl : ∃ items n, s'.heap.get? acc = some { cls := .type "list", data := .seq items n } ∧ items.toList = nw.map fun p => Value.ref p.1
  own : ∀ p ∈ nw, POat (Dm F (nw ++ μ)) s'.heap p.1 p.2
theorem Vs_refs {D : Addr → Prop} {h : Heap} : ∀ nw : Own, Vs D h (nw.map fun p => PV.ref p.1) (nw.map fun p => Value.ref p.1)
  | [] => Vs_nil.mpr rfl
  | p :: nw => Vs_cons.mpr ⟨_, _, rfl, V_ref.mpr rfl, Vs_refs nw⟩
theorem NewsAt.sx {s' : Shared} {acc : Addr} {nw : Own} (X : Sx Γ h₀ sc F σ μ s) (N : NewsAt F μ s s' acc nw) : Sx Γ h₀ sc F σ (nw ++ μ) s' ∧ Sp F μ (nw ++ μ) s s' ∧ V (Dm F (nw ++ μ)) s'.heap (.lst (nw.map fun p => .ref p.1)) (.ref acc) := by
  have nd := List.nodup_cons.mp N.nodup
  obtain ⟨X', sp⟩ := X.ownMany N.gr N.new nd.2 N.own
  refine ⟨X', sp, ?_⟩
  obtain ⟨items, n, h1, h2⟩ := N.isl
  refine V_lst.mpr ⟨acc, items, rfl, ?_, ⟨_, h1, rfl, n, rfl⟩, by rw [h2]; exact Vs_refs nw⟩
  rintro (d | d)
  · have := X.toSt.dom acc (.inl d); rw [N.acc0] at this; cases this
  · rw [List.map_append, List.mem_append] at d
    rcases d with d | d
    · exact nd.1 d
    · have := X.toSt.dom acc (.inr d); rw [N.acc0] at this; cases this

/-- x = [[..], [..]] -/
theorem X1.ownLists {x : Str} {p' lp : Pos} {e1 e2 : Expr} {o1 o2 : PO} (h1 : EvN Γ k sc σ μ e1 o1) (h2 : ∀ a, EvN Γ k sc σ ((a, o1) :: μ) e2 o2)
    (h : ∀ a b, P .next ((x, .lst [.ref a, .ref b]) :: σ) ([(a, o1), (b, o2)] ++ μ)) (hl : isPlace (sc.names.lookup x) = true := by decide +kernel) (hk : sc.kind = .function := by kernel_rfl)
    (e' : ∀ env, starEach (e1 :: [e2]) env = (false, eval e1 env) :: starEach [e2] env := by intro _; kernel_rfl) (e'' : ∀ env, starEach (e2 :: []) env = (false, eval e2 env) :: starEach [] env := by intro _; kernel_rfl)
    (hs : ∀ F : Fm, swapsWith (.List [e1, e2] lp) (some (.Name x p')) pos.line (F.env sc) = pure false := by intro _; kernel_rfl) : X1 Γ k sc σ μ (.Assign [.Name x p'] (.List [e1, e2] lp) pos) P := by
  intro A n F h₀ s Q E hn hA X hQ
  refine wpR_Assign_Name (wpR_List ?_) (hs F)
  refine wpR_items_cons (h1 A n F s _ _ hn hA X.toSt fun a s₁ g₁ ha ho => ?_) (e' _)
  obtain ⟨X₁, sp₁⟩ := X.own' g₁ ha ho
  refine wpR_items_cons (h2 a A n F s₁ _ _ hn hA X₁.toSt fun b s₂ g₂ hb hob => toR (wpAny_items_nil ?_)) (e'' _)
  refine ⟨by show 2 ≤ _; rw [sizeLine_eq]; decide, ?_⟩
  obtain ⟨X₂, sp₂⟩ := X₁.own' g₂ hb hob
  have hacc := fresh_addr s₂.heap
  have X₃ := X₂.grow (s' := { s₂ with heap := s₂.heap.push { cls := .type "list", data := .seq [Value.ref a, Value.ref b].toArray } }) (Gr.heap _ (Kp.push _ _))
  have hv : V (Dm F ((b, o2) :: (a, o1) :: μ)) (s₂.heap.push { cls := .type "list", data := .seq [Value.ref a, Value.ref b].toArray }) (.lst [.ref a, .ref b]) (.ref s₂.heap.objs.size) :=
    V.newList X₂.toSt.dom (Vs_cons.mpr ⟨_, _, rfl, V_ref.mpr rfl, Vs_cons.mpr ⟨_, _, rfl, V_ref.mpr rfl, Vs_nil.mpr rfl⟩⟩)
  have hp : ((b, o2) :: (a, o1) :: μ).Perm ([(a, o1), (b, o2)] ++ μ) := List.Perm.swap _ _ _
  have sp₃ : Sp F ((b, o2) :: (a, o1) :: μ) ((b, o2) :: (a, o1) :: μ) s₂ { s₂ with heap := s₂.heap.push { cls := .type "list", data := .seq [Value.ref a, Value.ref b].toArray } } := Sp.gr (Gr.heap _ (Kp.push _ _))
  have X₄ := X₃.perm hp
  rw [Dm_perm hp] at hv
  have sp₄ : Sp F μ ([(a, o1), (b, o2)] ++ μ) s { s₂ with heap := s₂.heap.push { cls := .type "list", data := .seq [Value.ref a, Value.ref b].toArray } } := by
    have sp := (sp₁.trans sp₂).trans sp₃
    exact ⟨sp.keep, sp.alive, fun b hb d => sp.dom b hb (by rw [Dm_perm hp]; exact d), sp.gens, sp.os⟩
  exact toR (X₄.store hv hl hk fun s₅ X₅ sp₅ _ => hQ .next _ _ _ s₅ (h a b) X₅ (sp₄.trans sp₅) rfl)

/-! ## owned lists that an expression names -/
theorem X1.methE {recv : Expr} {name : Str} {ap ep : Pos} {args : List Expr} {vs : List PV} {id : String} (hr : Ev Γ k sc σ (μ₁ ++ (a, o) :: μ₂) recv (.ref a)) (ha : Es Γ k sc σ (μ₁ ++ (a, o) :: μ₂) pos args vs) (hc : MethOk Γ id o vs o')
    (pa : PlainAttrs (POt o)) (slot : Slot (POt o) name id) (hty : typeOf (.builtin id) = pure (.type "method_descriptor")) (h : P .next σ (μ₁ ++ (a, o') :: μ₂))
    (hp : args.any isStarred = false := by kernel_rfl) (hn30 : args.length < 30 := by decide +kernel)
    (hbase : ∀ env, attributeBase recv name env (eval recv env) = eval recv env := by intro _; kernel_rfl)
    (hline : ∀ F : Fm, methodCallPos true recv (F.env sc) ap pos = pure pos := by intro _; kernel_rfl)
    (hi : ∀ F : Fm, interactive (F.env sc) = false := by intro _; kernel_rfl)
    (hs : ∀ F : Fm, swapsWith (.Call (.Attribute recv name ap) args [] pos) none ep.line (F.env sc) = pure false := by intro _; kernel_rfl) :
    X1 Γ k sc σ (μ₁ ++ (a, o) :: μ₂) (.Expr (.Call (.Attribute recv name ap) args [] pos) ep) P := by
  intro A n F h₀ s Q E hn hA X hQ
  rw [exec_Expr _ _ _ (hi F) (hs F)]
  refine wpR_bind (wpR_standAt (wpR_bind (wpR_Call_method (hbase _) (form_plain hp hn30) (hline F) pa slot hty ?_)))
  refine hr A n F s _ _ hn hA X.toSt fun ov s₁ g₁ hov => ?_
  rw [V_ref] at hov; subst hov
  have X₁ := X.grow g₁
  have ho₁ := X₁.own a o (by simp)
  refine ⟨(POat.typeIs ho₁).1, fun b e => by cases e; exact (POat.typeIs ho₁).2, ?_⟩
  refine wpR_callWith (P := fun h => Kp Γ.B h) (starEach_plain_any args hp) (KeepOk.builtin) ?_
  refine wpR_evalArgs hp (ha A n F s₁ _ _ hn hA X₁.toSt fun vals s₂ g₂ hvs => ?_)
  have X₂ := X₁.grow g₂
  refine ⟨X₂.base, ?_⟩
  show wpR _ _ (PySem.call (.builtin id) ([.ref a] ++ vals) []) _ E s₂
  refine hc A n _ s₂ a vals _ E (by omega) hA X.ok X₂.base (X₂.own a o (by simp)) (.inr (by simp)) hvs X₂.toSt.dom fun h' tk hs' ho' => ?_
  obtain ⟨X₃, sp₃⟩ := X₂.upd (tk := tk) hs' ho'
  exact toR (wpAny_dropValue (hQ .next σ _ _ _ h X₃ ((Sp.gr (g₁.trans g₂)).trans sp₃) rfl))
theorem Ev.lenOwnE {f : Str} {p : Pos} {e : Expr} {xs : List PV} (hf : Ev Γ k sc σ μ (.Name f p) (.obj (.builtin "len"))) (he : Ev Γ k sc σ μ e (.ref a)) (hm : (a, PO.list xs) ∈ μ) (hz : xs.length < 2 ^ 62)
    (hst : ∀ env, starEach [e] env = [(false, eval e env)] := by intro _; kernel_rfl) (hp : [e].any isStarred = false := by kernel_rfl) :
    Ev Γ k sc σ μ (.Call (.Name f p) [e] [] pos) (.int xs.length) := by
  intro A n F s Q E hn hA st hQ
  refine wpR_CallName (hf A n F s _ _ hn hA st fun fv s₁ g₁ hfv => ?_)
  rw [V_obj] at hfv; subst hfv
  refine wpR_callWith (P := fun h => Kp Γ.B h) (starEach_plain_any _ hp) KeepOk.builtin ?_
  refine wpR_evalArgs hp (Es.cons he Es.nil (fun env => by rw [hst env]; rfl) A n F s₁ _ _ hn hA (st.grow g₁) fun vals s₂ g₂ hvs => ?_)
  have st₂ := (st.grow g₁).grow g₂
  refine ⟨st₂.base, ?_⟩
  rw [Vs_cons] at hvs
  obtain ⟨v, r, rfl, hv, hr⟩ := hvs
  rw [Vs_nil] at hr; subst hr
  rw [V_ref] at hv; subst hv
  show wpR _ _ (PySem.call (.builtin "len") [.ref a] []) Q E s₂
  obtain ⟨items, m, ho, e⟩ := st₂.own a (.list xs) hm
  have hlen : items.size = xs.length := by simpa using e.length
  refine toR (PyProof.Rows.len_list ⟨_, ho, rfl, m, rfl⟩ (by omega) (hQ _ _ ((g₁.trans g₂).trans (Gr.toks _)) ?_))
  rw [hlen]; exact V.int _ _
theorem Ev.subOwnE {e slice : Expr} {xs : List PV} {i : Int} {r : PV} (he : Ev Γ k sc σ μ e (.ref a)) (hm : (a, PO.list xs) ∈ μ) (hi : Ev Γ k sc σ μ slice (.int i))
    (hr : (0 ≤ i ∧ xs[i.toNat]? = some r) ∨ (i < 0 ∧ -(xs.length : Int) ≤ i ∧ xs[(i + xs.length).toNat]? = some r)) (hz : xs.length < 2 ^ 62)
    (hs : ∀ o i, subscripted slice false o i = operate [o, i] (getItem o i) := by intro _ _; kernel_rfl) :
    Ev Γ k sc σ μ (.Subscript e slice pos) r := by
  intro A n F s Q E hn hA st hQ
  refine wpR_Subscript (he A n F s _ _ hn hA st fun o s₁ g₁ ho₁ => hi A n F s₁ _ _ hn hA (st.grow g₁) fun iv s₂ g₂ hi₂ => ?_)
  rw [V_ref] at ho₁; subst ho₁
  obtain ⟨t, rfl⟩ := V_int.mp hi₂
  have st₂ := (st.grow g₁).grow g₂
  obtain ⟨items, m, ho, e⟩ := st₂.own a (.list xs) hm
  have hlen : items.size = xs.length := by simpa using e.length
  have hL : s₂.heap.IsList a items := ⟨_, ho, rfl, m, rfl⟩
  refine toR (tail_any hL.typeIs slot_list_getitem.lookup ?_ (hs _ _))
  rcases hr with ⟨h0, hr⟩ | ⟨h0, h1, hr⟩
  · obtain ⟨v, e1, e2⟩ := e.get _ hr
    have hlt : i.toNat < xs.length := (List.getElem?_eq_some_iff.mp hr).1
    exact wpAny_getItem_list hL h0 (by omega) (by simpa using e1) (hQ _ _ (g₁.trans g₂) e2)
  · obtain ⟨v, e1, e2⟩ := e.get _ hr
    exact wpAny_getItem_list_neg hL h0 (by omega) (by omega) (by rw [hlen]; simpa using e1) (hQ _ _ (g₁.trans g₂) e2)
/-- e != [] -/
theorem Tr.neOwn0 {l r : Expr} {xs : List PV} (N : Nat) (he : Ev Γ k sc σ μ l (.ref a)) (hm : (a, PO.list xs) ∈ μ) (hr : Ev Γ k sc σ μ r (.lst [])) (hok : xs.all (pok N) = true) (hN : N + 1 ≤ 64 := by decide)
    (hb : behindInMarks .NotEq r = false := by kernel_rfl) : Tr Γ k sc σ μ (.Compare l [.NotEq] [r] pos) (!xs.isEmpty) := by
  intro A n F s Q E hn hA st hQ
  refine wpR_isTrue_Compare1 (he A n F s _ _ hn hA st fun x s₁ g₁ hx => ?_) hb
  refine hr A n F s₁ _ _ hn hA (st.grow g₁) fun y s₂ g₂ hy => ?_
  rw [V_ref] at hx; subst hx
  have st₂ := (st.grow g₁).grow g₂
  obtain ⟨items, m, ho, e⟩ := st₂.own a (.list xs) hm
  obtain ⟨as, r1⟩ := reads_all (V.reads N) xs _ hok e
  obtain ⟨bs, r2⟩ := hy.reads 1 (.lst []) y rfl
  have hp : pok (N + 1) (.lst xs) = true := by simpa [pok] using hok
  refine toR (ne_dataH (Reads.list ho rfl rfl r1) r2 (by have := pd_shaped hN hp; rwa [pd] at this) (pd_shaped (n := 1) (by decide) rfl) (hA.room (by omega)) ?_)
  have ee : PyData.eqv (.list (pds xs)) (pd (.lst [])) = xs.isEmpty := by
    rw [pd, pds, PyData.eqv]
    cases xs <;> simp [pds, PyData.eqvAll]
  rw [ee]
  exact toR (wpAny_truthy_bool (hQ s₂ (g₁.trans g₂)))
end
end Mine

set_option maxRecDepth 100000
namespace Mine

/-! ## a comprehension that makes new lists, with names in cells of its own -/
theorem cellsFrom_app : ∀ (names : List (Str × NameKind)) (n : Nat) (acc : List (Str × Addr)), cellsFrom n names acc = cellsFrom n names [] ++ acc
  | [], n, acc => rfl
  | (m, k) :: r, n, acc => by
    unfold cellsFrom
    split
    · rw [cellsFrom_app r (n + 1) ((m, n) :: acc), cellsFrom_app r (n + 1) [(m, n)]]; simp
    · exact cellsFrom_app r n acc
theorem cellsFrom_cell : ∀ (names : List (Str × NameKind)) (n : Nat) (x : Str) (c : Addr), (x, c) ∈ cellsFrom n names [] → (x, NameKind.cell) ∈ names
  | [], n, x, c, h => nomatch h
  | (m, k) :: r, n, x, c, h => by
    unfold cellsFrom at h
    split at h
    · rename_i hk
      rw [cellsFrom_app] at h
      rcases List.mem_append.mp h with h | h
      · exact List.mem_cons_of_mem _ (cellsFrom_cell r _ x c h)
      · rw [List.mem_singleton] at h
        cases h
        have hk' : k = .cell := by simpa using hk
        rw [hk']; exact List.mem_cons_self
    · exact List.mem_cons_of_mem _ (cellsFrom_cell r _ x c h)
section
variable {M : Model} {A : Around} {E : Value → Shared → Prop} {s : Shared}
theorem wpAny_compEnv {scope : Scope} {globals : Addr} {closure : List (Str × Addr)} {qual : Str} {outer : Env} {Q : Env → Shared → Prop}
    (hQ : Q { scope := scope, locals := s.heap.objs.size, globals := globals, cells := cellsFrom (s.heap.objs.size + 1) scope.names closure, qual := qual, func := none, code := outer.code, frame := outer.frame, builtins := outer.builtins }
      { s with heap := pushCells (s.heap.push { cls := .type "dict", data := .dict #[] }) scope.names }) :
    wpAny M A (newFunctionEnv scope globals closure [] qual none .none (some outer)) Q E s := by
  simp only [newFunctionEnv, Option.isSome_some, if_true]
  refine wpAny_bind (wpAny_alloc ?_)
  refine wpAny_bind (wpAny_layCells _ (fun name kind cells => by cases hkc : kind == NameKind.cell <;> simp [hkc]) _ _ _ _ ?_)
  rw [show ({ s with heap := s.heap.push { cls := .type "dict", data := .dict #[] } } : Shared).heap.objs.size = s.heap.objs.size + 1 from Heap.size_push ..]
  refine wpAny_bind ?_
  rw [List.forIn_nil]
  exact wpAny_pure (wpAny_pure hQ)
end

def cleanSc' (cs : Scope) : Bool := (cs.kind == .function) && decide ((cs.names.map (·.1)).Nodup)
theorem lookup_of_mem {α : Type} : ∀ {l : List (Str × α)} {x : Str} {v : α}, (l.map (·.1)).Nodup → (x, v) ∈ l → l.lookup x = some v
  | (y, w) :: r, x, v, hn, h => by
    rw [List.map_cons, List.nodup_cons] at hn
    rw [List.lookup_cons]
    rcases List.mem_cons.mp h with e | h
    · cases e; simp
    · have : x ≠ y := fun q => hn.1 (q ▸ List.mem_map.mpr ⟨_, h, rfl⟩)
      rw [beq_eq_false_iff_ne.mpr this]
      exact lookup_of_mem hn.2 h

section
variable {Γ : Cx} {k : Nat} {sc cs : Scope} {σ σf : Loc} {μ : Own} {pos : Pos}

def TurnN (Γ : Cx) (k : Nat) (sc cs : Scope) (σf : Loc) (target : Expr) (elt : Expr) (x : PV) (o : PO) : Prop :=
  ∃ σ₁, (∀ μ, As Γ k sc σf μ target x σ₁ cs) ∧ (∀ y v, σf.lookup y = some v → σ₁.lookup y = some v) ∧ ∀ μ, EvN Γ k sc σ₁ μ elt o

theorem comp_loopN {elt target iter : Expr} {A : Around} {n : Nat} {F : Fm} {h₁ : Heap} {acc it : Addr} {wr : List Addr} {J : (Addr → Prop) → List PV → Heap → Prop} {R : Result → Shared → Prop} {s₀ : Shared}
    (hn : n + k ≤ 8) (hA : Lv n A) (hI : Iter Γ A it wr J) (hw : ∀ b ∈ wr, h₁.get? b = none) : ∀ {xs : List PV} {os : List PO}, Paired (TurnN Γ k sc cs σf target elt) xs os → ∀ (nw : Own) (σ' : Loc) (s : Shared), nw.length + xs.length < 2 ^ 20 →
      Sx Γ h₁ sc F σ' (nw.reverse ++ [(acc, .list (nw.map fun p => .ref p.1))]) s cs → (∀ y v, σf.lookup y = some v → σ'.lookup y = some v) → J (Dm F (nw.reverse ++ [(acc, .list (nw.map fun p => .ref p.1))])) xs s.heap → s.gens = s₀.gens → s.os = s₀.os →
      (∀ σ'' s' (nw' : Own), nw'.map (·.2) = nw.map (·.2) ++ os → Sx Γ h₁ sc F σ'' (nw'.reverse ++ [(acc, .list (nw'.map fun p => .ref p.1))]) s' cs → s'.gens = s₀.gens → s'.os = s₀.os → R (.ok .next) s') →
      codeR Γ.M A (.compLoop (.ListComp elt [⟨target, iter, [], 0⟩] cs pos) 0 (.ref it) (.ref acc) (F.env sc)) R s := by
  intro xs os hp
  induction hp with
  | nil =>
    intro nw σ' s hz X hσ hJ hg ho hR
    refine codeR_compLoop1 (toR (wpAny_mono (hI.done _ s (fun s₁ => R (.ok .next) s₁) _ hJ fun h' tk hk => ?_) (fun r s₁ hr => ?_) fun _ _ e => e))
    · exact hR σ' _ nw (by simp) (X.wr (tk := tk) hk (hI.wrs _ _ _ hJ) hw) hg ho
    · obtain ⟨rfl, hr⟩ := hr; exact hr
  | @cons x o xs os ht _ ih =>
    intro nw σ' s hz X hσ hJ hg ho hR
    obtain ⟨σ₁, hAs, hsub, hev⟩ := ht
    have hz' : nw.length + (xs.length + 1) < 2 ^ 20 := hz
    refine codeR_compLoop1 (toR (wpAny_mono (hI.item _ x xs s target (fun v s₁ => wpR Γ.M A (assign target (F.env sc) v) (fun _ s₂ => wpR Γ.M A (compIfs [] (F.env sc)) (fun ok s₃ =>
            if ok = true then wpR Γ.M A (eval elt (F.env sc)) (fun x s₄ =>
              wpR Γ.M A (PySem.call (.builtin "list.append") [.ref acc, x]) (fun _ s₅ => codeR Γ.M A (.compLoop (.ListComp elt [⟨target, iter, [], 0⟩] cs pos) 0 (.ref it) (.ref acc) (F.env sc)) R s₅) (noted Γ.M A (F.env sc) fun e s' => R (.error e) s') s₄) (noted Γ.M A (F.env sc) fun e s' => R (.error e) s') s₃
            else codeR Γ.M A (.compLoop (.ListComp elt [⟨target, iter, [], 0⟩] cs pos) 0 (.ref it) (.ref acc) (F.env sc)) R s₃) (noted Γ.M A (F.env sc) fun e s' => R (.error e) s') s₂)
              (noted Γ.M A (F.env sc) fun e s' => R (.error e) s') s₁) _ hJ X.toSt.dom (fun q => nomatch q) fun v h' tk hv hJ' hk => ?_) (fun r s₁ hr => ?_) fun _ _ e => e))
    · have X' := (X.wr (tk := tk) hk (hI.wrs _ _ _ hJ) hw).less hσ
      refine toR (hAs _ A n F h₁ _ v _ _ hn hA X' hv fun s₂ X₂ sp₂ => ?_)
      refine wpR_pure ?_
      simp only [if_true]
      refine hev _ A n F s₂ _ _ hn hA X₂.toSt fun a s₄ g₄ ha hoa => ?_
      obtain ⟨X₄, sp₄⟩ := X₂.own' g₄ ha hoa
      have X₄' : Sx Γ h₁ sc F σ₁ ((nw ++ [(a, o)]).reverse ++ (acc, .list (nw.map fun p => .ref p.1)) :: []) s₄ cs := by simpa using X₄
      have hacc := X₄'.own acc (.list (nw.map fun p => .ref p.1)) (by simp)
      refine MethOk.list_append (Γ := Γ) (xs := nw.map fun p => .ref p.1) (v := .ref a) (by simp; omega) A n _ s₄ acc [.ref a] _ _ (by omega) hA X.ok X₄'.base hacc (.inr (by simp)) (Vs_cons.mpr ⟨_, [], rfl, V_ref.mpr rfl, Vs_nil.mpr rfl⟩) X₄'.toSt.dom fun h5 tk5 hs5 ho5 => ?_
      obtain ⟨X₅, sp₅⟩ := Sx.upd (o' := .list ((nw.map fun p => .ref p.1) ++ [.ref a])) (tk := tk5) X₄' hs5 ho5
      have sp₄' : Sp F (nw.reverse ++ [(acc, .list (nw.map fun p => .ref p.1))]) ((nw ++ [(a, o)]).reverse ++ (acc, .list (nw.map fun p => .ref p.1)) :: []) s₂ s₄ := by simpa using sp₄
      have sp₆ := (sp₂.trans sp₄').trans sp₅
      have hk6 := X'.hk X₅ sp₆
      have en : ((nw.map fun p => PV.ref p.1) ++ [PV.ref a]) = (nw ++ [(a, o)]).map fun p => PV.ref p.1 := by simp
      have X₆ := X₅
      rw [en] at X₆
      refine ih (nw ++ [(a, o)]) σ₁ _ (by simp; omega) X₆ hsub ?_ (sp₆.gens.trans hg) (sp₆.os.trans ho) fun σ'' s' nw' hnw Y => hR σ'' s' nw' (by rw [hnw]; simp) Y
      have := hI.move _ _ _ _ _ hk6 (fun b o hb d => sp₆.dom b (by rw [hb]; rfl) d) hJ'
      rw [en] at this
      exact this
    · cases r with
      | none => exact hr.elim
      | some v => exact toR (wpAny_mono hr (fun _ _ e => e) fun _ _ e => e)

theorem comp_startC {F : Fm} {s s₃ : Shared} {acc : Addr} {tk : Nat} (st : St Γ sc F σ μ s) (g : Gr s s₃) (hfo : freeOk sc cs σ = true) (hfi : freeIn cs σf = true) (hcl : cleanSc' cs = true) (hsub : Sub σ σf)
    (hacc0 : s.heap.get? acc = none) (hacc : s₃.heap.get? acc = some { cls := .type "list", data := .seq #[] }) :
    Sx Γ s.heap (inSc sc cs) ⟨s₃.heap.objs.size, cellsFrom (s₃.heap.objs.size + 1) cs.names (closL F.cl cs.names []), F.q, none, F.cd, F.fr, Dm F μ⟩ σf [(acc, .list [])] { s₃ with heap := pushCells (s₃.heap.push { cls := .type "dict", data := .dict #[] }) cs.names, toks := tk } cs := by
  have hnd : (cs.names.map (·.1)).Nodup := of_decide_eq_true ((Bool.and_eq_true _ _).mp hcl).2
  have hkeep3 : Kp s₃.heap (pushCells (s₃.heap.push { cls := .type "dict", data := .dict #[] }) cs.names) := fun b o e => pushCells_keeps _ _ b o (Heap.get?_push_of_some _ e)
  have hkeep : Kp s.heap (pushCells (s₃.heap.push { cls := .type "dict", data := .dict #[] }) cs.names) := g.keep.trans hkeep3
  have hns : (pushCells (s₃.heap.push { cls := .type "dict", data := .dict #[] }) cs.names).Ns s₃.heap.objs.size (fun _ => none) := (Heap.Ns.new s₃.heap (.type "dict")).keeps (pushCells_keeps _ _)
  have ok := cellsFrom_ok cs.names (s₃.heap.push { cls := .type "dict", data := .dict #[] }) (s₃.heap.objs.size + 1) [] ⟨fun _ _ hm => (nomatch hm), List.Pairwise.nil⟩ (by rw [Heap.size_push]; exact Nat.le_refl _)
  rw [Heap.size_push] at ok
  rw [cellsFrom_app]
  generalize hC : cellsFrom (s₃.heap.objs.size + 1) cs.names [] = C at ok
  generalize hH : pushCells (s₃.heap.push { cls := .type "dict", data := .dict #[] }) cs.names = H at *
  have hfresh : ∀ n c, (n, c) ∈ C → s.heap.get? c = none := fun n c hm => by
    cases q : s.heap.get? c with
    | none => rfl
    | some o =>
      have h1 := Heap.lt_size (g.keep _ _ q)
      have h2 := (ok.empty n c hm).2
      exact absurd h1 (Nat.not_lt.mpr (Nat.le_trans (Nat.le_succ _) h2))
  have hlookFree : ∀ x v, σf.lookup x = some v → cs.names.lookup x = some .free := by
    intro x v hx
    obtain ⟨p, hp, hpx⟩ := List.lookup_isSome_iff.mp (show (σf.lookup x).isSome from by rw [hx]; rfl)
    have h1 := beq_iff_eq.mp (List.all_eq_true.mp hfi p hp)
    rw [beq_iff_eq.mp hpx]; exact h1
  have hCnone : ∀ x, cs.names.lookup x = some .free → C.lookup x = none := fun x hx => by
    cases q : C.lookup x with
    | none => rfl
    | some c =>
      have hm := mem_of_lookup q
      rw [← hC] at hm
      have := lookup_of_mem hnd (cellsFrom_cell _ _ _ _ hm)
      rw [hx] at this; cases this
  have hclos : ∀ x c, (closL F.cl cs.names []).lookup x = some c → ∃ val, s.heap.IsCell c (some val) ∧ cs.names.lookup x = some .free ∧ F.cl.lookup x = some c := fun x c hx => by
    rcases closL_only F.cl cs.names [] x c hx with ⟨hm, hc⟩ | hc
    · obtain ⟨v', c', val, e1, e2, e3, e4⟩ := freeOk.at hfo st x hm
      rw [e2] at hc
      simp only [Option.getD_some] at hc
      subst hc
      exact ⟨_, e3, lookup_of_mem hnd hm, e2⟩
    · cases hc
  refine ⟨⟨st.ok, st.base.trans hkeep, ⟨_, hns, fun x v h1 h2 => ?_⟩, fun x v h1 h2 => ?_, fun b o hm => ?_, fun b hb => hkeep.alive b (st.dom b hb)⟩, hkeep, st.base, ?_, fun x hx => ?_, fun x c hx => ?_, fun x y c hx hxc hyc => ?_, fun b hb => ?_, fun b hb => st.dom b hb, ?_⟩
  · exfalso
    rw [lookup_inSc, hlookFree x v h1] at h2
    simp only [Option.map_some, Option.some.injEq] at h2
    split at h2 <;> cases h2
  · have hm : (x, NameKind.free) ∈ cs.names := mem_of_lookup (hlookFree x v h1)
    obtain ⟨v', c, val, e1, e2, e3, e4⟩ := freeOk.at hfo st x hm
    have hv' : v' = v := by have := hsub.to x v h1; rw [e1] at this; cases this; rfl
    subst hv'
    refine ⟨c, val, ?_, e3.keeps hkeep, ?_⟩
    · show (C ++ closL F.cl cs.names []).lookup x = some c
      rw [List.lookup_append, hCnone x (hlookFree x v' h1)]
      have := closL_has F.cl cs.names [] x (.inl hm); rw [e2] at this; exact this
    · refine e4.move (fun b o hb _ => hkeep b o hb) fun b o hb d => ?_
      rcases d with d | d
      · exact d
      · simp at d; subst d; rw [hacc0] at hb; cases hb
  · simp only [List.mem_singleton] at hm
    cases hm
    exact ⟨#[], _, hkeep3 _ _ hacc, by simp [Vs_nil]⟩
  · cases q : s.heap.get? s₃.heap.objs.size with
    | none => rfl
    | some o => have := g.keep _ _ q; rw [fresh_addr] at this; cases this
  · have hm := mem_of_lookup hx
    obtain ⟨c, hc⟩ := Option.isSome_iff_exists.mp (cellsFrom_has cs.names (s₃.heap.objs.size + 1) [] x (.inl hm))
    rw [hC] at hc
    have hmem := mem_of_lookup hc
    refine ⟨c, none, ?_, hfresh x c hmem, (ok.empty x c hmem).1⟩
    show (C ++ closL F.cl cs.names []).lookup x = some c
    rw [List.lookup_append, hc]; rfl
  · have hx' : (C ++ closL F.cl cs.names []).lookup x = some c := hx
    rw [List.lookup_append] at hx'
    cases q : C.lookup x with
    | some c' =>
      rw [q] at hx'
      simp at hx'
      subst hx'
      exact ⟨_, (ok.empty x c' (mem_of_lookup q)).1⟩
    | none =>
      rw [q] at hx'
      obtain ⟨val, e1, _⟩ := hclos x c (by simpa using hx')
      exact ⟨_, e1.keeps hkeep⟩
  · have hxc' : (C ++ closL F.cl cs.names []).lookup x = some c := hxc
    have hyc' : (C ++ closL F.cl cs.names []).lookup y = some c := hyc
    rw [List.lookup_append] at hxc' hyc'
    have hxC : C.lookup x = some c := by
      cases q : C.lookup x with
      | some c' => rw [q] at hxc'; simpa using hxc'
      | none =>
        rw [q] at hxc'
        obtain ⟨val, e1, e2, _⟩ := hclos x c (by simpa using hxc')
        rw [hx] at e2; cases e2
    cases q : C.lookup y with
    | some c' =>
      rw [q] at hyc'
      simp at hyc'
      subst hyc'
      exact name_of_addr ok.apart (mem_of_lookup q) (mem_of_lookup hxC)
    | none =>
      rw [q] at hyc'
      obtain ⟨val, ⟨o, e1, _⟩, _⟩ := hclos y c (by simpa using hyc')
      rw [hfresh x c (mem_of_lookup hxC)] at e1; cases e1
  · simp at hb; subst hb; exact hacc0
  · simp

theorem Vs_refs_inv {D : Addr → Prop} {h : Heap} : ∀ (nw : Own) (vs : List Value), Vs D h (nw.map fun p => PV.ref p.1) vs → vs = nw.map fun p => Value.ref p.1
  | [], vs, e => by rw [List.map_nil, Vs_nil] at e; exact e
  | p :: nw, vs, e => by
    rw [List.map_cons, Vs_cons] at e
    obtain ⟨v, r, rfl, e1, e2⟩ := e
    rw [V_ref] at e1; subst e1
    rw [Vs_refs_inv nw r e2]; rfl

theorem comp_runN {elt target iter : Expr} {cpos : Pos} {xs : List PV} {os : List PO} {p : PV} {use : Option (Value → Sem Unit)} {A : Around} {n : Nat} {F : Fm} {s : Shared} {Q : Value → Shared → Prop} {E : Value → Shared → Prop}
    (hit : Ev Γ k sc σ μ iter p) (hi : IterOk Γ p xs) (ht : Paired (TurnN Γ k (inSc sc cs) cs σf target elt) xs os) (hz : xs.length < 2 ^ 20) (hsub : Sub σ σf)
    (hfo : freeOk sc cs σ = true) (hfi : freeIn cs σf = true) (hcl : cleanSc' cs = true) (hs : ∀ env x, foldedSetIterable iter env x = pure x)
    (hn : n + k ≤ 8) (hA : Lv n A) (st : St Γ sc F σ μ s)
    (hQ : ∀ acc L s' m (nw : Own), nw.map (·.2) = os → NewsAt F μ s s' acc nw → s.heap.get? L = none → L ≠ acc → L ∉ nw.map (·.1) → s'.heap.Ns L m → compEnd Γ.M A E Q L (.ref acc) use s') :
    wpR Γ.M A (comprehension (.ListComp elt [⟨target, iter, [], 0⟩] cs pos) cs (F.env sc) cpos (newList []) false (eval iter (F.env sc)) use) Q E s := by
  have c1 : cs.kind = .function := beq_iff_eq.mp ((Bool.and_eq_true _ _).mp hcl).1
  have hndp : (cs.names.map (·.1)).Nodup := of_decide_eq_true ((Bool.and_eq_true _ _).mp hcl).2
  refine wpR_comprehension rfl (hs _) c1 (fun x hx hxf => ?_) (fun x hx hl => by obtain ⟨x1, x2⟩ := x; dsimp only at hl; subst hl; exact lookup_of_mem hndp hx) ((EvI.of hit hi) A n F s _ E hn hA st fun it wr J s₂ hI hJ g₂ hw => ?_)
  · obtain ⟨x1, x2⟩ := x
    simp only at hxf; subst hxf
    obtain ⟨v', c, val, e1, e2, e3, e4⟩ := freeOk.at hfo st x1 hx
    show (F.cl.lookup x1).isSome = true
    rw [e2]; rfl
  refine toR (wpAny_newObj_type ?_ (Nat.zero_le _))
  have g₃ : Gr s { s₂ with heap := s₂.heap.push { cls := .type "list", data := .seq #[] } } := g₂.trans (Gr.heap _ (Kp.push _ _))
  have hacc0 : s.heap.get? s₂.heap.objs.size = none := by
    cases q : s.heap.get? s₂.heap.objs.size with
    | none => rfl
    | some o => have := g₂.keep _ _ q; rw [fresh_addr] at this; cases this
  refine toR (wpAny_compEnv ?_)
  have X := comp_startC (tk := s₂.toks) (s₃ := { s₂ with heap := s₂.heap.push { cls := .type "list", data := .seq #[] } }) st g₃ hfo hfi hcl hsub hacc0 (Heap.get?_push_size _ rfl)
  have hkeep3 : Kp (s₂.heap.push { cls := .type "list", data := .seq #[] }) (pushCells ((s₂.heap.push { cls := .type "list", data := .seq #[] }).push { cls := .type "dict", data := .dict #[] }) cs.names) := fun b o e => pushCells_keeps _ _ b o (Heap.get?_push_of_some _ e)
  have hLacc : (s₂.heap.push { cls := .type "list", data := .seq #[] }).objs.size ≠ s₂.heap.objs.size := by rw [Heap.size_push]; exact Nat.succ_ne_self _
  generalize hF' : (⟨(s₂.heap.push { cls := .type "list", data := .seq #[] }).objs.size, cellsFrom ((s₂.heap.push { cls := .type "list", data := .seq #[] }).objs.size + 1) cs.names (closL F.cl cs.names []), F.q, none, F.cd, F.fr, Dm F μ⟩ : Fm) = F' at X
  have hF'D : F'.D = Dm F μ := by rw [← hF']
  have hF'L : F'.L = (s₂.heap.push { cls := .type "list", data := .seq #[] }).objs.size := by rw [← hF']
  have henv : ({ scope := inSc sc cs, locals := (s₂.heap.push { cls := .type "list", data := .seq #[] }).objs.size, globals := mainGlobals, cells := cellsFrom ((s₂.heap.push { cls := .type "list", data := .seq #[] }).objs.size + 1) cs.names (closL F.cl cs.names []), qual := F.q, func := none, code := F.cd, frame := F.fr, builtins := builtinsNs } : Env) = F'.env (inSc sc cs) := by
    rw [← hF']
  have hJ' : J (Dm F' [(s₂.heap.objs.size, .list [])]) xs (pushCells ((s₂.heap.push { cls := .type "list", data := .seq #[] }).push { cls := .type "dict", data := .dict #[] }) cs.names) :=
    hI.move _ _ _ _ _ (fun b o hb _ _ => hkeep3 b o (Kp.push _ _ b o hb)) (fun b o hb d => by
      rcases d with d | d
      · rw [hF'D] at d; exact d
      · simp at d; subst d; rw [fresh_addr] at hb; cases hb) hJ
  have fin : ∀ σ'' s' (nw : Own), nw.map (·.2) = os → Sx Γ s.heap (inSc sc cs) F' σ'' (nw.reverse ++ [(s₂.heap.objs.size, .list (nw.map fun p => .ref p.1))]) s' cs → s'.gens = s.gens → s'.os = s.os →
      compEnd Γ.M A E Q F'.L (.ref s₂.heap.objs.size) use s' := by
    intro σ'' s' nw hnw Y hg ho
    obtain ⟨m, hm, _⟩ := Y.ns
    have hperm : (s₂.heap.objs.size :: nw.map (·.1)).Perm ((nw.reverse ++ [(s₂.heap.objs.size, PO.list (nw.map fun p => .ref p.1))]).map (·.1)) := by
      rw [List.map_append, List.map_reverse]
      show (s₂.heap.objs.size :: nw.map (·.1)).Perm ((nw.map (·.1)).reverse ++ [s₂.heap.objs.size])
      exact (List.perm_append_singleton _ _).symm.trans ((List.reverse_perm _).symm.append_right _)
    refine hQ _ _ s' m nw hnw ⟨⟨Y.keep, hg, ho⟩, hacc0, fun p hp => Y.ownNew p.1 (hperm.mem_iff.mp (List.mem_cons_of_mem _ (List.mem_map.mpr ⟨p, hp, rfl⟩))), hperm.nodup_iff.mpr Y.apart, ?_, fun p hp => ?_⟩ Y.newL (by rw [hF'L]; exact hLacc) (fun hmem => ?_) hm
    · obtain ⟨items, nn, e1, e2⟩ := Y.own s₂.heap.objs.size (.list (nw.map fun p => .ref p.1)) (by simp)
      exact ⟨items, nn, e1, Vs_refs_inv nw _ e2⟩
    · have := Y.own p.1 p.2 (by simp [hp])
      have hless : ∀ b, Dm F (nw ++ μ) b → Dm F' (nw.reverse ++ [(s₂.heap.objs.size, .list (nw.map fun p => .ref p.1))]) b := fun b d => by
        rcases d with d | d
        · exact .inl (by rw [hF'D]; exact .inl d)
        · rw [List.map_append, List.mem_append] at d
          rcases d with d | d
          · exact .inr (hperm.mem_iff.mp (List.mem_cons_of_mem _ d))
          · exact .inl (by rw [hF'D]; exact .inr d)
      cases hq : p.2 with
      | list xs => rw [hq] at this; obtain ⟨items, nn, e1, e2⟩ := this; exact ⟨items, nn, e1, e2.less fun b _ _ d => hless b d⟩
      | barr l => rw [hq] at this; exact this
    · obtain ⟨p, hp, hpL⟩ := List.mem_map.mp hmem
      have := Y.own p.1 p.2 (by simp [hp])
      obtain ⟨oL, es, ep, hoL, hdL, _⟩ := hm
      rw [← hpL] at hoL
      cases hq : p.2 with
      | list xs => rw [hq] at this; obtain ⟨items, nn, e1, e2⟩ := this; rw [hoL] at e1; cases e1; cases hdL
      | barr l =>
        rw [hq] at this
        have e1 : s'.heap.get? p.1 = some { cls := .type "bytearray", data := .bytearray l.toArray } := this
        rw [hoL] at e1; cases e1; cases hdL
  have loop : ∀ s4 : Shared, s4 = { s₂ with heap := pushCells ((s₂.heap.push { cls := .type "list", data := .seq #[] }).push { cls := .type "dict", data := .dict #[] }) cs.names } → codeR Γ.M A (.compLoop (.ListComp elt [⟨target, iter, [], 0⟩] cs pos) 0 (.ref it) (.ref s₂.heap.objs.size) (F'.env (inSc sc cs)))
      (fun r s' => match r with | .ok _ => compEnd Γ.M A E Q F'.L (.ref s₂.heap.objs.size) use s' | .error x => False) s4 := by
    intro s4 e4
    subst e4
    exact comp_loopN (s₀ := s) (h₁ := s.heap) hn hA hI hw ht [] σf _ (by simpa using hz) X (fun _ _ e => e) hJ' g₂.gens g₂.os fun σ'' s' nw hnw Y hg ho => fin σ'' s' nw (by simpa using hnw) Y hg ho
  have hgoal := codeR_compStart (loop _ rfl) (toR (hI.self _ _ _ _ _ hJ' (loop _ rfl)))
  rw [← henv] at hgoal
  rw [hF'L] at hgoal
  exact hgoal

variable {P : Fl → Loc → Own → Prop}
/-- x = [[..] for ..] -/
theorem X1.ownCompN {x : Str} {p' cp : Pos} {elt target iter : Expr} {p : PV} {xs : List PV} {os : List PO}
    (hit : Ev Γ k sc σ μ iter p) (hi : IterOk Γ p xs) (ht : Paired (TurnN Γ k (inSc sc cs) cs σf target elt) xs os) (hz : xs.length < 2 ^ 20) (hsub : Sub σ σf)
    (h : ∀ nw : Own, nw.map (·.2) = os → P .next ((x, .lst (nw.map fun p => .ref p.1)) :: σ) (nw ++ μ))
    (hfo : freeOk sc cs σ = true := by kernel_rfl) (hfi : freeIn cs σf = true := by kernel_rfl) (hcl : cleanSc' cs = true := by decide +kernel) (hs : ∀ env x, foldedSetIterable iter env x = pure x := by intro _ _; kernel_rfl)
    (hl : isPlace (sc.names.lookup x) = true := by decide +kernel) (hk : sc.kind = .function := by kernel_rfl)
    (hsw : ∀ F : Fm, swapsWith (.ListComp elt [⟨target, iter, [], 0⟩] cs cp) (some (.Name x p')) pos.line (F.env sc) = pure true := by intro _; kernel_rfl) :
    X1 Γ k sc σ μ (.Assign [.Name x p'] (.ListComp elt [⟨target, iter, [], 0⟩] cs cp) pos) P := by
  intro A n F h₀ s Q E hn hA X hQ
  have e : exec (.Assign [.Name x p'] (.ListComp elt [⟨target, iter, [], 0⟩] cs cp) pos) (F.env sc) = (do
      standAt pos
      if ← swapsWith (.ListComp elt [⟨target, iter, [], 0⟩] cs cp) (some (.Name x p')) pos.line (F.env sc) then
        evalThenUse (.ListComp elt [⟨target, iter, [], 0⟩] cs cp) (F.env sc) (PySem.assign (.Name x p') (F.env sc))
        return .next
      let v ← eval (.ListComp elt [⟨target, iter, [], 0⟩] cs cp) (F.env sc)
      standAt p'
      bindName (F.env sc) x v
      pure .next) := rfl
  rw [e, hsw]
  refine wpR_bind (wpR_standAt (wpR_bind (wpR_pure ?_)))
  simp only [if_true]
  refine wpR_bind ?_
  rw [arm_evalThenUse_ListComp]
  refine wpR_bind (comp_runN (pos := cp) hit hi ht hz hsub hfo hfi hcl hs hn hA X.toSt fun acc L s' m nw hnw N hL hne hnotin hm => ?_)
  obtain ⟨X₁, sp₁, hv⟩ := NewsAt.sx X N
  obtain ⟨oL, es, ep, hoL, hdL, hrest⟩ := id hm
  have hLD : ¬ Dm F (nw ++ μ) L := by
    rintro (d | d)
    · have := X.toSt.dom L (.inl d); rw [hL] at this; cases this
    · rw [List.map_append, List.mem_append] at d
      rcases d with d | d
      · exact hnotin d
      · have := X.toSt.dom L (.inr d); rw [hL] at this; cases this
  have hLL : L ≠ F.L := fun q => by
    obtain ⟨m', ⟨o', _, _, ho', _⟩, _⟩ := X.ns
    rw [q, ho'] at hL; cases hL
  have hLc : ∀ y, F.cl.lookup y ≠ some L := fun y q => by
    obtain ⟨v, o', ho', _⟩ := X.cellsAll y L q
    rw [ho'] at hL; cases hL
  have hL0 : h₀.get? L = none := by
    cases q : h₀.get? L with
    | none => rfl
    | some o' => have := X.keep _ _ q; rw [hL] at this; cases this
  refine toR (wpAny_assign_Name (X₁.store hv hl hk fun s₂ X₂ sp₂ _ => ?_))
  have hoL2 := sp₂.keep L oL hoL hLL hLc hLD
  refine ⟨m, ⟨oL, es, ep, hoL2, hdL, hrest⟩, fun h' hs' => ?_⟩
  have X₃ := X₂.junk (tk := s₂.toks) hoL2 (by rw [hdL]; exact id) (by rw [hdL]; intro _ _ q; cases q) (by rw [hdL]; intro _ q; cases q) hLL hL0 hs'
  have sp := sp₁.trans sp₂
  have hbL : ∀ b, (s.heap.get? b).isSome → b ≠ L := fun b hb q => by rw [q, hL] at hb; cases hb
  refine wpR_pure (wpR_pure (hQ .next _ _ _ _ (h nw hnw) X₃ ⟨fun b o' e h1 h2 h3 => (hs'.2 b (hbL b (by rw [e]; rfl))).trans (sp.keep b o' e h1 h2 h3), fun b e => ?_, sp.dom, sp.gens, sp.os⟩ rfl))
  show (h'.get? b).isSome
  rw [hs'.2 b (hbL b e)]
  exact sp.alive b e
end
end Mine

set_option maxRecDepth 100000
namespace Mine
section
variable {Γ : Cx} {k : Nat} {sc cs : Scope} {σ σf : Loc} {μ : Own} {pos : Pos} {P : Fl → Loc → Own → Prop}
theorem Vs.atoms {D D' : Addr → Prop} {h h' : Heap} : ∀ {xs : List PV} {vs : List Value}, xs.all atom = true → Vs D h xs vs → Vs D' h' xs vs
  | [], vs, _, e => by rw [Vs_nil] at *; exact e
  | x :: xs, vs, hx, e => by
    rw [List.all_cons, Bool.and_eq_true] at hx
    rw [Vs_cons] at *
    obtain ⟨v, r, e1, e2, e3⟩ := e
    exact ⟨v, r, e1, e2.atom hx.1, Vs.atoms hx.2 e3⟩
/-- x = e, a new list of atoms, where lists that are owned are looked at as they stand -/
theorem X1.ownF {x : Str} {p' : Pos} {e : Expr} {ys : List PV} {σ' : Loc} {μ' : Own}
    (hfz : ∀ (F : Fm) (h₀ : Heap) (s : Shared), Sx Γ h₀ sc F σ μ s → Sx Γ h₀ sc F σ' μ' s) (hat : ys.all atom = true)
    (he : EvN Γ k sc σ' μ' e (.list ys)) (h : ∀ a, a ∉ μ.map (·.1) → P .next ((x, .ref a) :: σ) ((a, .list ys) :: μ)) (hl : isPlace (sc.names.lookup x) = true := by decide +kernel) (hk : sc.kind = .function := by kernel_rfl)
    (hs : ∀ F : Fm, swapsWith e (some (.Name x p')) pos.line (F.env sc) = pure false := by intro _; kernel_rfl) : X1 Γ k sc σ μ (.Assign [.Name x p'] e pos) P := by
  intro A n F h₀ s Q E hn hA X hQ
  refine wpR_Assign_Name (he A n F s _ _ hn hA (hfz F h₀ s X).toSt fun a s₁ g ha ho' => ?_) (hs F)
  have ho : POat (Dm F ((a, .list ys) :: μ)) s₁.heap a (.list ys) := by
    obtain ⟨items, nn, e1, e2⟩ := ho'
    exact ⟨items, nn, e1, e2.atoms hat⟩
  obtain ⟨X₁, sp₁⟩ := X.own' g ha ho
  have hnot : a ∉ μ.map (·.1) := fun d => by have := X.toSt.dom a (.inr d); rw [ha] at this; cases this
  exact toR (X₁.store (V_ref.mpr rfl) hl hk fun s₂ X₂ sp₂ _ => hQ .next _ _ _ s₂ (h a hnot) X₂ (sp₁.trans sp₂) rfl)
end
end Mine

set_option maxRecDepth 100000
namespace Mine

/-! ## the order that sorting gives -/

structure OrdC (n : Nat) (c : Nat → Nat → Bool) : Prop where
  irr : ∀ i, i < n → c i i = false
  trans : ∀ i j k, i < n → j < n → k < n → c i j = true → c j k = true → c i k = true
  tot : ∀ i j, i < n → j < n → i ≠ j → c i j = true ∨ c j i = true
theorem OrdC.flip {n : Nat} {c : Nat → Nat → Bool} (h : OrdC n c) {i j : Nat} (hi : i < n) (hj : j < n) (hne : i ≠ j) (hc : c i j = false) : c j i = true := by
  rcases h.tot i j hi hj hne with e | e
  · rw [hc] at e; cases e
  · exact e
theorem OrdC.asym {n : Nat} {c : Nat → Nat → Bool} (h : OrdC n c) {i j : Nat} (hi : i < n) (hj : j < n) (hc : c i j = true) : c j i = false := by
  cases e : c j i with
  | false => rfl
  | true => have := h.trans i j i hi hj hi hc e; rw [h.irr i hi] at this; cases this

/-- a row of all numbers below n, each once -/
structure AllOf (n : Nat) (p : Array Nat) : Prop where
  perm : p.toList.Perm (List.range n)
theorem AllOf.ent {n : Nat} {p : Array Nat} (h : AllOf n p) : Ent n p := h.perm
theorem AllOf.size {n : Nat} {p : Array Nat} (h : AllOf n p) : p.size = n := by simpa using h.perm.length_eq
theorem AllOf.at {n : Nat} {p : Array Nat} (h : AllOf n p) {i : Nat} (hi : i < n) : p.getD i 0 < n := h.ent.at (by omega) i
theorem AllOf.inj {n : Nat} {p : Array Nat} (h : AllOf n p) {i j : Nat} (hi : i < n) (hj : j < n) (hne : i ≠ j) : p.getD i 0 ≠ p.getD j 0 := by
  have hn : p.toList.Nodup := h.perm.nodup_iff.mpr List.nodup_range
  have e1 : p.getD i 0 = p.toList[i]'(by simpa [h.size] using hi) := by simp [Array.getD, h.size, hi]
  have e2 : p.getD j 0 = p.toList[j]'(by simpa [h.size] using hj) := by simp [Array.getD, h.size, hj]
  rw [e1, e2]
  intro q
  exact hne ((List.getElem_inj hn).mp q)
theorem AllOf.of {n : Nat} {p q : Array Nat} (h : AllOf n p) (hp : q.Perm p) : AllOf n q := ⟨(Array.perm_iff_toList_perm.mp hp).trans h.perm⟩

def SrtC (c : Nat → Nat → Bool) (p : Array Nat) (k : Nat) : Prop := ∀ i j, i < j → j < k → c (p.getD i 0) (p.getD j 0) = true

section
variable {n : Nat} {c : Nat → Nat → Bool}
theorem SrtC.snoc (hO : OrdC n c) {p : Array Nat} (hp : AllOf n p) {m : Nat} (hm : 1 ≤ m) (hmn : m < n) (h : SrtC c p m) (hl : c (p.getD (m - 1) 0) (p.getD m 0) = true) : SrtC c p (m + 1) := by
  intro i j hij hj
  by_cases e : j < m
  · exact h i j hij e
  · have : j = m := by omega
    subst this
    by_cases e2 : i = j - 1
    · subst e2; exact hl
    · exact hO.trans _ _ _ (hp.at (by omega)) (hp.at (by omega)) (hp.at hmn) (h i (j - 1) (by omega) (by omega)) hl
theorem asc_run (hO : OrdC n c) {p : Array Nat} (hp : AllOf n p) : ∀ (f m : Nat), 1 ≤ m → m + f ≤ n → SrtC c p m → m ≤ kRun c (kas_asc p f m) ∧ kRun c (kas_asc p f m) ≤ m + f ∧ SrtC c p (kRun c (kas_asc p f m))
  | 0, m, h1, h2, h => ⟨Nat.le_refl _, Nat.le_refl _, h⟩
  | f + 1, m, h1, h2, h => by
    unfold kas_asc
    simp only [kRun]
    cases hc : c (p.getD m 0) (p.getD (m - 1) 0) with
    | true => simp only [if_true, kRun]; exact ⟨Nat.le_refl _, by omega, h⟩
    | false =>
      simp only [Bool.false_eq_true, if_false]
      obtain ⟨a1, a2, a3⟩ := asc_run hO hp f (m + 1) (by omega) (by omega) (h.snoc hO hp h1 (by omega) (hO.flip (hp.at (by omega)) (hp.at (by omega)) (hp.inj (by omega) (by omega) (by omega)) hc))
      exact ⟨by omega, by omega, a3⟩

theorem count_run (hO : OrdC n c) {p : Array Nat} (hp : AllOf n p) (h2 : 2 ≤ n) (h01 : c (p.getD 0 0) (p.getD 1 0) = true) : ∃ r, kRun c (kas_count n p) = (r, p) ∧ 2 ≤ r ∧ r ≤ n ∧ SrtC c p r := by
  have s1 : SrtC c p 1 := fun i j h h' => by omega
  obtain ⟨a1, a2, a3⟩ := asc_run hO hp (n - 1) 1 (Nat.le_refl _) (by omega) s1
  have r2 : 2 ≤ kRun c (kas_asc p (n - 1) 1) := by
    obtain ⟨f, hf⟩ : ∃ f, n - 1 = f + 1 := ⟨n - 2, by omega⟩
    rw [hf]
    unfold kas_asc
    simp only [kRun]
    rw [show (1 - 1 : Nat) = 0 from rfl, hO.asym (hp.at (by omega)) (hp.at (by omega)) h01]
    simp only [Bool.false_eq_true, if_false]
    have s2 : SrtC c p 2 := s1.snoc hO hp (Nat.le_refl _) (by omega) h01
    exact (asc_run hO hp f 2 (by omega) (by omega) s2).1
  refine ⟨kRun c (kas_asc p (n - 1) 1), ?_, r2, by omega, a3⟩
  unfold kas_count
  rw [kRun_bind]
  generalize kRun c (kas_asc p (n - 1) 1) = r at *
  split
  · rfl
  · rw [if_pos (by omega)]
    simp only [kRun]
    rw [a3 0 (r - 1) (by omega) (by omega)]
    rfl

theorem place_run (hO : OrdC n c) {p : Array Nat} (hp : AllOf n p) {k : Nat} (hk : k < n) (hs : SrtC c p k) : ∀ (f l r : Nat), l ≤ r → r ≤ k → r - l ≤ f →
    (∀ i, i < l → c (p.getD i 0) (p.getD k 0) = true) → (∀ i, r ≤ i → i < k → c (p.getD k 0) (p.getD i 0) = true) →
    kRun c (kas_place p k f l r) ≤ k ∧ (∀ i, i < kRun c (kas_place p k f l r) → c (p.getD i 0) (p.getD k 0) = true) ∧ (∀ i, kRun c (kas_place p k f l r) ≤ i → i < k → c (p.getD k 0) (p.getD i 0) = true)
  | 0, l, r, h1, h2, h3, h4, h5 => by
    have : l = r := by omega
    subst this
    exact ⟨h2, h4, h5⟩
  | f + 1, l, r, h1, h2, h3, h4, h5 => by
    unfold kas_place
    by_cases hge : l ≥ r
    · rw [if_pos hge]
      have : l = r := by omega
      subst this
      exact ⟨h2, h4, h5⟩
    · rw [if_neg hge]
      simp only [kRun]
      cases hc : c (p.getD k 0) (p.getD ((l + r) / 2) 0) with
      | true =>
        simp only [if_true]
        refine place_run hO hp hk hs f l ((l + r) / 2) (by omega) (by omega) (by omega) h4 fun i hi hik => ?_
        by_cases e : i = (l + r) / 2
        · subst e; exact hc
        · exact hO.trans _ _ _ (hp.at hk) (hp.at (by omega)) (hp.at (by omega)) hc (hs _ i (by omega) hik)
      | false =>
        simp only [Bool.false_eq_true, if_false]
        have hm : c (p.getD ((l + r) / 2) 0) (p.getD k 0) = true := hO.flip (hp.at hk) (hp.at (by omega)) (hp.inj hk (by omega) (by omega)) hc
        refine place_run hO hp hk hs f ((l + r) / 2 + 1) r (by omega) h2 (by omega) (fun i hi => ?_) h5
        by_cases e : i = (l + r) / 2
        · subst e; exact hm
        · exact hO.trans _ _ _ (hp.at (by omega)) (hp.at (by omega)) (hp.at hk) (hs i _ (by omega) (by omega)) hm

theorem getD_bubble {p : Array Nat} {k l : Nat} (hk : k < p.size) (hl : l ≤ k) (i : Nat) : (bubble p k (k - l)).getD i 0 = if i = l then p.getD k 0 else if l < i ∧ i ≤ k then p.getD (i - 1) 0 else p.getD i 0 := by
  have e := getElem?_bubble hk (k - l) (by omega) i
  rw [show k - (k - l) = l from by omega] at e
  have g : ∀ (q : Array Nat) (j : Nat), q.getD j 0 = (q[j]?).getD 0 := fun q j => by simp
  rw [g, e]
  by_cases h1 : i = l
  · rw [if_pos h1, if_pos h1]; exact (g p k).symm
  · rw [if_neg h1, if_neg h1]
    by_cases h2 : l < i ∧ i ≤ k
    · rw [if_pos h2, if_pos h2]; exact (g p (i - 1)).symm
    · rw [if_neg h2, if_neg h2]; exact (g p i).symm
theorem bin_run (hO : OrdC n c) : ∀ (f : Nat) (p : Array Nat) (k : Nat), AllOf n p → SrtC c p k → k + f = n → 1 ≤ k → AllOf n (kRun c (kas_bin f p k)) ∧ SrtC c (kRun c (kas_bin f p k)) n
  | 0, p, k, hp, hs, hk, _ => by
    have : k = n := by omega
    subst this
    exact ⟨hp, hs⟩
  | f + 1, p, k, hp, hs, hk, h1 => by
    unfold kas_bin
    rw [kRun_bind]
    obtain ⟨a1, a2, a3⟩ := place_run hO hp (k := k) (by omega) hs k 0 k (by omega) (by omega) (by omega) (fun i hi => by omega) (fun i h1 h2 => by omega)
    generalize kRun c (kas_place p k k 0 k) = l at *
    refine bin_run hO f _ (k + 1) (hp.of (bubble_perm _ _ _)) ?_ (by omega) (by omega)
    intro i j hij hj
    have hks : k < p.size := by rw [hp.size]; omega
    rw [getD_bubble hks a1, getD_bubble hks a1]
    by_cases i1 : i = l
    · rw [if_pos i1, if_neg (by omega), if_pos (by omega)]
      exact a3 _ (by omega) (by omega)
    · rw [if_neg i1]
      by_cases j1 : j = l
      · rw [if_neg (by omega), if_pos j1]
        exact a2 _ (by omega)
      · rw [if_neg j1]
        by_cases i2 : l < i ∧ i ≤ k
        · rw [if_pos i2, if_pos (by omega)]
          exact hs _ _ (by omega) (by omega)
        · rw [if_neg i2]
          split
          · exact hs _ _ (by omega) (by omega)
          · exact hs _ _ (by omega) (by omega)

/-- sorting a row that begins upwards -/
theorem sortP_up (hO : OrdC n c) (h2 : 2 ≤ n) (h01 : c 0 1 = true) : (sortP n c).Perm (List.range n) ∧ (sortP n c).Pairwise (fun i j => c i j = true) := by
  have hp : AllOf n (List.toArray (List.range n)) := ⟨by simp⟩
  have g : ∀ i, i < n → (List.toArray (List.range n)).getD i 0 = i := fun i hi => by simp [Array.getD, hi]
  obtain ⟨r, e1, r2, rn, hs⟩ := count_run hO hp h2 (by rw [g 0 (by omega), g 1 (by omega)]; exact h01)
  have key : AllOf n (kRun c (kas_sort n)) ∧ SrtC c (kRun c (kas_sort n)) n := by
    unfold kas_sort
    rw [kRun_bind, e1]
    dsimp only
    rw [show max r 1 = r from by omega]
    split
    · exact bin_run hO (n - r) _ r hp hs (by omega) (by omega)
    · have : r = n := by omega
      subst this
      exact ⟨hp, hs⟩
  have e : sortP n c = (kRun c (kas_sort n)).toList := by unfold sortP; rw [if_neg (by omega)]
  rw [e]
  refine ⟨key.1.perm, ?_⟩
  rw [List.pairwise_iff_getElem]
  intro i j hi hj hij
  have hsz := key.1.size
  have := key.2 i j hij (by simpa [hsz] using hj)
  have e1 : (kRun c (kas_sort n)).getD i 0 = (kRun c (kas_sort n)).toList[i] := by
    have : i < (kRun c (kas_sort n)).size := by simpa using hi
    simp [Array.getD, this]
  have e2 : (kRun c (kas_sort n)).getD j 0 = (kRun c (kas_sort n)).toList[j] := by
    have : j < (kRun c (kas_sort n)).size := by simpa using hj
    simp [Array.getD, this]
  rw [← e1, ← e2]; exact this
end
end Mine

namespace Mine
/-! ## law 11 in numbers -/
def numsF (n c p : Int) : List (Int × Int) → List Int
  | [] => []
  | q :: ps => ((q.1 - c) * (n + 1) + q.2 - p - 1) :: numsF (n + 1) q.1 q.2 ps
def putAll (cur : List Nat) : List (Int × Int) → List Nat
  | [] => cur
  | q :: ps => putAll (putN cur q.2 q.1) ps
theorem putAll_length : ∀ (ps : List (Int × Int)) (cur : List Nat), (putAll cur ps).length = cur.length + ps.length
  | [], cur => rfl
  | q :: ps, cur => by rw [putAll, putAll_length ps, putN_length, List.length_cons]; omega
theorem putAll_snoc : ∀ (ps : List (Int × Int)) (q : Int × Int) (cur : List Nat), putAll cur (ps ++ [q]) = putN (putAll cur ps) q.2 q.1
  | [], q, cur => rfl
  | r :: ps, q, cur => by rw [List.cons_append, putAll, putAll, putAll_snoc ps]
/-- pairs that go up -/
def Chn (n c p : Int) : List (Int × Int) → Prop
  | [] => True
  | q :: ps => (c < q.1 ∨ (c = q.1 ∧ p < q.2)) ∧ 0 ≤ q.2 ∧ q.2 ≤ n ∧ q.1 ≤ 100000 ∧ Chn (n + 1) q.1 q.2 ps
theorem step_div {n c p pt pl : Int} (h0 : 0 ≤ pl) (h1 : pl ≤ n) : (p + ((pt - c) * (n + 1) + pl - p - 1 + 1)) % (n + 1) = pl ∧ c + (p + ((pt - c) * (n + 1) + pl - p - 1 + 1)) / (n + 1) = pt := by
  have e : p + ((pt - c) * (n + 1) + pl - p - 1 + 1) = pl + (n + 1) * (pt - c) := by rw [Int.mul_comm]; omega
  rw [e]
  have h2 : (0 : Int) < n + 1 := by omega
  constructor
  · rw [Int.add_mul_emod_self_left, Int.emod_eq_of_lt h0 (by omega)]
  · rw [Int.add_mul_ediv_left _ _ (by omega), Int.ediv_eq_zero_of_lt h0 (by omega)]; omega
theorem ins_nums : ∀ (ps : List (Int × Int)) (cur : List Nat) (c p : Int), Chn cur.length c p ps → 0 ≤ c → -1 ≤ p → p ≤ cur.length → cur.length + ps.length ≤ 1000000 →
    insF cur c p (numsF cur.length c p ps) = putAll cur ps ∧ noOv cur c p (numsF cur.length c p ps) ∧ ∀ d ∈ numsF cur.length c p ps, 0 ≤ d ∧ d < 10 ^ 20
  | [], cur, c, p, _, _, _, _, _ => ⟨rfl, trivial, fun _ h => nomatch h⟩
  | q :: ps, cur, c, p, hC, c0, p0, p1, hz => by
    obtain ⟨h1, h2, h3, h4, h5⟩ := hC
    rw [List.length_cons] at hz
    obtain ⟨e1, e2⟩ := step_div (n := (cur.length : Int)) (c := c) (p := p) (pt := q.1) (pl := q.2) h2 h3
    have hl : ((putN cur q.2 q.1).length : Int) = (cur.length : Int) + 1 := by rw [putN_length]; rfl
    obtain ⟨i1, i2, i3⟩ := ins_nums ps (putN cur q.2 q.1) q.1 q.2 (by rw [hl]; exact h5) (by omega) (by omega) (by omega) (by rw [putN_length]; omega)
    rw [hl] at i1 i2 i3
    simp only [numsF, insF, noOv, putAll]
    rw [e1, e2, stepC_id (by omega)]
    refine ⟨i1, ⟨by omega, i2⟩, fun d hd => ?_⟩
    rcases List.mem_cons.mp hd with rfl | hd
    · have m0 : 0 ≤ (q.1 - c) * ((cur.length : Int) + 1) := Int.mul_nonneg (by omega) (by omega)
      have m1 : (q.1 - c) * ((cur.length : Int) + 1) ≤ 100000 * 1000001 := Int.mul_le_mul (by omega) (by omega) (by omega) (by omega)
      refine ⟨?_, by omega⟩
      rcases h1 with h | ⟨h, h'⟩
      · have : 1 * ((cur.length : Int) + 1) ≤ (q.1 - c) * ((cur.length : Int) + 1) := Int.mul_le_mul_of_nonneg_right (by omega) (by omega)
        omega
      · rw [← h]; simp; omega
    · exact i3 d hd

/-! ### the deeds -/
abbrev Tri := Int × Int × Int
def flt (sd : Int) : List Tri → List (Int × Int)
  | [] => []
  | t :: l => if t.2.1 = sd then (t.1, t.2.2) :: flt sd l else flt sd l
theorem flt_app (sd : Int) : ∀ (l m : List Tri), flt sd (l ++ m) = flt sd l ++ flt sd m
  | [], m => rfl
  | t :: l, m => by
    rw [List.cons_append, flt, flt, flt_app sd l m]
    split <;> rfl
theorem flt_length (sd : Int) : ∀ (l : List Tri), (flt sd l).length ≤ l.length
  | [] => Nat.le_refl _
  | t :: l => by
    rw [flt, List.length_cons]
    have := flt_length sd l
    split
    · rw [List.length_cons]; omega
    · omega
theorem flt_mem {sd : Int} : ∀ {l : List Tri} {q : Int × Int}, q ∈ flt sd l ↔ (q.1, sd, q.2) ∈ l
  | [], q => by simp [flt]
  | t :: l, q => by
    have ih := flt_mem (sd := sd) (l := l) (q := q)
    rw [flt, List.mem_cons]
    obtain ⟨a, b, c⟩ := t
    obtain ⟨q1, q2⟩ := q
    by_cases h : b = sd
    · subst h
      simp only [if_true, List.mem_cons, ih, Prod.mk.injEq, true_and]
    · have h' : ¬ sd = b := fun q => h q.symm
      simp only [if_neg h, ih, Prod.mk.injEq, h', false_and, and_false, false_or]
theorem flt_perm {sd : Int} {l m : List Tri} (h : l.Perm m) : (flt sd l).Perm (flt sd m) := by
  induction h with
  | nil => exact List.Perm.refl _
  | cons t _ ih =>
    rw [flt, flt]
    split
    · exact ih.cons _
    · exact ih
  | swap a b l =>
    simp only [flt]
    split <;> split
    · exact List.Perm.swap _ _ _
    · exact List.Perm.refl _
    · exact List.Perm.refl _
    · exact List.Perm.refl _
  | trans _ _ i1 i2 => exact i1.trans i2

def lx (a b : Int × Int) : Prop := a.1 < b.1 ∨ (a.1 = b.1 ∧ a.2 < b.2)
def nxt (a b : Tri) : Prop := a.1 ≤ b.1 ∧ (a.2.1 = b.2.1 → lx (a.1, a.2.2) (b.1, b.2.2))
theorem lx_trans {a b c : Int × Int} (h : lx a b) (h' : lx b c) : lx a c := by unfold lx at *; omega
theorem lx_asym {a b : Int × Int} (h : lx a b) : ¬ lx b a := by unfold lx at *; omega
theorem flt_pw (sd : Int) : ∀ (l : List Tri), l.Pairwise nxt → (flt sd l).Pairwise lx
  | [], _ => List.Pairwise.nil
  | t :: l, h => by
    obtain ⟨h1, h2⟩ := List.pairwise_cons.mp h
    rw [flt]
    split
    · rename_i hs
      refine List.pairwise_cons.mpr ⟨fun q hq => ?_, flt_pw sd l h2⟩
      have := (h1 _ (flt_mem.mp hq)).2 hs
      exact this
    · exact flt_pw sd l h2
theorem perm_eq {α : Type} {R : α → α → Prop} (ha : ∀ a b, R a b → ¬ R b a) : ∀ (l m : List α), l.Perm m → l.Pairwise R → m.Pairwise R → l = m
  | [], m, hp, _, _ => (List.Perm.nil_eq hp)
  | a :: l, [], hp, _, _ => by have := hp.length_eq; simp at this
  | a :: l, b :: m, hp, h1, h2 => by
    obtain ⟨a1, a2⟩ := List.pairwise_cons.mp h1
    obtain ⟨b1, b2⟩ := List.pairwise_cons.mp h2
    have hab : a = b := by
      have hm : a ∈ b :: m := hp.mem_iff.mp List.mem_cons_self
      have hl : b ∈ a :: l := hp.mem_iff.mpr List.mem_cons_self
      rcases List.mem_cons.mp hm with e | hm
      · exact e
      · rcases List.mem_cons.mp hl with e | hl
        · exact e.symm
        · exact absurd (a1 b hl) (ha _ _ (b1 a hm))
    subst hab
    rw [perm_eq ha l m (List.Perm.cons_inv hp) a2 b2]

/-! ### both, joined -/
def joinF (front : Int) : List Tri → List (Int × Int)
  | [] => []
  | t :: r => if t.2.1 = 0 then (t.1, t.2.2) :: joinF (front + 1) r else (t.1, front + t.2.2) :: joinF front r
def ltT (a b : Tri) : Prop := a.1 < b.1 ∨ (a.1 = b.1 ∧ (a.2.1 < b.2.1 ∨ (a.2.1 = b.2.1 ∧ a.2.2 < b.2.2)))
def hdOk (c p l : Int) : List Tri → Prop
  | [] => True
  | t :: _ => c < t.1 ∨ (c = t.1 ∧ p < (if t.2.1 = 0 then t.2.2 else l + t.2.2))
theorem putN_left {L R : List Nat} {p c : Int} (h0 : 0 ≤ p) (h1 : p ≤ L.length) : putN (L ++ R) p c = putN L p c ++ R := by
  unfold putN
  rw [List.take_append_of_le_length (by omega), List.drop_append_of_le_length (by omega)]; simp
theorem putN_right {L R : List Nat} {p c : Int} (h0 : 0 ≤ p) : putN (L ++ R) (L.length + p) c = L ++ putN R p c := by
  unfold putN
  have e : ((L.length : Int) + p).toNat = L.length + p.toNat := by omega
  rw [e, List.take_length_add_append, List.drop_length_add_append]; simp
theorem join_ok : ∀ (S : List Tri) (L R : List Nat) (c p c0 p0 c1 p1 : Int), S.Pairwise ltT → (∀ t ∈ S, t.2.1 = 0 ∨ t.2.1 = 1) → Chn L.length c0 p0 (flt 0 S) → Chn R.length c1 p1 (flt 1 S) → hdOk c p L.length S →
    Chn ((L.length : Int) + R.length) c p (joinF L.length S) ∧ putAll (L ++ R) (joinF L.length S) = putAll L (flt 0 S) ++ putAll R (flt 1 S)
  | [], L, R, c, p, c0, p0, c1, p1, _, _, _, _, _ => ⟨trivial, rfl⟩
  | t :: S, L, R, c, p, c0, p0, c1, p1, hS, hsd, hL, hR, hh => by
    obtain ⟨hS1, hS2⟩ := List.pairwise_cons.mp hS
    have ht := hsd t List.mem_cons_self
    have hsd' : ∀ u ∈ S, u.2.1 = 0 ∨ u.2.1 = 1 := fun u hu => hsd u (List.mem_cons_of_mem _ hu)
    simp only [flt] at hL hR
    replace hh : c < t.1 ∨ (c = t.1 ∧ p < (if t.2.1 = 0 then t.2.2 else (L.length : Int) + t.2.2)) := hh
    by_cases h0 : t.2.1 = 0
    · rw [if_pos h0] at hL hh
      rw [if_neg (by omega)] at hR
      obtain ⟨a1, a2, a3, a4, a5⟩ := hL
      dsimp only at a1 a2 a3 a4 a5
      have hl : ((putN L t.2.2 t.1).length : Int) = (L.length : Int) + 1 := by rw [putN_length]; rfl
      obtain ⟨i1, i2⟩ := join_ok S (putN L t.2.2 t.1) R t.1 t.2.2 t.1 t.2.2 c1 p1 hS2 hsd' (by rw [hl]; exact a5) hR (by
        cases S with
        | nil => trivial
        | cons u S =>
          have h := hS1 u List.mem_cons_self
          have hu := hsd' u List.mem_cons_self
          have hu0 : u.2.1 = 1 → 0 ≤ u.2.2 := fun q => by
            simp only [flt] at hR
            rw [if_pos q] at hR
            exact hR.2.1
          unfold ltT at h
          show t.1 < u.1 ∨ (t.1 = u.1 ∧ t.2.2 < (if u.2.1 = 0 then u.2.2 else ((putN L t.2.2 t.1).length : Int) + u.2.2))
          rw [hl]
          by_cases hu1 : u.2.1 = 0
          · rw [if_pos hu1]; omega
          · rw [if_neg hu1]
            have := hu0 (by omega)
            omega)
      rw [hl] at i1 i2
      simp only [joinF, flt, if_pos h0, if_neg (show ¬ t.2.1 = 1 by omega), putAll, Chn]
      refine ⟨⟨hh, a2, by omega, a4, ?_⟩, ?_⟩
      · rw [show (L.length : Int) + R.length + 1 = (L.length : Int) + 1 + R.length from by omega]; exact i1
      · rw [putN_left a2 a3]; exact i2
    · have h1 : t.2.1 = 1 := by omega
      rw [if_neg h0] at hL hh
      rw [if_pos h1] at hR
      obtain ⟨a1, a2, a3, a4, a5⟩ := hR
      dsimp only at a1 a2 a3 a4 a5
      have hl : ((putN R t.2.2 t.1).length : Int) = (R.length : Int) + 1 := by rw [putN_length]; rfl
      obtain ⟨i1, i2⟩ := join_ok S L (putN R t.2.2 t.1) t.1 (L.length + t.2.2) c0 p0 t.1 t.2.2 hS2 hsd' hL (by rw [hl]; exact a5) (by
        cases S with
        | nil => trivial
        | cons u S =>
          have h := hS1 u List.mem_cons_self
          have hu := hsd' u List.mem_cons_self
          unfold ltT at h
          show t.1 < u.1 ∨ (t.1 = u.1 ∧ (L.length : Int) + t.2.2 < (if u.2.1 = 0 then u.2.2 else (L.length : Int) + u.2.2))
          by_cases hu1 : u.2.1 = 0
          · rw [if_pos hu1]; omega
          · rw [if_neg hu1]; omega)
      rw [hl] at i1
      simp only [joinF, flt, if_neg h0, if_pos h1, putAll, Chn]
      refine ⟨⟨hh, by omega, by omega, a4, ?_⟩, ?_⟩
      · rw [show (L.length : Int) + R.length + 1 = (L.length : Int) + ((R.length : Int) + 1) from by omega]; exact i1
      · rw [putN_right a2]; exact i2

theorem Chn.snoc {n c p : Int} : ∀ {ps : List (Int × Int)} {q : Int × Int}, Chn n c p ps → (∀ r, (ps.getLast?.getD (c, p)) = r → r.1 < q.1 ∨ (r.1 = q.1 ∧ r.2 < q.2)) → 0 ≤ q.2 → q.2 ≤ n + ps.length → q.1 ≤ 100000 → Chn n c p (ps ++ [q])
  | [], q, _, h, h0, h1, h2 => by
    have := h (c, p) rfl
    exact ⟨this, h0, by simpa using h1, h2, trivial⟩
  | r :: ps, q, hC, h, h0, h1, h2 => by
    obtain ⟨a1, a2, a3, a4, a5⟩ := hC
    refine ⟨a1, a2, a3, a4, Chn.snoc a5 (fun u hu => h u ?_) h0 (by rw [List.length_cons] at h1; omega) h2⟩
    rw [← hu, List.getLast?_cons]
    cases ps.getLast? <;> rfl

/-! ### one deed -/
def pointF (point half : Int) : Int := if half % 3 = 1 then point + 1 else if half % 3 = 2 then point + half % 500 else point
def leastF11 (ps : List (Int × Int)) (point : Int) : Int := match ps.getLast? with
  | some q => if q.1 = point then q.2 + 1 else 0
  | none => 0
def placeF (n : Int) (ps : List (Int × Int)) (point half : Int) : Int := leastF11 ps point + half / 3 % (n + ps.length + 1 - leastF11 ps point)
structure Inv11 (n0 n1 : Int) (both : List Tri) (point lim : Int) : Prop where
  p0 : 128 ≤ point
  p1 : point ≤ lim
  le : ∀ t ∈ both, 128 ≤ t.1 ∧ t.1 ≤ point
  sd : ∀ t ∈ both, t.2.1 = 0 ∨ t.2.1 = 1
  pw : both.Pairwise nxt
  c0 : Chn n0 128 (-1) (flt 0 both)
  c1 : Chn n1 128 (-1) (flt 1 both)
theorem pointF_range (point half : Int) : point ≤ pointF point half ∧ pointF point half ≤ point + 500 := by unfold pointF; split <;> (try split) <;> omega

theorem chn_last {n c p : Int} : ∀ {ps : List (Int × Int)} {q : Int × Int}, Chn n c p ps → ps.getLast? = some q → 0 ≤ q.2 ∧ q.2 < n + ps.length
  | [], q, _, h => by simp at h
  | r :: ps, q, hC, h => by
    obtain ⟨a1, a2, a3, a4, a5⟩ := hC
    rw [List.getLast?_cons] at h
    cases e : ps.getLast? with
    | none =>
      rw [e] at h
      simp at h
      subst h
      have : ps = [] := List.getLast?_eq_none_iff.mp e
      subst this
      simp; omega
    | some q' =>
      rw [e] at h
      simp at h
      subst h
      have := chn_last a5 e
      rw [List.length_cons]; omega
theorem least_range {n c p : Int} {ps : List (Int × Int)} (hC : Chn n c p ps) (hn : 0 ≤ n) (point : Int) : 0 ≤ leastF11 ps point ∧ leastF11 ps point ≤ n + ps.length := by
  unfold leastF11
  cases e : ps.getLast? with
  | none => dsimp only; omega
  | some q =>
    dsimp only
    have := chn_last hC e
    split <;> omega
theorem place_range {n c p : Int} {ps : List (Int × Int)} (hC : Chn n c p ps) (hn : 0 ≤ n) (point half : Int) : leastF11 ps point ≤ placeF n ps point half ∧ placeF n ps point half ≤ n + ps.length := by
  have h := least_range hC hn point
  unfold placeF
  have h1 := Int.emod_nonneg (half / 3) (show n + (ps.length : Int) + 1 - leastF11 ps point ≠ 0 by omega)
  have h2 := Int.emod_lt_of_pos (half / 3) (show 0 < n + (ps.length : Int) + 1 - leastF11 ps point by omega)
  omega
theorem pw_snoc {α : Type} {R : α → α → Prop} {l : List α} {a : α} (h : l.Pairwise R) (h' : ∀ b ∈ l, R b a) : (l ++ [a]).Pairwise R := by
  rw [List.pairwise_append]
  exact ⟨h, List.pairwise_singleton _ _, fun b hb c hc => by rw [List.mem_singleton] at hc; subst hc; exact h' b hb⟩
theorem last_max {l : List (Int × Int)} (h : l.Pairwise lx) {q r : Int × Int} (hq : l.getLast? = some q) (hr : r ∈ l) : r = q ∨ lx r q := by
  obtain ⟨m, rfl⟩ := List.getLast?_eq_some_iff.mp hq
  rw [List.pairwise_append] at h
  rcases List.mem_append.mp hr with hr | hr
  · exact .inr (h.2.2 r hr q (by simp))
  · left; simpa using hr
theorem Inv11.step {n0 n1 : Int} {both : List Tri} {point lim : Int} (I : Inv11 n0 n1 both point lim) (h0 : 0 ≤ n0) (h1 : 0 ≤ n1) (hlim : lim ≤ 90000) (sd half : Int) (hsd : sd = 0 ∨ sd = 1) :
    Inv11 n0 n1 (both ++ [(pointF point half, sd, placeF (if sd = 0 then n0 else n1) (flt sd both) (pointF point half) half)]) (pointF point half) (lim + 500) := by
  have hp := pointF_range point half
  have i0 := I.p0
  have i1 := I.p1
  generalize hP : pointF point half = pt at *
  have hC : Chn (if sd = 0 then n0 else n1) 128 (-1) (flt sd both) := by
    rcases hsd with rfl | rfl
    · exact I.c0
    · exact I.c1
  have hn : 0 ≤ (if sd = 0 then n0 else n1) := by split <;> assumption
  have hpl := place_range hC hn pt half
  have hle := least_range hC hn pt
  generalize hPl : placeF (if sd = 0 then n0 else n1) (flt sd both) pt half = pl at *
  have pts : ∀ q ∈ flt sd both, q.1 ≤ point := fun q hq => (I.le _ (flt_mem.mp hq)).2
  have hlast : ∀ r, ((flt sd both).getLast?.getD (128, -1)) = r → r.1 < pt ∨ (r.1 = pt ∧ r.2 < pl) := by
    intro r hr
    cases e : (flt sd both).getLast? with
    | none => rw [e] at hr; simp at hr; subst hr; simp; omega
    | some q =>
      rw [e] at hr; simp at hr; subst hr
      have hq := pts q (List.mem_of_getLast? e)
      by_cases hqp : q.1 = pt
      · right
        refine ⟨hqp, ?_⟩
        have : leastF11 (flt sd both) pt = q.2 + 1 := by unfold leastF11; rw [e]; simp [hqp]
        omega
      · left; omega
  have hnew : Chn (if sd = 0 then n0 else n1) 128 (-1) (flt sd both ++ [(pt, pl)]) := hC.snoc hlast (by dsimp only; omega) hpl.2 (by dsimp only; omega)
  refine ⟨by omega, by omega, fun t ht => ?_, fun t ht => ?_, pw_snoc I.pw fun b hb => ?_, ?_, ?_⟩
  · rcases List.mem_append.mp ht with ht | ht
    · have := I.le t ht; omega
    · rw [List.mem_singleton] at ht; subst ht; dsimp only; omega
  · rcases List.mem_append.mp ht with ht | ht
    · exact I.sd t ht
    · rw [List.mem_singleton] at ht; subst ht; exact hsd
  · have hb1 := I.le b hb
    refine ⟨by dsimp only; omega, fun hs => ?_⟩
    dsimp only at hs ⊢
    have hbm : (b.1, b.2.2) ∈ flt sd both := flt_mem.mpr (by rw [← hs]; exact hb)
    cases e : (flt sd both).getLast? with
    | none => rw [List.getLast?_eq_none_iff.mp e] at hbm; cases hbm
    | some q =>
      have hq := hlast q (by rw [e]; rfl)
      have hq' : lx q (pt, pl) := hq
      rcases last_max (flt_pw sd both I.pw) e hbm with h | h
      · rw [h]; exact hq'
      · exact lx_trans h hq'
  · rw [flt_app]
    rcases hsd with rfl | rfl
    · simpa [flt] using hnew
    · simpa [flt] using I.c0
  · rw [flt_app]
    rcases hsd with rfl | rfl
    · simpa [flt] using I.c1
    · simpa [flt] using hnew
end Mine

namespace Mine
/-! ## law 11: the deeds, sorted -/
def runD (n0 n1 : Int) : List (Int × Int) → Int → List Tri → List Tri
  | [], _, both => both
  | d :: ds, point, both => if 2 ≤ d.1 then runD n0 n1 ds (pointF point d.2) (both ++ [(pointF point d.2, d.1 - 2, placeF (if d.1 - 2 = 0 then n0 else n1) (flt (d.1 - 2) both) (pointF point d.2) d.2)]) else runD n0 n1 ds point both
theorem runD_pre (n0 n1 : Int) : ∀ (ds : List (Int × Int)) (point : Int) (both : List Tri), ∃ r, runD n0 n1 ds point both = both ++ r
  | [], point, both => ⟨[], by simp [runD]⟩
  | d :: ds, point, both => by
    rw [runD]
    split
    · obtain ⟨r, hr⟩ := runD_pre n0 n1 ds (pointF point d.2) (both ++ [(pointF point d.2, d.1 - 2, placeF (if d.1 - 2 = 0 then n0 else n1) (flt (d.1 - 2) both) (pointF point d.2) d.2)])
      exact ⟨_, by rw [hr, List.append_assoc]⟩
    · exact runD_pre n0 n1 ds point both
theorem runD_head (n0 n1 : Int) (ds : List (Int × Int)) : ∃ x y r, runD n0 n1 ((2, 0) :: (3, 4) :: ds) 128 [] = (128, 0, x) :: (129, 1, y) :: r := by
  rw [runD, if_pos (by decide), runD, if_pos (by decide)]
  obtain ⟨r, hr⟩ := runD_pre n0 n1 ds (pointF (pointF 128 0) 4) (([] ++ [(pointF 128 0, (2 : Int) - 2, placeF (if (2 : Int) - 2 = 0 then n0 else n1) (flt (2 - 2) []) (pointF 128 0) 0)]) ++ [(pointF (pointF 128 0) 4, (3 : Int) - 2, placeF (if (3 : Int) - 2 = 0 then n0 else n1) (flt (3 - 2) ([] ++ [(pointF 128 0, (2 : Int) - 2, placeF (if (2 : Int) - 2 = 0 then n0 else n1) (flt (2 - 2) []) (pointF 128 0) 0)])) (pointF (pointF 128 0) 4) 4)])
  exact ⟨_, _, _, hr⟩
def triL (t : Tri) : List Int := [t.1, t.2.1, t.2.2]
def triP (t : Tri) : PV := .tup [.int t.1, .int t.2.1, .int t.2.2]
theorem ltL_tri (a b : Tri) : ltL (triL a) (triL b) = true ↔ ltT a b := by
  obtain ⟨a1, a2, a3⟩ := a
  obtain ⟨b1, b2, b3⟩ := b
  unfold triL ltT
  simp only [ltL]
  by_cases h1 : a1 = b1
  · subst h1
    simp only [beq_self_eq_true, if_true]
    by_cases h2 : a2 = b2
    · subst h2
      simp only [beq_self_eq_true, if_true]
      by_cases h3 : a3 = b3
      · subst h3; simp
      · have : (a3 == b3) = false := beq_eq_false_iff_ne.mpr h3
        rw [this]; simp
    · have : (a2 == b2) = false := beq_eq_false_iff_ne.mpr h2
      rw [this]; simp; omega
  · have : (a1 == b1) = false := beq_eq_false_iff_ne.mpr h1
    rw [this]; simp; omega
theorem getD_map' {α β : Type} (f : α → β) (l : List α) (i : Nat) (a : α) (b : β) (h : i < l.length) : (l.map f).getD i b = f (l.getD i a) := by
  simp [h]
theorem range_getD {α : Type} (l : List α) (a : α) : (List.range l.length).map (fun i => l.getD i a) = l := by
  apply List.ext_getElem
  · simp
  · intro i h1 h2
    simp at h1
    simp [h1]
theorem sort_both {both : List Tri} (hpw : both.Pairwise nxt) {x y : Int} {r : List Tri} (hh : both = (128, 0, x) :: (129, 1, y) :: r) :
    ∃ S : List Tri, ((sortP both.length (fun i j => ltL ((both.map triL).getD i []) ((both.map triL).getD j []))).map fun i => (both.map triP).getD i .none) = S.map triP ∧ S.Perm both ∧ S.Pairwise ltT := by
  have hg : ∀ i, i < both.length → (both.map triL).getD i [] = triL (both.getD i (0, 0, 0)) := fun i hi => getD_map' triL both i _ _ hi
  have hc : ∀ i j, i < both.length → j < both.length → (ltL ((both.map triL).getD i []) ((both.map triL).getD j []) = true ↔ ltT (both.getD i (0, 0, 0)) (both.getD j (0, 0, 0))) := fun i j hi hj => by rw [hg i hi, hg j hj, ltL_tri]
  have hne : ∀ i j, i < both.length → j < both.length → i < j → both.getD i (0, 0, 0) ≠ both.getD j (0, 0, 0) := fun i j hi hj hij q => by
    have h := List.pairwise_iff_getElem.mp hpw i j hi hj hij
    have e1 : both.getD i (0, 0, 0) = both[i] := by simp [hi]
    have e2 : both.getD j (0, 0, 0) = both[j] := by simp [hj]
    rw [e1, e2] at q
    rw [q] at h
    have := h.2 rfl
    unfold lx at this
    omega
  have hO : OrdC both.length (fun i j => ltL ((both.map triL).getD i []) ((both.map triL).getD j [])) := by
    refine ⟨fun i hi => ?_, fun i j k hi hj hk h1 h2 => ?_, fun i j hi hj hij => ?_⟩
    · rw [Bool.eq_false_iff]
      intro q
      have := (hc i i hi hi).mp q
      unfold ltT at this; omega
    · have h1 := (hc i j hi hj).mp h1
      have h2 := (hc j k hj hk).mp h2
      refine (hc i k hi hk).mpr ?_
      unfold ltT at *; omega
    · have hn : both.getD i (0, 0, 0) ≠ both.getD j (0, 0, 0) := by
        rcases Nat.lt_or_gt_of_ne hij with h | h
        · exact hne i j hi hj h
        · exact fun q => hne j i hj hi h q.symm
      have : ltT (both.getD i (0, 0, 0)) (both.getD j (0, 0, 0)) ∨ ltT (both.getD j (0, 0, 0)) (both.getD i (0, 0, 0)) := by
        generalize both.getD i (0, 0, 0) = a at *
        generalize both.getD j (0, 0, 0) = b at *
        obtain ⟨a1, a2, a3⟩ := a
        obtain ⟨b1, b2, b3⟩ := b
        simp only [ne_eq, Prod.mk.injEq] at hn
        unfold ltT
        dsimp only
        omega
      rcases this with h | h
      · exact .inl ((hc i j hi hj).mpr h)
      · exact .inr ((hc j i hj hi).mpr h)
  have h2 : 2 ≤ both.length := by rw [hh]; simp
  obtain ⟨s1, s2⟩ := sortP_up hO h2 ((hc 0 1 (by omega) (by omega)).mpr (by rw [hh]; unfold ltT; simp))
  generalize hq : sortP both.length (fun i j => ltL ((both.map triL).getD i []) ((both.map triL).getD j [])) = q at *
  have hlt : ∀ i ∈ q, i < both.length := fun i hi => by simpa using s1.mem_iff.mp hi
  refine ⟨q.map fun i => both.getD i (0, 0, 0), ?_, ?_, ?_⟩
  · rw [List.map_map]
    exact List.map_congr_left fun i hi => getD_map' triP both i _ _ (hlt i hi)
  · have := s1.map fun i => both.getD i (0, 0, 0)
    rwa [range_getD] at this
  · rw [List.pairwise_map]
    refine List.Pairwise.imp_of_mem (fun {i j} hi hj h => ?_) s2
    exact (hc i j (hlt i hi) (hlt j hj)).mp h
/-- what law 11 says -/
theorem law11 {B0 B1 : List Nat} {both S : List Tri} {point lim : Int} (I : Inv11 B0.length B1.length both point lim) (hp : S.Perm both) (hS : S.Pairwise ltT) (hz : B0.length + B1.length + both.length ≤ 1000000) :
    Chn ((B0 ++ B1).length : Int) 128 (-1) (joinF B0.length S) ∧ putAll (B0 ++ B1) (joinF B0.length S) = putAll B0 (flt 0 both) ++ putAll B1 (flt 1 both) := by
  have hfl : ∀ sd, flt sd S = flt sd both := fun sd => by
    refine perm_eq (R := lx) (fun a b => lx_asym) _ _ (flt_perm hp) ?_ (flt_pw sd both I.pw)
    clear hp I
    induction S with
    | nil => exact List.Pairwise.nil
    | cons t S ih =>
      obtain ⟨h1, h2⟩ := List.pairwise_cons.mp hS
      rw [flt]
      split
      · rename_i hs
        refine List.pairwise_cons.mpr ⟨fun q hq => ?_, ih h2⟩
        have := h1 _ (flt_mem.mp hq)
        unfold ltT at this
        unfold lx
        dsimp only at *
        omega
      · exact ih h2
  obtain ⟨j1, j2⟩ := join_ok S B0 B1 128 (-1) 128 (-1) 128 (-1) hS (fun t ht => I.sd t (hp.mem_iff.mp ht)) (by rw [hfl]; exact I.c0) (by rw [hfl]; exact I.c1) (by
    cases S with
    | nil => trivial
    | cons t S =>
      have ht := hp.mem_iff.mp (List.mem_cons_self (a := t) (l := S))
      have h1 := I.le t ht
      have h0 := I.sd t ht
      have hpl : 0 ≤ t.2.2 := by
        have key : ∀ (n c p : Int) (ps : List (Int × Int)), Chn n c p ps → ∀ q ∈ ps, 0 ≤ q.2 := by
          intro n c p ps
          induction ps generalizing n c p with
          | nil => intro _ q hq; cases hq
          | cons r ps ih =>
            intro hC q hq
            rcases List.mem_cons.mp hq with rfl | hq
            · exact hC.2.1
            · exact ih _ _ _ hC.2.2.2.2 q hq
        rcases h0 with h | h
        · exact key _ _ _ _ I.c0 (t.1, t.2.2) (flt_mem.mpr (by rw [← h]; exact ht))
        · exact key _ _ _ _ I.c1 (t.1, t.2.2) (flt_mem.mpr (by rw [← h]; exact ht))
      show 128 < t.1 ∨ (128 = t.1 ∧ -1 < (if t.2.1 = 0 then t.2.2 else (B0.length : Int) + t.2.2))
      split <;> omega)
  rw [hfl, hfl] at j2
  refine ⟨?_, j2⟩
  rw [List.length_append, Int.natCast_add]; exact j1
end Mine

namespace Mine
local macro_rules | `(tactic| wtm_at "side") => `(tactic| first | with_reducible assumption | omega | decide | (simp; done) | (simp; omega) | skip)
local macro_rules | `(tactic| wtm_at "mul") => `(tactic| first | exact IntMulOk.of_left (intBits_le_64 (by omega) (by omega)) | exact IntMulOk.of_right (intBits_le_64 (by omega) (by omega)) | skip)
local macro_rules | `(tactic| wtm_at "cl") => `(tactic| fail "no contract")
local macro_rules | `(tactic| wtm_at "op") => `(tactic| first
  | with_reducible exact Op2.add | with_reducible exact Op2.sub
  | ((with_reducible refine' Op2.fdiv ?s1 ?s2); (case s1 => wtm_at "side"); (case s2 => wtm_at "side"))
  | ((with_reducible refine' Op2.mod ?s1); (case s1 => wtm_at "side"))
  | with_reducible exact Op2.eq | with_reducible exact Op2.lt | with_reducible exact Op2.gt | with_reducible exact Op2.le | with_reducible exact Op2.ge | with_reducible exact Op2.ne
  | ((with_reducible refine' Op2.mul ?s1); (case s1 => wtm_at "mul"))
  | with_reducible exact Op2.iadd | with_reducible exact Op2.isub
  | ((with_reducible refine' Op2.ifdiv ?s1 ?s2); (case s1 => wtm_at "side"); (case s2 => wtm_at "side"))
  | ((with_reducible refine' Op2.imul ?s1); (case s1 => wtm_at "mul"))
  | fail "no operation")
local macro_rules | `(tactic| wtm_at "evx") => `(tactic| fail "no expression")
local macro_rules | `(tactic| wtm_at "ev") => `(tactic| first
  | with_reducible exact Ev.cint | with_reducible exact Ev.cbool | with_reducible exact Ev.cnone | with_reducible exact Ev.cbytes
  | ((with_reducible refine' Ev.name ?hx); (case hx => exact rfl))
  | ((with_reducible refine' Ev.glob ?hx); (case hx => first | exact rfl | assumption))
  | ((with_reducible refine' Ev.bin ?hl ?hr ?ho); (case hl => wtm_at "ev"); (case hr => wtm_at "ev"); (case ho => wtm_at "op"))
  | ((with_reducible refine' Ev.cmp ?hl ?hr ?ho); (case hl => wtm_at "ev"); (case hr => wtm_at "ev"); (case ho => wtm_at "op"))
  | ((with_reducible refine' Ev.call ?hf ?hk ?ha ?hc); (case hf => wtm_at "ev"); (case hk => wtm_at "kp"); (case ha => wtm_at "es"); (case hc => wtm_at "cl"))
  | ((with_reducible refine' Ev.neg ?hl); (case hl => wtm_at "ev"))
  | ((with_reducible refine' Ev.tuple ?hl ?hs); (case hl => wtm_at "es"); (case hs => (simp; done)))
  | ((with_reducible refine' Ev.list ?hl ?hs); (case hl => wtm_at "es"); (case hs => (simp; done)))
  | wtm_at "evx")
local macro_rules | `(tactic| wtm_at "kp") => `(tactic| first | with_reducible exact KeepOk.builtin | with_reducible exact KeepOk.type | with_reducible assumption)
local macro_rules | `(tactic| wtm_at "es") => `(tactic| first | with_reducible exact Es.nil | ((with_reducible refine' Es.cons ?hl ?hr); (case hl => wtm_at "ev"); (case hr => wtm_at "es")))
local macro_rules | `(tactic| wtm_at "truth") => `(tactic| first | with_reducible exact Truth.bool | with_reducible exact Truth.int)
local macro_rules | `(tactic| wtm_at "tr") => `(tactic| first
  | ((with_reducible refine' Tr.cmp ?hl ?hr ?ho); (case hl => wtm_at "ev"); (case hr => wtm_at "ev"); (case ho => wtm_at "op"))
  | ((with_reducible refine' Tr.not ?hl); (case hl => wtm_at "tr"))
  | ((with_reducible refine' Tr.and2 ?hl (fun h => ?hr)); (case hl => wtm_at "tr"); (case hr => wtm_at "tr"))
  | ((with_reducible refine' Tr.or2 ?hl (fun h => ?hr)); (case hl => wtm_at "tr"); (case hr => wtm_at "tr"))
  | ((with_reducible refine' Tr.val ?hl ?hr); (case hl => wtm_at "ev"); (case hr => wtm_at "truth"))
  | fail "no test")
local macro_rules | `(tactic| wtm_at "sub") => `(tactic| repeat' (first | exact True.intro | refine And.intro (by exact rfl) ?_))

abbrev pg := PySem.Challenge.pw_dm0101_11
variable {Γ : Cx}

theorem T_ok {a : Addr} (hT : DefAt Γ a "T" (fnAt pg 1)) {j bias : Int} : CallOk Γ 1 (.ref a) [.int j, .int bias] (.int (tF j bias)) := by
  refine DefAt.call hT ?_ ?_
  · refine Xs.cons (X1.assign (by wtm_at "ev") ?_)
    unfold tF
    refine Xs.cons (X1.ite (by wtm_at "tr") (fun hc => ?_) (fun hc => ?_))
    · have hc' := of_decide_eq_true hc
      rw [if_pos hc']
      exact Xs.cons (X1.ret (by wtm_at "ev") rfl)
    · have hc' := of_decide_eq_false hc
      rw [if_neg hc']
      refine Xs.nil ?_
      refine Xs.cons (X1.ite (by wtm_at "tr") (fun hc => ?_) (fun hc => ?_))
      · have hc' := of_decide_eq_true hc
        rw [if_pos hc']
        exact Xs.cons (X1.ret (by wtm_at "ev") rfl)
      · have hc' := of_decide_eq_false hc
        rw [if_neg hc']
        refine Xs.nil ?_
        exact Xs.cons (X1.ret (by wtm_at "ev") rfl)
  · intro pm cd doc vals h
    obtain ⟨x, y, rfl⟩ := len2 h
    rfl

structure GHas (Γ : Cx) (aT : Addr) : Prop where
  dT : DefAt Γ aT "T" (fnAt pg 1)
  nT : Γ.gl.lookup ("T" : Str) = some (PV.obj (.ref aT))
  nD : Γ.gl.lookup ("digits" : Str) = some (PV.bytes dgs)
  nB : Γ.gl.lookup ("bytes" : Str) = some (PV.obj (.type "bytes"))
  nA : Γ.gl.lookup ("bytearray" : Str) = some (PV.obj (.type "bytearray"))

theorem ggi_ok {a aT : Addr} (hG : DefAt Γ a "generate_generalized_integer" (fnAt pg 3)) (g : GHas Γ aT) {m : Nat} {N bias : Int} (h0 : 0 ≤ N) (h1 : N < 10 ^ m) (hm : m < 60000) :
    CallOk Γ 2 (.ref a) [.int N, .int bias] (.bytes (ggiB N bias)) := by
  obtain ⟨dT, nT, nD, nB, nA⟩ := g
  have kT := dT.keep
  refine DefAt.call hG ?_ ?_
  · refine Xs.cons (X1.own (EvN.call (by wtm_at "ev") (by wtm_at "kp") (by wtm_at "es") CallN.bytearray) fun a _ => ?_)
    refine Xs.cons (X1.assign (by wtm_at "ev") ?_)
    refine Xs.cons (X1.while ?_)
    refine Wh.sub (σ' := [("N", .int N), ("bias", .int bias), ("result", .ref a), ("j", .int 0)]) ⟨rfl, rfl, rfl, rfl, trivial⟩ ?_
    have hR : ggiB N bias = [] ++ (ggiD N bias 0).map dB := rfl
    rw [hR]
    generalize hl : ([] : List UInt8) = l
    generalize hj : (0 : Int) = j
    have hlm : l.length + m < 60000 := by subst hl; simpa using hm
    have h0' : 0 ≤ N := h0
    clear hR hl hj hm h0
    induction m generalizing N l j with
    | zero =>
      refine Wh.step (by wtm_at "tr") (fun hc => ?_) (fun hc => absurd hc (by decide))
      refine Xs.cons (X1.assign (Ev.call (by wtm_at "ev") (by wtm_at "kp") (by wtm_at "es") (T_ok dT)) ?_)
      have hlt : N < tF j bias := by have := tF_ge j bias; omega
      have hN : N = 0 := by omega
      rw [ggiD, dif_pos hlt]
      refine Xs.cons (X1.ite (by wtm_at "tr") (fun hc => ?_) (fun hc => absurd hlt (of_decide_eq_false hc)))
      refine Xs.cons (X1.meth (μ₁ := []) (μ₂ := []) (a := a) (o := .barr l) rfl (Es.cons (Ev.sub (by wtm_at "ev") (by wtm_at "ev") (Op2.itemB (by omega) (by show N < 36; omega) (by decide)) HasItem.bytes) Es.nil) (MethOk.ba_append (Int.natCast_nonneg _) (by have := (dgs.getD N.toNat 0).toNat_lt; omega) (by omega)) F.ba_plainAttrs F.ba_slot_append F.ba_type_append ?_)
      refine Xs.cons (X1.ret (Ev.bytesOf (μ₁ := []) (μ₂ := []) (by wtm_at "ev") rfl (by simp; omega)) ?_)
      simp [dB]
    | succ m ih =>
      refine Wh.step (by wtm_at "tr") (fun hc => ?_) (fun hc => absurd hc (by decide))
      refine Xs.cons (X1.assign (Ev.call (by wtm_at "ev") (by wtm_at "kp") (by wtm_at "es") (T_ok dT)) ?_)
      have ht1 := tF_ge j bias
      have ht2 := tF_le j bias
      rw [ggiD]
      refine Xs.cons (X1.ite (by wtm_at "tr") (fun hc => ?_) (fun hc => ?_))
      · have hlt := of_decide_eq_true hc
        rw [dif_pos hlt]
        refine Xs.cons (X1.meth (μ₁ := []) (μ₂ := []) (a := a) (o := .barr l) rfl (Es.cons (Ev.sub (by wtm_at "ev") (by wtm_at "ev") (Op2.itemB (by omega) (by show N < 36; omega) (by decide)) HasItem.bytes) Es.nil) (MethOk.ba_append (Int.natCast_nonneg _) (by have := (dgs.getD N.toNat 0).toNat_lt; omega) (by omega)) F.ba_plainAttrs F.ba_slot_append F.ba_type_append ?_)
        refine Xs.cons (X1.ret (Ev.bytesOf (μ₁ := []) (μ₂ := []) (by wtm_at "ev") rfl (by simp; omega)) ?_)
        simp [dB]
      · have hlt := of_decide_eq_false hc
        rw [dif_neg hlt]
        generalize ht : tF j bias = t at *
        refine Xs.nil ?_
        have hm0 : 0 ≤ (N - t) % (36 - t) := Int.emod_nonneg _ (by omega)
        have hm1 : (N - t) % (36 - t) < 36 - t := Int.emod_lt_of_pos _ (by omega)
        refine Xs.cons (X1.meth (μ₁ := []) (μ₂ := []) (a := a) (o := .barr l) rfl (Es.cons (Ev.sub (by wtm_at "ev") (by wtm_at "ev") (Op2.itemB (by omega) (by show _ < (36 : Int); omega) (by decide)) HasItem.bytes) Es.nil) (MethOk.ba_append (Int.natCast_nonneg _) (by have := (dgs.getD (t + (N - t) % (36 - t)).toNat 0).toNat_lt; omega) (by omega)) F.ba_plainAttrs F.ba_slot_append F.ba_type_append ?_)
        refine Xs.cons (X1.assign (by wtm_at "ev") ?_)
        refine Xs.cons (X1.aug rfl (by wtm_at "ev") (by wtm_at "op") ?_)
        refine Xs.nil ?_
        have hq0 : 0 ≤ (N - t) / (36 - t) := Int.ediv_nonneg (by omega) (by omega)
        have hq1 : (N - t) / (36 - t) < 10 ^ m := by
          refine Int.ediv_lt_of_lt_mul (by omega) ?_
          have h3 : (10 : Int) ^ m * 10 ≤ 10 ^ m * (36 - t) := Int.mul_le_mul_of_nonneg_left (by omega) (Int.pow_nonneg (by omega))
          rw [Int.pow_succ] at h1
          omega
        have := ih hq1 (l ++ [dB (t + (N - t) % (36 - t))]) (j + 1) (by simp; omega) hq0
        rw [List.append_assoc] at this
        refine Wh.sub (σ' := [("N", .int ((N - t) / (36 - t))), ("bias", .int bias), ("result", .ref a), ("j", .int (j + 1))]) ⟨rfl, rfl, rfl, rfl, trivial⟩ ?_
        have e : ((dgs.getD (t + (N - t) % (36 - t)).toNat 0).toNat : Int).toNat.toUInt8 = dB (t + (N - t) % (36 - t)) := by simp [dB]
        rw [e]
        exact this
  · intro pm cd doc vals h
    obtain ⟨x, y, rfl⟩ := len2 h
    rfl
theorem adapt_tail {delta n : Int} (hd : 0 ≤ delta) (hn : 0 < n) (hn2 : n < 2 ^ 64) :
    Xs Γ 0 (fnAt pg 4).2.2 [("delta", .int delta), ("numchars", .int n)] [] (fnAt pg 4).2.1.tail (fun fl _ _ => fl = .ret (.int (adLoop (delta + delta / n) 0))) := by
  refine Xs.cons (X1.aug rfl (by wtm_at "ev") (by wtm_at "op") ?_)
  refine Xs.cons (X1.assign (by wtm_at "ev") ?_)
  refine Xs.cons (X1.while ?_)
  have hd' : 0 ≤ delta / n := Int.ediv_nonneg hd (by omega)
  generalize he : delta + delta / n = e
  have he0 : 0 ≤ e := by omega
  clear he hd hd'
  refine Wh.sub (σ' := [("delta", .int e), ("divisions", .int 0)]) ⟨rfl, rfl, trivial⟩ ?_
  generalize hR : adLoop e 0 = R
  generalize hdv : (0 : Int) = dv at hR
  have he0' : 0 ≤ e := he0
  clear hdv he0
  obtain ⟨m, hm⟩ : ∃ m : Nat, e.toNat ≤ m := ⟨_, Nat.le_refl _⟩
  induction m using Nat.strongRecOn generalizing e dv with
  | ind m ih =>
    refine Wh.step (by wtm_at "tr") (fun hc => ?_) (fun hc => ?_)
    · have hc' := of_decide_eq_true hc
      refine Xs.cons (X1.assign (by wtm_at "ev") ?_)
      refine Xs.cons (X1.aug rfl (by wtm_at "ev") (by wtm_at "op") ?_)
      refine Xs.nil ?_
      refine Wh.sub (σ' := [("delta", .int (e / 35)), ("divisions", .int (dv + 36))]) ⟨rfl, rfl, trivial⟩ ?_
      rw [adLoop, dif_pos hc'] at hR
      exact ih (e / 35).toNat (by omega) (e / 35) (dv + 36) hR (by omega) (Nat.le_refl _)
    · have hc' := of_decide_eq_false hc
      refine Xs.nil ?_
      refine Xs.cons (X1.assign (by wtm_at "ev") ?_)
      refine Xs.cons (X1.ret (by wtm_at "ev") ?_)
      rw [adLoop, dif_neg hc'] at hR
      rw [hR]

theorem adapt_ok {a : Addr} (hA : DefAt Γ a "adapt" (fnAt pg 4)) {delta n : Int} {first : Bool} (hd : 0 ≤ delta) (hn : 0 < n) (hn2 : n < 2 ^ 64) :
    CallOk Γ 1 (.ref a) [.int delta, .bool first, .int n] (.int (adaptF delta first n)) := by
  refine DefAt.call hA ?_ ?_
  · refine Xs.cons (X1.ite (by wtm_at "tr") (fun hc => ?_) (fun hc => ?_))
    · subst hc
      refine Xs.cons (X1.aug rfl (by wtm_at "ev") (by wtm_at "op") ?_)
      refine Xs.nil ?_
      exact Xs.sub (σ' := [("delta", .int (delta / 700)), ("numchars", .int n)]) ⟨rfl, rfl, trivial⟩ (adapt_tail (by omega) hn hn2)
    · subst hc
      refine Xs.cons (X1.aug rfl (by wtm_at "ev") (by wtm_at "op") ?_)
      refine Xs.nil ?_
      exact Xs.sub (σ' := [("delta", .int (delta / 2)), ("numchars", .int n)]) ⟨rfl, rfl, trivial⟩ (adapt_tail (by omega) hn hn2)
  · intro pm cd doc vals h
    obtain ⟨x, y, z, rfl⟩ := len3 h
    rfl


theorem gi_ok {a aG aA aT : Addr} (hI : DefAt Γ a "generate_integers" (fnAt pg 5)) (g : GHas Γ aT) (dG : DefAt Γ aG "generate_generalized_integer" (fnAt pg 3)) (nG : Γ.gl.lookup ("generate_generalized_integer" : Str) = some (PV.obj (.ref aG)))
    (dA : DefAt Γ aA "adapt" (fnAt pg 4)) (nAd : Γ.gl.lookup ("adapt" : Str) = some (PV.obj (.ref aA))) (nE : Γ.gl.lookup ("enumerate" : Str) = some (PV.obj (.type "enumerate")))
    {base : Int} {ds : List Int} (hb0 : 0 ≤ base) (hb1 : base < 2 ^ 60) (hd : ∀ d ∈ ds, 0 ≤ d ∧ d < 10 ^ 20) (hl : ds.length < 1000) :
    CallOk Γ 3 (.ref a) [.int base, .lst (ds.map .int)] (.bytes ((giD base 0 72 ds).map dB)) := by
  have g' := g
  obtain ⟨dT, nT, nD, nB, nA⟩ := g
  have kG := dG.keep
  have kA := dA.keep
  refine DefAt.call hI ?_ ?_
  · refine Xs.cons (X1.own (EvN.call (by wtm_at "ev") (by wtm_at "kp") (by wtm_at "es") CallN.bytearray) fun a _ => ?_)
    refine Xs.cons (X1.assign (by wtm_at "ev") ?_)
    refine Xs.cons (X1.forI (EvI.enum (by wtm_at "ev") (by wtm_at "es")) ?_ (fun _ => rfl))
    refine Fo.sub (σ' := [("baselen", .int base), ("result", .ref a), ("bias", .int 72)]) (by wtm_at "sub") ?_
    generalize hR : giD base 0 72 ds = R
    refine (?_ : ∀ (ds : List Int) (p : Nat) (bias : Int) (done : List Int), (∀ d ∈ ds, 0 ≤ d ∧ d < 10 ^ 20) → p + ds.length < 1000 → done.length ≤ 21 * p → done ++ giD base (p : Int) bias ds = R →
      Fo Γ 2 (fnAt pg 5).2.2 [("baselen", .int base), ("result", .ref a), ("bias", .int bias)] [(a, .barr (done.map dB))] _ _ _ (enumL (p : Int) (ds.map .int)) _) ds 0 72 [] hd (by omega) (by simp) hR
    intro ds
    induction ds with
    | nil =>
      intro p bias done _ _ hz hr
      refine Fo.nil (Xs.nil ?_)
      refine Xs.cons (X1.ret (Ev.bytesOf (μ₁ := []) (μ₂ := []) (by wtm_at "ev") rfl (by simp; omega)) ?_)
      simp only [giD, List.append_nil] at hr
      rw [hr]
    | cons d ds ih =>
      intro p bias done hd hp hz hr
      obtain ⟨h0, h1⟩ := hd d List.mem_cons_self
      simp only [List.length_cons] at hp
      refine Fo.cons (As.tuple2 As.name As.name) ?_
      refine Xs.cons (X1.assign (Ev.call (by wtm_at "ev") (by wtm_at "kp") (by wtm_at "es") (ggi_ok dG g' h0 h1 (by decide))) ?_)
      have hgl := ggiD_length_le 20 d bias 0 h1
      refine Xs.cons (X1.meth (μ₁ := []) (μ₂ := []) (a := a) (o := .barr (done.map dB)) rfl (by wtm_at "es") (MethOk.ba_extend (m := ggiB d bias) (by unfold ggiB; simp; omega)) F.ba_plainAttrs F.ba_slot_extend F.ba_type_extend ?_)
      refine Xs.cons (X1.assign (Ev.call (by wtm_at "ev") (by wtm_at "kp") (by wtm_at "es") (CallOk.mono (adapt_ok dA h0 (by omega) (by omega)) (by decide))) ?_)
      refine Xs.nil ?_
      have e : done.map dB ++ ggiB d bias = (done ++ ggiD d bias 0).map dB := by unfold ggiB; simp
      rw [e]
      have e2 : (p : Int) + 1 = ((p + 1 : Nat) : Int) := by omega
      rw [e2]
      have := ih (p + 1) (adaptF d (decide ((p : Int) = 0)) (base + p + 1)) (done ++ ggiD d bias 0) (fun x hx => hd x (List.mem_cons_of_mem _ hx)) (by omega) (by simp; omega)
      have e3 : done ++ giD base (p : Int) bias (d :: ds) = (done ++ ggiD d bias 0) ++ giD base ((p + 1 : Nat) : Int) (adaptF d (decide ((p : Int) = 0)) (base + p + 1)) ds := by
        rw [giD, List.append_assoc, ← e2]
      rw [e3] at hr
      exact Fo.sub (by wtm_at "sub") (this hr)
  · intro pm cd doc vals h
    obtain ⟨x, y, rfl⟩ := len2 h
    rfl


/-! ### decode_generalized_number -/
theorem dec_ok {a aT : Addr} (hD : DefAt Γ a "decode_generalized_number" (fnAt pg 6)) (dT : DefAt Γ aT "T" (fnAt pg 1)) (nT : Γ.gl.lookup ("T" : Str) = some (PV.obj (.ref aT)))
    {ds post : List Int} {bias N : Int} {p : Nat} {err : PV} (hd : ∀ d ∈ ds, 0 ≤ d ∧ d < 36) (hl : ds.length < 2 ^ 20) (hN : 0 ≤ N) (hdr : ds.drop p = ggiD N bias 0 ++ post) :
    CallOk Γ 2 (.ref a) [.bytes (ds.map dU), .int (p : Int), .int bias, err] (.tup [.int ((p + (ggiD N bias 0).length : Nat) : Int), .int N]) := by
  have kT := dT.keep
  refine DefAt.call hD ?_ ?_
  · refine Xs.cons (X1.assign (by wtm_at "ev") ?_)
    refine Xs.cons (X1.assign (by wtm_at "ev") ?_)
    refine Xs.cons (X1.assign (by wtm_at "ev") ?_)
    refine Xs.cons (X1.while ?_)
    refine Wh.sub (σ' := [("extended", .bytes (ds.map dU)), ("extpos", .int (p : Int)), ("bias", .int bias), ("result", .int 0), ("w", .int 1), ("j", .int 0)]) (by wtm_at "sub") ?_
    generalize hR : PV.tup [.int ((p + (ggiD N bias 0).length : Nat) : Int), .int N] = R
    refine (?_ : ∀ (m : Nat) (N j r w : Int) (p : Nat), N.toNat ≤ m → 0 ≤ N → ds.drop p = ggiD N bias j ++ post → PV.tup [.int ((p + (ggiD N bias j).length : Nat) : Int), .int (r + w * N)] = R →
      Wh Γ 1 (fnAt pg 6).2.2 [("extended", .bytes (ds.map dU)), ("extpos", .int (p : Int)), ("bias", .int bias), ("result", .int r), ("w", .int w), ("j", .int j)] [] _ _ _ _) N.toNat N 0 0 1 p (Nat.le_refl _) hN hdr (by rw [← hR]; simp)
    intro m
    induction m using Nat.strongRecOn with
    | ind m ih =>
      intro N j r w p hm hN hdr hR
      have t1 := tF_ge j bias
      have t2 := tF_le j bias
      obtain ⟨d, rest, hg, hd0, hd35, hlt, hge⟩ : ∃ d rest, ggiD N bias j = d :: rest ∧ 0 ≤ d ∧ d < 36 ∧ (d < tF j bias → rest = [] ∧ d = N) ∧ (¬ d < tF j bias → rest = ggiD ((N - tF j bias) / (36 - tF j bias)) bias (j + 1) ∧ N = d + (36 - tF j bias) * ((N - tF j bias) / (36 - tF j bias)) ∧ tF j bias ≤ N) := by
        rw [ggiD]
        split
        · exact ⟨N, [], rfl, hN, by omega, fun _ => ⟨rfl, rfl⟩, fun h => absurd ‹_› h⟩
        · have m0 := Int.emod_nonneg (N - tF j bias) (b := 36 - tF j bias) (by omega)
          have m1 := Int.emod_lt_of_pos (N - tF j bias) (b := 36 - tF j bias) (by omega)
          have me := Int.mul_ediv_add_emod (N - tF j bias) (36 - tF j bias)
          exact ⟨_, _, rfl, by omega, by omega, fun h => by omega, fun _ => ⟨rfl, by omega, by omega⟩⟩
      have hp : p < ds.length := by
        have : (ds.drop p).length ≠ 0 := by rw [hdr, hg]; simp
        rw [List.length_drop] at this; omega
      have hget : (ds.map dU).getD (p : Int).toNat 0 = dU d := by
        have : ds[p]? = some d := by
          have h1 : (ds.drop p)[0]? = some d := by rw [hdr, hg]; rfl
          rw [List.getElem?_drop] at h1; simpa using h1
        rw [Int.toNat_natCast, List.getD_eq_getElem?_getD, List.getElem?_map, this]; rfl
      refine Wh.step (by wtm_at "tr") (fun hc => ?_) (fun hc => absurd hc (by decide))
      refine Xs.cons (X1.try (Xs.cons (X1.assign (Ev.sub (by wtm_at "ev") (by wtm_at "ev") (Op2.itemB (Int.natCast_nonneg _) (by simp; omega) (by simp; omega)) HasItem.bytes) (Xs.nil (Xs.nil ?_)))))
      rw [hget]
      refine Xs.cons (X1.aug rfl (by wtm_at "ev") (by wtm_at "op") ?_)
      have hv := dU_val d.toNat (by omega)
      rw [Int.toNat_of_nonneg hd0] at hv
      generalize ((dU d).toNat : Int) = c at hv
      have e1 : ((p : Int) + 1) = ((p + 1 : Nat) : Int) := by omega
      rw [e1]
      refine Xs.cut [("extended", .bytes (ds.map dU)), ("extpos", .int ((p + 1 : Nat) : Int)), ("bias", .int bias), ("result", .int r), ("w", .int w), ("j", .int j), ("digit", .int d)] [] ?_ ?_
      · refine X1.ite (Tr.cmp2 (by wtm_at "ev") (by wtm_at "ev") (by wtm_at "op") (fun _ => by wtm_at "ev") (fun _ => by wtm_at "op")) (fun hc => ?_) (fun hc => ?_)
        · have hc' : 65 ≤ c ∧ c ≤ 90 := by simpa using hc
          have hd26 : d < 26 := by
            rw [hv] at hc'
            split at hc' <;> omega
          rw [if_pos hd26] at hv
          refine Xs.cons (X1.assign (by wtm_at "ev") (Xs.nil ⟨rfl, ?_, rfl⟩))
          have : c - 65 = d := by omega
          rw [this]
          wtm_at "sub"
        · have hc' : ¬ (65 ≤ c ∧ c ≤ 90) := by simpa using hc
          have hd26 : ¬ d < 26 := by
            intro q
            rw [if_pos q] at hv; omega
          rw [if_neg hd26] at hv
          refine Xs.cons (X1.ite (Tr.cmp2 (by wtm_at "ev") (by wtm_at "ev") (by wtm_at "op") (fun _ => by wtm_at "ev") (fun _ => by wtm_at "op")) (fun hc2 => ?_) (fun hc2 => ?_))
          · refine Xs.cons (X1.assign (by wtm_at "ev") (Xs.nil (Xs.nil ⟨rfl, ?_, rfl⟩)))
            have : c - 22 = d := by omega
            rw [this]
            wtm_at "sub"
          · have : ¬ (48 ≤ c ∧ c ≤ 57) := by simpa using hc2
            omega
      refine Xs.cons (X1.assign (Ev.call (by wtm_at "ev") (by wtm_at "kp") (by wtm_at "es") (T_ok dT)) ?_)
      refine Xs.cons (X1.aug rfl (by wtm_at "ev") (by wtm_at "op") ?_)
      refine Xs.cons (X1.ite (by wtm_at "tr") (fun hc => ?_) (fun hc => ?_))
      · obtain ⟨hr, he⟩ := hlt (of_decide_eq_true hc)
        subst hr; subst he
        refine Xs.cons (X1.ret (v := R) ?_ rfl)
        have e2 : r + d * w = r + w * d := by rw [Int.mul_comm]
        rw [e2, ← hR, hg]
        wtm_at "ev"
      · obtain ⟨hr, he, htN⟩ := hge (of_decide_eq_false hc)
        refine Xs.nil ?_
        refine Xs.cons (X1.assign (by wtm_at "ev") ?_)
        refine Xs.cons (X1.aug rfl (by wtm_at "ev") (by wtm_at "op") ?_)
        refine Xs.nil ?_
        generalize hN' : (N - tF j bias) / (36 - tF j bias) = N' at *
        refine Wh.sub (by wtm_at "sub") (ih N'.toNat ?_ N' (j + 1) (r + d * w) (w * (36 - tF j bias)) (p + 1) (Nat.le_refl _) ?_ ?_ ?_)
        · have := next_lt (N := N) t1 t2 (by omega); rw [hN'] at this; omega
        · rw [← hN']; exact Int.ediv_nonneg (by omega) (by omega)
        · have : ds.drop (p + 1) = (ds.drop p).drop 1 := by rw [List.drop_drop]
          rw [this, hdr, hg, hr]; rfl
        · rw [← hR, hg, hr]
          congr 2
          · congr 1; simp; omega
          · congr 1
            have e3 : N = d + (36 - tF j bias) * N' := he
            rw [e3, Int.mul_add, Int.mul_assoc, Int.mul_comm d w]
            congr 1
            omega
  · intro pm cd doc vals h
    obtain ⟨x, y, z, u, rfl⟩ := len4 h
    rfl

/-! ### insertion_sort -/
structure IHas (Γ : Cx) (aT aA aD : Addr) : Prop where
  dT : DefAt Γ aT "T" (fnAt pg 1)
  nT : Γ.gl.lookup ("T" : Str) = some (PV.obj (.ref aT))
  dA : DefAt Γ aA "adapt" (fnAt pg 4)
  nA : Γ.gl.lookup ("adapt" : Str) = some (PV.obj (.ref aA))
  dD : DefAt Γ aD "decode_generalized_number" (fnAt pg 6)
  nD : Γ.gl.lookup ("decode_generalized_number" : Str) = some (PV.obj (.ref aD))
  nLen : Γ.gl.lookup ("len" : Str) = some (PV.obj (.builtin "len"))
  nOrd : Γ.gl.lookup ("ord" : Str) = some (PV.obj (.builtin "ord"))
  nChr : Γ.gl.lookup ("chr" : Str) = some (PV.obj (.builtin "chr"))
local macro_rules | `(tactic| wtm_at "cl") => `(tactic| first
  | ((with_reducible refine' CallOk.len_bytes ?s1); (case s1 => wtm_at "side"))
  | ((with_reducible refine' CallOk.len_str ?s1); (case s1 => wtm_at "side"))
  | ((with_reducible refine' CallOk.chr ?s1 ?s2); (case s1 => wtm_at "side"); (case s2 => wtm_at "side"))
  | with_reducible exact CallOk.ord
  | fail "no contract")
theorem ins_ok {a aT aA aD : Addr} (hI : DefAt Γ a "insertion_sort" (fnAt pg 7)) (H : IHas Γ aT aA aD) {base el : List Nat} {ds : List Int} (hd : ∀ d ∈ ds, 0 ≤ d ∧ d < 10 ^ 20) (hl : ds.length < 1000) (hb : base.length < 10000)
    (he : el ≠ strictL ∨ noOv base 128 (-1) ds) :
    CallOk Γ 3 (.ref a) [.str base, .bytes ((giD base.length 0 72 ds).map dU), .str el] (.str (insF base 128 (-1) ds)) := by
  obtain ⟨dT, nT, dA, nA, dD, nD, nLen, nOrd, nChr⟩ := H
  have kA := dA.keep
  have kD := dD.keep
  have hFl := giD_length base.length ds 0 72 fun d hm => (hd d hm).2
  have hFd := giD_dig base.length ds 0 72 fun d hm => (hd d hm).1
  refine DefAt.call hI ?_ ?_
  · refine Xs.cons (X1.assign (by wtm_at "ev") ?_)
    refine Xs.cons (X1.assign (by wtm_at "ev") ?_)
    refine Xs.cons (X1.assign (by wtm_at "ev") ?_)
    refine Xs.cons (X1.assign (by wtm_at "ev") ?_)
    refine Xs.cons (X1.while ?_)
    generalize hF : giD (base.length : Int) 0 72 ds = FF at hFl hFd
    generalize hR : insF base 128 (-1) ds = R
    generalize hB : base.length = bl at hF
    refine Wh.sub (σ' := [("base", .str base), ("extended", .bytes (FF.map dU)), ("errors", .str el), ("char", .int 128), ("pos", .int (-1)), ("bias", .int 72), ("extpos", .int ((0 : Nat) : Int))]) (by wtm_at "sub") ?_
    refine (?_ : ∀ (ds : List Int) (base : List Nat) (char pos b : Int) (q p : Nat), (∀ d ∈ ds, 0 ≤ d ∧ d < 10 ^ 20) → q + ds.length < 1000 → base.length = bl + q → 0 ≤ char → char ≤ 1114111 → -1 ≤ pos → p ≤ FF.length → (q = 0 ↔ p = 0) → FF.drop p = giD (bl : Int) (q : Int) b ds →
        (el ≠ strictL ∨ noOv base char pos ds) → insF base char pos ds = R →
      Wh Γ 2 (fnAt pg 7).2.2 [("base", .str base), ("extended", .bytes (FF.map dU)), ("errors", .str el), ("char", .int char), ("pos", .int pos), ("bias", .int b), ("extpos", .int (p : Int))] [] _ _ _ _)
      ds base 128 (-1) 72 0 0 hd (by omega) (by omega) (by decide) (by decide) (by decide) (by omega) (by simp) (by rw [List.drop_zero]; exact hF.symm) he hR
    intro ds
    induction ds with
    | nil =>
      intro base char pos b q p _ _ hbl c0 c1 p1 hp hqp hdr hov hr
      have ep : p = FF.length := by
        have : (FF.drop p).length = 0 := by rw [hdr]; rfl
        rw [List.length_drop] at this; omega
      simp only [insF] at hr
      subst hr
      refine Wh.step (by wtm_at "tr") (fun hc => ?_) (fun hc => ?_)
      · have := of_decide_eq_true hc
        simp at this; omega
      · refine Xs.nil ?_
        exact Xs.cons (X1.ret (by wtm_at "ev") rfl)
    | cons d ds ih =>
      intro base char pos b q p hd hq hbl c0 c1 p1 hp hqp hdr hov hr
      obtain ⟨d0, d1⟩ := hd d List.mem_cons_self
      simp only [List.length_cons] at hq
      simp only [giD] at hdr
      have hg := ggiD_pos d b 0
      have hpl : p + (ggiD d b 0).length ≤ FF.length := by
        have : (FF.drop p).length = (ggiD d b 0 ++ giD (bl : Int) ((q : Int) + 1) (adaptF d (decide ((q : Int) = 0)) (bl + q + 1)) ds).length := by rw [hdr]
        rw [List.length_drop, List.length_append] at this; omega
      refine Wh.step (by wtm_at "tr") (fun hc => ?_) (fun hc => ?_)
      · refine Xs.cons (X1.assignT (Ev.call (by wtm_at "ev") (by wtm_at "kp") (by wtm_at "es") (dec_ok dD dT nT hFd (by omega) d0 hdr)) (As.tuple2 As.name As.name) ?_)
        refine Xs.cons (X1.ite (c := false) (Tr.cmp (by wtm_at "ev") (by wtm_at "ev") (Op2.is0 rfl)) (fun hc => nomatch hc) (fun _ => Xs.nil ?_))
        refine Xs.cons (X1.aug rfl (by wtm_at "ev") (by wtm_at "op") ?_)
        refine Xs.cons (X1.aug rfl (by wtm_at "ev") (by wtm_at "op") ?_)
        have hpos : 0 ≤ pos + (d + 1) := by omega
        have hdiv : 0 ≤ (pos + (d + 1)) / ((base.length : Int) + 1) := Int.ediv_nonneg hpos (by omega)
        have hm0 : 0 ≤ (pos + (d + 1)) % ((base.length : Int) + 1) := Int.emod_nonneg _ (by omega)
        have hm1 : (pos + (d + 1)) % ((base.length : Int) + 1) < (base.length : Int) + 1 := Int.emod_lt_of_pos _ (by omega)
        simp only [insF, noOv] at hr hov
        generalize hP : pos + (d + 1) = P at *
        generalize hC : char + P / ((base.length : Int) + 1) = C at *
        refine Xs.cut [("base", .str base), ("extended", .bytes (FF.map dU)), ("errors", .str el), ("char", .int (stepC C)), ("pos", .int P), ("bias", .int b), ("extpos", .int (p : Int)), ("newpos", .int ((p + (ggiD d b 0).length : Nat) : Int)), ("delta", .int d)] [] ?_ ?_
        · refine X1.ite (by wtm_at "tr") (fun hc => ?_) (fun hc => ?_)
          · have hov1 := of_decide_eq_true hc
            have hel : el ≠ strictL := by rcases hov with h | h; exact h; omega
            refine Xs.cons (X1.ite (c := false) (Tr.cmp (by wtm_at "ev") (Ev.cstr (l := strictL) (by decide +kernel)) ?_) (fun hc => nomatch hc) (fun _ => Xs.nil ?_))
            · have := Op2.eqS (Γ := Γ) (a := el) (b := strictL)
              rwa [beq_eq_false_iff_ne.mpr hel] at this
            refine Xs.cons (X1.assign (Ev.call (by wtm_at "ev") (by wtm_at "kp") (Es.cons (Ev.cstr (l := [63]) (by decide +kernel)) Es.nil) CallOk.ord) ?_)
            refine Xs.nil ⟨rfl, ?_, rfl⟩
            have e : stepC C = 63 := by unfold stepC; rw [if_pos hov1]
            rw [e]
            wtm_at "sub"
          · have hov1 := of_decide_eq_false hc
            refine Xs.nil ⟨rfl, ?_, rfl⟩
            rw [stepC_id (by omega)]
            wtm_at "sub"
        have hC0 : 0 ≤ stepC C := by unfold stepC; split <;> omega
        have hC1 : stepC C ≤ 1114111 := by unfold stepC; split <;> omega
        refine Xs.cons (X1.assign (by wtm_at "ev") ?_)
        generalize hM : P % ((base.length : Int) + 1) = M at *
        obtain ⟨mn, rfl⟩ : ∃ mn : Nat, M = (mn : Int) := ⟨M.toNat, by omega⟩
        refine Xs.cons (X1.assign (Ev.bin (Ev.bin (Ev.slice (by wtm_at "ev") Pt.none (Pt.some (by wtm_at "ev")) (SliceOk.strTo (by omega) (by omega)) HasItem.str) (by wtm_at "ev") (Op2.addS (by simp; omega))) (Ev.slice (by wtm_at "ev") (Pt.some (by wtm_at "ev")) Pt.none (SliceOk.strFrom (by omega) (by omega)) HasItem.str) (Op2.addS (by simp; omega))) ?_)
        have eb : base.take mn ++ [(stepC C).toNat] ++ base.drop mn = putN base (mn : Int) (stepC C) := by unfold putN; simp
        rw [eb]
        have hpl' := putN_length base (mn : Int) (stepC C)
        refine Xs.cons (X1.assign (Ev.call (by wtm_at "ev") (by wtm_at "kp") (by wtm_at "es") (CallOk.mono (adapt_ok dA d0 (by omega) (by omega)) (by decide))) ?_)
        refine Xs.cons (X1.assign (by wtm_at "ev") ?_)
        refine Xs.nil ?_
        have ed : decide ((p : Int) = 0) = decide ((q : Int) = 0) := decide_eq_decide.mpr (by omega)
        have en : ((putN base (mn : Int) (stepC C)).length : Int) = (bl : Int) + (q : Int) + 1 := by rw [hpl']; omega
        rw [ed, en]
        refine Wh.sub (by wtm_at "sub") (ih (putN base (mn : Int) (stepC C)) (stepC C) (mn : Int) (adaptF d (decide ((q : Int) = 0)) ((bl : Int) + q + 1)) (q + 1) (p + (ggiD d b 0).length) (fun x hx => hd x (List.mem_cons_of_mem _ hx)) (by omega) (by omega) hC0 hC1 (by omega) hpl (by omega) ?_ ?_ ?_)
        · rw [← List.drop_drop, hdr]
          simp
        · rcases hov with h | ⟨h1, h2⟩
          · exact .inl h
          · refine .inr ?_
            rw [stepC_id h1]; exact h2
        · exact hr
      · have := of_decide_eq_false hc
        simp at this; omega
  · intro pm cd doc vals h
    obtain ⟨x, y, z, rfl⟩ := len3 h
    rfl

abbrev gl11 (aT aG aA aI aD aS aL : Addr) : List (Str × PV) := [("T", .obj (.ref aT)), ("digits", .bytes dgs), ("generate_generalized_integer", .obj (.ref aG)), ("adapt", .obj (.ref aA)), ("generate_integers", .obj (.ref aI)), ("decode_generalized_number", .obj (.ref aD)), ("insertion_sort", .obj (.ref aS)), ("_law_laid", .obj (.ref aL)),
  ("len", .obj (.builtin "len")), ("bytes", .obj (.type "bytes")), ("bytearray", .obj (.type "bytearray")), ("enumerate", .obj (.type "enumerate")), ("ord", .obj (.builtin "ord")), ("chr", .obj (.builtin "chr")), ("range", .obj (.type "range")), ("sorted", .obj (.builtin "sorted"))]
abbrev G11 (w : World) (B : Heap) (aT aG aA aI aD aS aL : Addr) : Cx := ⟨PySem.Challenge.pw_dm0101_11, w, B, gl11 aT aG aA aI aD aS aL⟩
structure Has11 (w : World) (B : Heap) (aT aG aA aI aD aS aL : Addr) : Prop where
  dT : DefAt (G11 w B aT aG aA aI aD aS aL) aT "T" (fnAt pg 1)
  dG : DefAt (G11 w B aT aG aA aI aD aS aL) aG "generate_generalized_integer" (fnAt pg 3)
  dA : DefAt (G11 w B aT aG aA aI aD aS aL) aA "adapt" (fnAt pg 4)
  dI : DefAt (G11 w B aT aG aA aI aD aS aL) aI "generate_integers" (fnAt pg 5)
  dD : DefAt (G11 w B aT aG aA aI aD aS aL) aD "decode_generalized_number" (fnAt pg 6)
  dS : DefAt (G11 w B aT aG aA aI aD aS aL) aS "insertion_sort" (fnAt pg 7)
  dL : DefAt (G11 w B aT aG aA aI aD aS aL) aL "_law_laid" (fnAt pg 9)
def pairP (q : Int × Int) : PV := .tup [.int q.1, .int q.2]
theorem numsF_length : ∀ (ps : List (Int × Int)) (n c p : Int), (numsF n c p ps).length = ps.length
  | [], _, _, _ => rfl
  | q :: ps, n, c, p => by rw [numsF, List.length_cons, List.length_cons, numsF_length ps]
section
variable {w : World} {B : Heap} {aT aG aA aI aD aS aL : Addr} (H : Has11 w B aT aG aA aI aD aS aL)
include H in
theorem laid_ok {base : List Nat} {ps : List (Int × Int)} (hC : Chn base.length 128 (-1) ps) (hb : base.length ≤ 1000) (hl : ps.length ≤ 100) :
    CallOk (G11 w B aT aG aA aI aD aS aL) 4 (.ref aL) [.str base, .lst (ps.map pairP)] (.str (putAll base ps)) := by
  have kS := H.dS.keep
  have kI := H.dI.keep
  obtain ⟨i1, i2, i3⟩ := ins_nums ps base 128 (-1) hC (by decide) (by decide) (by omega) (by omega)
  generalize hN : numsF base.length 128 (-1) ps = N at *
  have hNl : N.length ≤ 100 := by rw [← hN, numsF_length]; exact hl
  refine DefAt.call H.dL ?_ ?_
  · refine Xs.cons (X1.own (EvN.list Es.nil (by simp)) fun a ha => ?_)
    refine Xs.cons (X1.assign (by wtm_at "ev") ?_)
    refine Xs.cons (X1.assign (by wtm_at "ev") ?_)
    refine Xs.cons (X1.for (p := .rng 0 ((ps.map pairP).length : Int) 1) (Ev.call (by wtm_at "ev") (by wtm_at "kp") (Es.cons (Ev.call (by wtm_at "ev") (by wtm_at "kp") (by wtm_at "es") (CallOk.len_lst (by simp; omega))) Es.nil) CallOk.range1) (IterOk.upTo (n := ps.length) (by simp) (by omega)) ?_)
    refine Fo.sub (σ' := [("base", .str base), ("pairs", .lst (ps.map pairP)), ("numbers", .ref a), ("point", .int 128), ("place", .int (-1))]) (by wtm_at "sub") ?_
    refine (?_ : ∀ (rest done : List (Int × Int)) (c p : Int) (acc : List Int), ps = done ++ rest → acc ++ numsF ((base.length : Int) + done.length) c p rest = N → acc.length = done.length → Chn ((base.length : Int) + done.length) c p rest → 0 ≤ c → c ≤ 100000 →
      Fo (G11 w B aT aG aA aI aD aS aL) 3 (fnAt pg 9).2.2 [("base", .str base), ("pairs", .lst (ps.map pairP)), ("numbers", .ref a), ("point", .int c), ("place", .int p)] [(a, .list (acc.map .int))] _ _ _ (rngItems (done.length : Int) 1 rest.length) _) ps [] 128 (-1) [] rfl (by simpa using hN) rfl (by simpa using hC) (by decide) (by decide)
    intro rest
    induction rest with
    | nil =>
      intro done c p acc hps hacc hal hch c0 c1
      simp only [numsF, List.append_nil] at hacc
      subst hacc
      refine Fo.nil (Xs.nil ?_)
      refine Xs.freeze0 (x := "numbers") rfl ?_
      have hgl := giD_length base.length acc 0 72 fun d hm => (i3 d hm).2
      refine Xs.cons (X1.assign (Ev.meth (Ev.call (by wtm_at "ev") (by wtm_at "kp") (Es.cons (Ev.call (by wtm_at "ev") (by wtm_at "kp") (by wtm_at "es") (CallOk.len_str (by omega))) (Es.cons (by wtm_at "ev") Es.nil)) (CallOk.mono (gi_ok H.dI ⟨H.dT, rfl, rfl, rfl, rfl⟩ H.dG rfl H.dA rfl rfl (base := (base.length : Int)) (by omega) (by omega) i3 (by omega)) (by decide))) HasMeth.bytes Es.nil (CallOk.upper (by simp; omega)) F.b_plainAttrs F.b_slot_upper F.b_type_upper) ?_)
      rw [toUpper_eq, map_upB]
      refine Xs.cons (X1.ret (Ev.call (by wtm_at "ev") (by wtm_at "kp") (Es.cons (by wtm_at "ev") (Es.cons (by wtm_at "ev") (Es.cons (Ev.cstr (l := strictL) (by decide +kernel)) Es.nil))) (ins_ok H.dS ⟨H.dT, rfl, H.dA, rfl, H.dD, rfl, rfl, rfl, rfl⟩ i3 (by omega) (by omega) (.inr i2))) ?_)
      rw [i1]
    | cons q rest ih =>
      intro done c p acc hps hacc hal hch c0 c1
      obtain ⟨h1, h2, h3, h4, h5⟩ := hch
      have hget : (ps.map pairP)[((done.length : Nat) : Int).toNat]? = some (.tup [.int q.1, .int q.2]) := by rw [hps, Int.toNat_natCast]; simp [pairP]
      have hlen : done.length < ps.length := by rw [hps]; simp
      rw [List.length_cons]
      show Fo _ _ _ _ _ _ _ _ (.int (done.length : Int) :: rngItems ((done.length : Int) + 1) 1 rest.length) _
      refine Fo.cons As.name ?_
      refine Xs.cons (X1.meth (μ₁ := []) (μ₂ := []) (a := a) (o := .list (acc.map .int)) rfl (Es.cons (Ev.bin (Ev.bin (Ev.bin (Ev.bin (Ev.bin (Ev.sub (Ev.sub (by wtm_at "ev") (by wtm_at "ev") (Op2.item (by omega) hget (by simp; omega)) HasItem.lst) (by wtm_at "ev") (Op2.itemT (by decide) rfl (by simp)) HasItem.tup) (by wtm_at "ev") Op2.sub)
        (Ev.bin (Ev.bin (Ev.call (by wtm_at "ev") (by wtm_at "kp") (by wtm_at "es") (CallOk.len_str (by omega))) (by wtm_at "ev") Op2.add) (by wtm_at "ev") Op2.add) (Op2.mul (by wtm_at "mul"))) (Ev.sub (Ev.sub (by wtm_at "ev") (by wtm_at "ev") (Op2.item (by omega) hget (by simp; omega)) HasItem.lst) (by wtm_at "ev") (Op2.itemT (by decide) rfl (by simp)) HasItem.tup) Op2.add) (by wtm_at "ev") Op2.sub) (by wtm_at "ev") Op2.sub) Es.nil)
        (MethOk.list_append (by simp; omega)) PySem.F.plainAttrs_list PySem.F.slot_list_append PySem.F.type_list_append ?_)
      refine Xs.cons (X1.assignT (v := pairP q) (Ev.sub (by wtm_at "ev") (by wtm_at "ev") (Op2.item (by omega) hget (by simp; omega)) HasItem.lst) (As.tuple2 As.name As.name) ?_)
      refine Xs.nil ?_
      rw [show [] ++ (a, PO.list (acc.map PV.int ++ [PV.int ((q.1 - c) * ((base.length : Int) + (done.length : Int) + 1) + q.2 - p - 1)])) :: [] = [(a, PO.list ((acc ++ [(q.1 - c) * ((base.length : Int) + (done.length : Int) + 1) + q.2 - p - 1]).map PV.int))] from by simp]
      have e1 : ((done.length : Int) + 1) = ((done ++ [q]).length : Int) := by simp
      rw [e1]
      refine Fo.sub (by wtm_at "sub") (ih (done ++ [q]) q.1 q.2 _ (by rw [hps]; simp) ?_ (by simp [hal]) ?_ (by omega) (by omega))
      · rw [← hacc, ← e1]; simp [numsF, Int.add_assoc]
      · rw [← e1, ← Int.add_assoc]; exact h5
  · intro pm cd doc vals h
    obtain ⟨x, y, rfl⟩ := len2 h
    rfl
end

def cI (c : Nat) : PV := .int (c : Int)
def deedsF (ns : List Int) : List (Int × Int) := (2, 0) :: (3, 4) :: (ns.take 26).map fun x => (x % 4, x / 4)
theorem deedsF_kind {ns : List Int} : ∀ d ∈ deedsF ns, 0 ≤ d.1 ∧ d.1 ≤ 3 := by
  intro d hd
  unfold deedsF at hd
  rcases List.mem_cons.mp hd with rfl | hd
  · decide
  rcases List.mem_cons.mp hd with rfl | hd
  · decide
  obtain ⟨x, _, rfl⟩ := List.mem_map.mp hd
  dsimp only
  omega
theorem deedsF_length (ns : List Int) : (deedsF ns).length ≤ 28 := by
  unfold deedsF
  simp only [List.length_cons, List.length_map, List.length_take]
  omega
def baseF (ds : List (Int × Int)) (sd : Int) : List Nat := (ds.filter fun d => decide (d.1 = sd)).map fun d => (d.2 % 128).toNat
theorem baseF_eq (ds : List (Int × Int)) (sd : Int) : ((ds.map fun d => if decide (d.1 = sd) then some (PV.int (d.2 % 128)) else none).filterMap id) = (baseF ds sd).map cI := by
  rw [filterMap_if (fun d : Int × Int => decide (d.1 = sd)) (fun d => PV.int (d.2 % 128)) ds]
  unfold baseF cI
  rw [List.map_map]
  refine List.map_congr_left fun d _ => ?_
  show PV.int (d.2 % 128) = PV.int (((d.2 % 128).toNat : Nat) : Int)
  congr 1
  omega
theorem baseF_length (ds : List (Int × Int)) (sd : Int) : (baseF ds sd).length ≤ ds.length := by
  unfold baseF
  rw [List.length_map]
  exact List.length_filter_le _ _
theorem baseF_lt (ds : List (Int × Int)) (sd : Int) : ∀ c ∈ baseF ds sd, c < 128 := by
  intro c hc
  unfold baseF at hc
  obtain ⟨d, _, rfl⟩ := List.mem_map.mp hc
  omega
theorem sum_ones {α β : Type} (f : α → β) : ∀ l : List α, ((l.map fun c => [f c]).map (·.length)).sum = l.length
  | [] => rfl
  | a :: l => by simp only [List.map_cons, List.sum_cons, List.length_cons, List.length_nil, sum_ones f l]; omega
theorem ints_map_cut (l : List Int) (lo hi : Option Int) : cutL (l.map PV.int) lo hi = (cutL l lo hi).map .int := by
  unfold cutL
  simp only [List.map_take, List.map_drop, List.length_map]
theorem text_e (T : List Nat) : (T.map fun c => [c]).map PV.str = (T.map fun c => some (PV.str [c])).filterMap id := by rw [filterMap_some (fun c => PV.str [c]), List.map_map]; rfl
theorem join_text {Γ : Cx} {k : Nat} {T : List Nat} (hz : T.length < 2 ^ 18) : CallOk Γ k (.builtin "str.join") [.str [], .lst ((T.map fun c => [c]).map .str)] (.str T) := by
  have := CallOk.join (Γ := Γ) (k := k) (ls := T.map fun c => [c]) (by rw [sum_ones, List.length_map]; omega)
  rwa [flatten_ones (fun c => c), List.map_id'] at this
theorem chr_nat {Γ : Cx} {k c : Nat} (h : c ≤ 1114111) : CallOk Γ k (.builtin "chr") [.int (c : Int)] (.str [c]) := by
  have := CallOk.chr (Γ := Γ) (k := k) (i := (c : Int)) (by omega) (by omega)
  rwa [Int.toNat_natCast] at this
theorem insL_cI {T : List Nat} {pl pt : Int} (h : 0 ≤ pt) : insL (T.map cI) pl.toNat (.int pt) = (putN T pl pt).map cI := by
  unfold insL putN
  rw [List.map_append, List.map_cons, List.map_take, List.map_drop]
  congr 2
  unfold cI
  congr 1
  omega
theorem putAll_lt {M : Nat} : ∀ (ps : List (Int × Int)) (T : List Nat) (n c p : Int), Chn n c p ps → 100000 ≤ M → (∀ c ∈ T, c ≤ M) → ∀ c ∈ putAll T ps, c ≤ M
  | [], T, n, c, p, _, _, h => h
  | q :: ps, T, n, c, p, hC, hM, h => by
    rw [putAll]
    refine putAll_lt ps _ _ _ _ hC.2.2.2.2 hM fun x hx => ?_
    rcases putN_mem hx with hx | hx
    · exact h x hx
    · have := hC.2.2.2.1; omega

def own11 (b l0 l1 s0 s1 : Addr) (B0 B1 : List Nat) (both : List Tri) : Own :=
  [(b, .list (both.map triP)), (l0, .list ((flt 0 both).map pairP)), (l1, .list ((flt 1 both).map pairP)), (s0, .list ((putAll B0 (flt 0 both)).map cI)), (s1, .list ((putAll B1 (flt 1 both)).map cI))]
theorem own_pick (b l0 l1 s0 s1 : Addr) (B0 B1 : List Nat) (both : List Tri) (sd : Int) (hsd : sd = 0 ∨ sd = 1) : ∃ as al as' al' T' ps',
    ([PV.ref s0, PV.ref s1] : List PV)[sd.toNat]? = some (.ref as) ∧ ([PV.ref l0, PV.ref l1] : List PV)[sd.toNat]? = some (.ref al) ∧
    (own11 b l0 l1 s0 s1 B0 B1 both).Perm [(b, .list (both.map triP)), (as, .list ((putAll (if sd = 0 then B0 else B1) (flt sd both)).map cI)), (al, .list ((flt sd both).map pairP)), (as', T'), (al', ps')] ∧
    ∀ pt pl, [(b, PO.list ((both ++ [(pt, sd, pl)]).map triP)), (as, .list ((putN (putAll (if sd = 0 then B0 else B1) (flt sd both)) pl pt).map cI)), (al, .list ((flt sd both ++ [(pt, pl)]).map pairP)), (as', T'), (al', ps')].Perm (own11 b l0 l1 s0 s1 B0 B1 (both ++ [(pt, sd, pl)])) := by
  rcases hsd with rfl | rfl
  · refine ⟨s0, l0, s1, l1, .list ((putAll B1 (flt 1 both)).map cI), .list ((flt 1 both).map pairP), rfl, rfl, ?_, fun pt pl => ?_⟩
    · unfold own11
      rw [if_pos rfl]
      generalize (b, PO.list (both.map triP)) = x1
      generalize (l0, PO.list ((flt 0 both).map pairP)) = x2
      generalize (l1, PO.list ((flt 1 both).map pairP)) = x3
      generalize (s0, PO.list ((putAll B0 (flt 0 both)).map cI)) = x4
      generalize (s1, PO.list ((putAll B1 (flt 1 both)).map cI)) = x5
      refine List.Perm.cons _ ?_
      -- [x2,x3,x4,x5] ~ [x4,x2,x5,x3]
      refine (List.Perm.trans (List.Perm.cons _ (List.Perm.swap _ _ _)) (List.Perm.swap _ _ _)).trans (List.Perm.cons _ (List.Perm.cons _ (List.Perm.swap _ _ _)))
    · have e0 : flt 0 (both ++ [(pt, 0, pl)]) = flt 0 both ++ [(pt, pl)] := by rw [flt_app]; simp [flt]
      have e1 : flt 1 (both ++ [(pt, 0, pl)]) = flt 1 both := by rw [flt_app]; simp [flt]
      unfold own11
      rw [e0, e1, if_pos rfl, putAll_snoc]
      dsimp only
      generalize (b, PO.list ((both ++ [(pt, 0, pl)]).map triP)) = x1
      generalize (l0, PO.list ((flt 0 both ++ [(pt, pl)]).map pairP)) = x2
      generalize (l1, PO.list ((flt 1 both).map pairP)) = x3
      generalize (s0, PO.list ((putN (putAll B0 (flt 0 both)) pl pt).map cI)) = x4
      generalize (s1, PO.list ((putAll B1 (flt 1 both)).map cI)) = x5
      refine List.Perm.cons _ (List.Perm.symm ?_)
      refine (List.Perm.trans (List.Perm.cons _ (List.Perm.swap _ _ _)) (List.Perm.swap _ _ _)).trans (List.Perm.cons _ (List.Perm.cons _ (List.Perm.swap _ _ _)))
  · refine ⟨s1, l1, s0, l0, .list ((putAll B0 (flt 0 both)).map cI), .list ((flt 0 both).map pairP), rfl, rfl, ?_, fun pt pl => ?_⟩
    · unfold own11
      rw [if_neg (by decide)]
      generalize (b, PO.list (both.map triP)) = x1
      generalize (l0, PO.list ((flt 0 both).map pairP)) = x2
      generalize (l1, PO.list ((flt 1 both).map pairP)) = x3
      generalize (s0, PO.list ((putAll B0 (flt 0 both)).map cI)) = x4
      generalize (s1, PO.list ((putAll B1 (flt 1 both)).map cI)) = x5
      refine List.Perm.cons _ ?_
      -- [x2,x3,x4,x5] ~ [x5,x3,x4,x2]
      have h1 : [x2, x3, x4, x5].Perm [x5, x2, x3, x4] := List.perm_append_comm (l₁ := [x2, x3, x4]) (l₂ := [x5])
      have h2 : [x2, x3, x4].Perm [x3, x4, x2] := List.perm_append_comm (l₁ := [x2]) (l₂ := [x3, x4])
      exact h1.trans (List.Perm.cons _ h2)
    · have e0 : flt 0 (both ++ [(pt, 1, pl)]) = flt 0 both := by rw [flt_app]; simp [flt]
      have e1 : flt 1 (both ++ [(pt, 1, pl)]) = flt 1 both ++ [(pt, pl)] := by rw [flt_app]; simp [flt]
      unfold own11
      rw [e0, e1, if_neg (by decide), putAll_snoc]
      dsimp only
      generalize (b, PO.list ((both ++ [(pt, 1, pl)]).map triP)) = x1
      generalize (l0, PO.list ((flt 0 both).map pairP)) = x2
      generalize (l1, PO.list ((flt 1 both ++ [(pt, pl)]).map pairP)) = x3
      generalize (s0, PO.list ((putAll B0 (flt 0 both)).map cI)) = x4
      generalize (s1, PO.list ((putN (putAll B1 (flt 1 both)) pl pt).map cI)) = x5
      refine List.Perm.cons _ (List.Perm.symm ?_)
      have h1 : [x2, x3, x4, x5].Perm [x5, x2, x3, x4] := List.perm_append_comm (l₁ := [x2, x3, x4]) (l₂ := [x5])
      have h2 : [x2, x3, x4].Perm [x3, x4, x2] := List.perm_append_comm (l₁ := [x2]) (l₂ := [x3, x4])
      exact h1.trans (List.Perm.cons _ h2)
def lastIs (ps : List (Int × Int)) (pt : Int) : Bool := match ps.getLast? with
  | some q => decide (q.1 = pt)
  | none => false
theorem least_of (ps : List (Int × Int)) (pt : Int) : leastF11 ps pt = if ((!(ps.map pairP).isEmpty) && lastIs ps pt) = true then (ps.getLast?.getD (0, 0)).2 + 1 else 0 := by
  unfold leastF11 lastIs
  cases e : ps.getLast? with
  | none => simp
  | some q =>
    have : ps ≠ [] := fun h => by rw [h] at e; simp at e
    have h2 : (ps.map pairP).isEmpty = false := by simpa using this
    rw [h2]
    by_cases hq : q.1 = pt
    · simp [hq]
    · simp [hq]
theorem pok_pairs (ps : List (Int × Int)) : (ps.map pairP).all (pok 1) = true := by
  rw [List.all_map, List.all_eq_true]
  intro q _
  rfl
theorem last_get {ps : List (Int × Int)} {q : Int × Int} (h : ps.getLast? = some q) : (-1 : Int) < 0 ∧ -((ps.map pairP).length : Int) ≤ -1 ∧ (ps.map pairP)[(-1 + ((ps.map pairP).length : Int)).toNat]? = some (.tup [.int q.1, .int q.2]) := by
  obtain ⟨m, rfl⟩ := List.getLast?_eq_some_iff.mp h
  refine ⟨by decide, by simp; omega, ?_⟩
  have : (-1 + (((m ++ [q]).map pairP).length : Int)).toNat = m.length := by simp; omega
  rw [this]
  simp [pairP]
section
variable {w : World} {B : Heap} {aT aG aA aI aD aS aL : Addr} (H : Has11 w B aT aG aA aI aD aS aL)
set_option maxRecDepth 100000 in
set_option maxHeartbeats 4000000 in
include H in
theorem law_tail {ds : List (Int × Int)} {s0 s1 l0 l1 b : Addr} {B0 B1 : List Nat} (hkd : ∀ d ∈ ds, 0 ≤ d.1 ∧ d.1 ≤ 3) (hdl : ds.length ≤ 28) (b0l : B0.length ≤ 28) (b1l : B1.length ≤ 28) (b0c : ∀ c ∈ B0, c < 128) (b1c : ∀ c ∈ B1, c < 128) {ds' : List (Int × Int)} (hds : ds = (2, 0) :: (3, 4) :: ds') :
    Xs (G11 w B aT aG aA aI aD aS aL) 5 (fnAt pg 10).2.2 [("deeds", .lst (ds.map pairP)), ("sides", .lst [.ref s0, .ref s1]), ("bases", .lst [.str B0, .str B1]), ("laid", .lst [.ref l0, .ref l1]), ("both", .ref b), ("point", .int 128)] (own11 b l0 l1 s0 s1 B0 B1 []) ((fnAt pg 10).2.1.drop 6) (fun fl _ _ => fl = .ret (.bool true)) := by
  have kL := H.dL.keep
  refine Xs.cons (X1.for (by wtm_at "ev") IterOk.lst ?_)
  obtain ⟨FIN, hFIN⟩ : ∃ FIN, runD B0.length B1.length ds 128 [] = FIN := ⟨_, rfl⟩
  obtain ⟨x, y, r, hhead⟩ := runD_head B0.length B1.length ds'
  rw [← hds, hFIN] at hhead
  refine (?_ : ∀ (rest : List (Int × Int)) (point lim : Int) (both : List Tri), rest.length ≤ 28 → both.length + rest.length ≤ 28 → lim + 500 * rest.length ≤ 50000 → (∀ d ∈ rest, 0 ≤ d.1 ∧ d.1 ≤ 3) → Inv11 B0.length B1.length both point lim → runD B0.length B1.length rest point both = FIN →
    Fo (G11 w B aT aG aA aI aD aS aL) 5 (fnAt pg 10).2.2 [("deeds", .lst (ds.map pairP)), ("sides", .lst [.ref s0, .ref s1]), ("bases", .lst [.str B0, .str B1]), ("laid", .lst [.ref l0, .ref l1]), ("both", .ref b), ("point", .int point)] (own11 b l0 l1 s0 s1 B0 B1 both) _ _ _ (rest.map pairP) _)
    ds 128 128 [] hdl (by simp; omega) (by omega) hkd ⟨by decide, by decide, (fun _ h => nomatch h), (fun _ h => nomatch h), List.Pairwise.nil, trivial, trivial⟩ hFIN
  intro rest
  induction rest with
  | cons d rest ih =>
    intro point lim both hl1 hl2 hlim hk I hrun
    rw [List.length_cons] at hl1 hl2 hlim
    obtain ⟨k0, k3⟩ := hk d List.mem_cons_self
    rw [List.map_cons]
    refine Fo.cons (As.tuple2 As.name As.name) ?_
    rw [runD] at hrun
    refine Xs.cons (X1.ite (by wtm_at "tr") (fun hc => ?_) (fun hc => ?_))
    · have hk2 : 2 ≤ d.1 := of_decide_eq_true hc
      rw [if_pos hk2] at hrun
      obtain ⟨sd, half⟩ := d
      dsimp only at hk2 k0 k3 hrun hc
      refine Xs.cons (X1.assign (by wtm_at "ev") ?_)
      generalize hsdv : sd - 2 = sd' at *
      have hsd : sd' = 0 ∨ sd' = 1 := by omega
      have I' := I.step (by omega) (by omega) (by omega) sd' half hsd
      refine Xs.cut [("deeds", .lst (ds.map pairP)), ("sides", .lst [.ref s0, .ref s1]), ("bases", .lst [.str B0, .str B1]), ("laid", .lst [.ref l0, .ref l1]), ("both", .ref b), ("point", .int (if half % 3 = 1 then point + 1 else point)), ("side", .int sd'), ("half", .int half)] (own11 b l0 l1 s0 s1 B0 B1 both) ?_ ?_
      · refine X1.ite (by wtm_at "tr") (fun hc => ?_) (fun hc => ?_)
        · refine Xs.cons (X1.aug rfl (by wtm_at "ev") (by wtm_at "op") (Xs.nil ⟨rfl, ?_, rfl⟩))
          rw [if_pos (of_decide_eq_true hc)]
          wtm_at "sub"
        · refine Xs.nil ⟨rfl, ?_, rfl⟩
          rw [if_neg (of_decide_eq_false hc)]
          wtm_at "sub"
      refine Xs.cut [("deeds", .lst (ds.map pairP)), ("sides", .lst [.ref s0, .ref s1]), ("bases", .lst [.str B0, .str B1]), ("laid", .lst [.ref l0, .ref l1]), ("both", .ref b), ("point", .int (pointF point half)), ("side", .int sd'), ("half", .int half)] (own11 b l0 l1 s0 s1 B0 B1 both) ?_ ?_
      · refine X1.ite (by wtm_at "tr") (fun hc => ?_) (fun hc => ?_)
        · have h2 := of_decide_eq_true hc
          refine Xs.cons (X1.aug rfl (by wtm_at "ev") (by wtm_at "op") (Xs.nil ⟨rfl, ?_, rfl⟩))
          have e : pointF point half = (if half % 3 = 1 then point + 1 else point) + half % 500 := by unfold pointF; rw [if_neg (by omega), if_pos h2, if_neg (by omega)]
          rw [e]
          wtm_at "sub"
        · have h2 := of_decide_eq_false hc
          refine Xs.nil ⟨rfl, ?_, rfl⟩
          have e : pointF point half = (if half % 3 = 1 then point + 1 else point) := by unfold pointF; rw [if_neg h2]
          rw [e]
          wtm_at "sub"
      have hpr := pointF_range point half
      have hp0 := I.p0
      have hp1 := I.p1
      generalize hpt : pointF point half = pt at *
      refine Xs.cons (X1.assign (by wtm_at "ev") ?_)
      obtain ⟨as, al, as', al', T', ps', hSg, hLg, hperm, hback⟩ := own_pick b l0 l1 s0 s1 B0 B1 both sd' hsd
      refine Xs.perm hperm ?_
      have hC : Chn ((if sd' = 0 then B0 else B1).length : Int) 128 (-1) (flt sd' both) := by
        rcases hsd with rfl | rfl
        · exact I.c0
        · exact I.c1
      have hnn : (if sd' = 0 then (B0.length : Int) else (B1.length : Int)) = ((if sd' = 0 then B0 else B1).length : Int) := by split <;> rfl
      rw [hnn] at hrun I'
      have hbl : (if sd' = 0 then B0 else B1).length ≤ 28 := by split <;> assumption
      have hfl := flt_length sd' both
      generalize hBs : (if sd' = 0 then B0 else B1) = Bs at *
      generalize hps : flt sd' both = ps at *
      have hpl := place_range hC (by omega) pt half
      have hle := least_range hC (by omega) pt
      have hTl : ((putAll Bs ps).map cI).length = Bs.length + ps.length := by rw [List.length_map, putAll_length]
      have hpsl : ps.length ≤ 28 := by omega
      refine Xs.cut [("deeds", .lst (ds.map pairP)), ("sides", .lst [.ref s0, .ref s1]), ("bases", .lst [.str B0, .str B1]), ("laid", .lst [.ref l0, .ref l1]), ("both", .ref b), ("point", .int pt), ("side", .int sd'), ("half", .int half), ("least", .int (leastF11 ps pt))] [(b, .list (both.map triP)), (as, .list ((putAll Bs ps).map cI)), (al, .list (ps.map pairP)), (as', T'), (al', ps')] ?_ ?_
      · refine X1.ite (c := (!(ps.map pairP).isEmpty) && lastIs ps pt) (Tr.and2 (Tr.neOwn0 (xs := ps.map pairP) 1 (Ev.sub (by wtm_at "ev") (by wtm_at "ev") (Op2.item (by omega) hLg (by simp)) HasItem.lst) (by simp) (Ev.list Es.nil (by simp)) (pok_pairs ps)) fun hne => ?_) (fun hc => ?_) (fun hc => ?_)
        · have hne' : ps ≠ [] := by simpa using hne
          obtain ⟨q, hq⟩ : ∃ q, ps.getLast? = some q := ⟨_, List.getLast?_eq_some_getLast hne'⟩
          have e : lastIs ps pt = decide (q.1 = pt) := by unfold lastIs; rw [hq]
          rw [e]
          exact Tr.cmp (Ev.sub (Ev.subOwnE (xs := ps.map pairP) (Ev.sub (by wtm_at "ev") (by wtm_at "ev") (Op2.item (by omega) hLg (by simp)) HasItem.lst) (by simp) (by wtm_at "ev") (.inr (last_get hq)) (by simp; omega)) (by wtm_at "ev") (Op2.itemT (by decide) rfl (by simp)) HasItem.tup) (by wtm_at "ev") Op2.eq
        · have hl := least_of ps pt
          rw [if_pos hc] at hl
          have hne' : ps ≠ [] := by rw [Bool.and_eq_true] at hc; simpa using hc.1
          obtain ⟨q, hq⟩ : ∃ q, ps.getLast? = some q := ⟨_, List.getLast?_eq_some_getLast hne'⟩
          rw [hq] at hl
          refine Xs.cons (X1.assign (Ev.bin (Ev.sub (Ev.subOwnE (xs := ps.map pairP) (Ev.sub (by wtm_at "ev") (by wtm_at "ev") (Op2.item (by omega) hLg (by simp)) HasItem.lst) (by simp) (by wtm_at "ev") (.inr (last_get hq)) (by simp; omega)) (by wtm_at "ev") (Op2.itemT (by decide) rfl (by simp)) HasItem.tup) (by wtm_at "ev") Op2.add) (Xs.nil ⟨rfl, ?_, rfl⟩))
          rw [hl]
          wtm_at "sub"
        · have hl := least_of ps pt
          rw [if_neg (by rw [hc]; decide)] at hl
          refine Xs.nil ⟨rfl, ?_, rfl⟩
          rw [hl]
          wtm_at "sub"
      refine Xs.cons (X1.assign (v := .int (placeF Bs.length ps pt half)) ?_ ?_)
      · have e : placeF Bs.length ps pt half = leastF11 ps pt + half / 3 % ((((putAll Bs ps).map cI).length : Int) + 1 - leastF11 ps pt) := by unfold placeF; rw [hTl, Int.natCast_add]
        rw [e]
        exact Ev.bin (by wtm_at "ev") (Ev.bin (by wtm_at "ev") (Ev.bin (Ev.bin (Ev.lenOwnE (xs := (putAll Bs ps).map cI) (by wtm_at "ev") (Ev.sub (by wtm_at "ev") (by wtm_at "ev") (Op2.item (by omega) hSg (by simp)) HasItem.lst) (by simp) (by omega)) (by wtm_at "ev") Op2.add) (by wtm_at "ev") Op2.sub) (Op2.mod (by rw [hTl]; omega))) Op2.add
      generalize hplv : placeF Bs.length ps pt half = pl at *
      refine Xs.cons (X1.methE (μ₁ := [(b, .list (both.map triP))]) (μ₂ := [(al, .list (ps.map pairP)), (as', T'), (al', ps')]) (a := as) (o := .list ((putAll Bs ps).map cI)) (Ev.sub (by wtm_at "ev") (by wtm_at "ev") (Op2.item (by omega) hSg (by simp)) HasItem.lst) (by wtm_at "es") (MethOk.list_insert (by omega) (by rw [hTl]; omega) (by omega)) PySem.F.plainAttrs_list PySem.F.slot_list_insert PySem.F.type_list_insert ?_)
      rw [insL_cI (by omega)]
      refine Xs.cons (X1.methE (μ₁ := [(b, .list (both.map triP)), (as, .list ((putN (putAll Bs ps) pl pt).map cI))]) (μ₂ := [(as', T'), (al', ps')]) (a := al) (o := .list (ps.map pairP)) (Ev.sub (by wtm_at "ev") (by wtm_at "ev") (Op2.item (by omega) hLg (by simp)) HasItem.lst) (by wtm_at "es") (MethOk.list_append (by simp; omega)) PySem.F.plainAttrs_list PySem.F.slot_list_append PySem.F.type_list_append ?_)
      refine Xs.cons (X1.meth (μ₁ := []) (μ₂ := [(as, .list ((putN (putAll Bs ps) pl pt).map cI)), (al, .list (ps.map pairP ++ [.tup [.int pt, .int pl]])), (as', T'), (al', ps')]) (a := b) (o := .list (both.map triP)) rfl (by wtm_at "es") (MethOk.list_append (by simp; omega)) PySem.F.plainAttrs_list PySem.F.slot_list_append PySem.F.type_list_append ?_)
      refine Xs.nil (Xs.nil ?_)
      have e1 : both.map triP ++ [.tup [.int pt, .int sd', .int pl]] = (both ++ [(pt, sd', pl)]).map triP := by simp [triP]
      have e2 : ps.map pairP ++ [.tup [.int pt, .int pl]] = (ps ++ [(pt, pl)]).map pairP := by simp [pairP]
      rw [e1, e2]
      refine Fo.perm (hback pt pl) (Fo.sub (by wtm_at "sub") (ih pt (lim + 500) (both ++ [(pt, sd', pl)]) (by omega) (by simp; omega) (by omega) (fun e he => hk e (List.mem_cons_of_mem _ he)) I' hrun))
    · have hk2 : ¬ 2 ≤ d.1 := of_decide_eq_false hc
      rw [if_neg hk2] at hrun
      refine Xs.nil (Xs.nil ?_)
      exact Fo.sub (by wtm_at "sub") (ih point lim both (by omega) (by omega) (by omega) (fun e he => hk e (List.mem_cons_of_mem _ he)) I hrun)
  | nil =>
    intro point lim both hl1 hl2 hlim hk I hrun
    rw [runD] at hrun
    subst hrun
    have hbl : both.length ≤ 28 := by omega
    have f0 := flt_length 0 both
    have f1 := flt_length 1 both
    refine Fo.nil (Xs.nil ?_)
    refine Xs.freeze0 (x := "both") rfl ?_
    refine Xs.freezeAt (μ₁ := []) (x := "laid") (.lst [.lst ((flt 0 both).map pairP), .ref l1]) rfl (fun D h val hv e => V.into (ps := []) (fun v hv' => by rw [V_ref] at hv'; subst hv'; exact hv) e) ?_
    refine Xs.freezeAt (μ₁ := []) (x := "laid") (.lst [.lst ((flt 0 both).map pairP), .lst ((flt 1 both).map pairP)]) rfl (fun D h val hv e => V.into (ps := [.lst ((flt 0 both).map pairP)]) (qs := []) (fun v hv' => by rw [V_ref] at hv'; subst hv'; exact hv) e) ?_
    refine Xs.freezeAt (μ₁ := []) (x := "sides") (.lst [.lst ((putAll B0 (flt 0 both)).map cI), .ref s1]) rfl (fun D h val hv e => V.into (ps := []) (fun v hv' => by rw [V_ref] at hv'; subst hv'; exact hv) e) ?_
    refine Xs.freezeAt (μ₁ := []) (x := "sides") (.lst [.lst ((putAll B0 (flt 0 both)).map cI), .lst ((putAll B1 (flt 1 both)).map cI)]) rfl (fun D h val hv e => V.into (ps := [.lst ((putAll B0 (flt 0 both)).map cI)]) (qs := []) (fun v hv' => by rw [V_ref] at hv'; subst hv'; exact hv) e) ?_
    obtain ⟨S, hS1, hS2, hS3⟩ := sort_both I.pw hhead
    have hSl : S.length = both.length := hS2.length_eq
    obtain ⟨j1, j2⟩ := law11 I hS2 hS3 (by omega)
    have hsort : CallN (G11 w B aT aG aA aI aD aS aL) (.builtin "sorted") [.lst (both.map triP)] (.list (S.map triP)) := by
      have h := CallN.sorted (SortOk.ints (Γ := G11 w B aT aG aA aI aD aS aL) (ts := both.map triL) (m := 3) (fun t ht => by obtain ⟨u, _, rfl⟩ := List.mem_map.mp ht; rfl) (by decide)) (by simp; omega)
      rw [List.map_map] at h
      have e : ((fun t => PV.tup (t.map .int)) ∘ triL) = triP := rfl
      rw [e, List.length_map, hS1] at h
      exact h
    have t0 : ∀ c ∈ putAll B0 (flt 0 both), c ≤ 1114111 := putAll_lt _ _ _ _ _ I.c0 (by decide) fun c hc => by have := b0c c hc; omega
    have t1 : ∀ c ∈ putAll B1 (flt 1 both), c ≤ 1114111 := putAll_lt _ _ _ _ _ I.c1 (by decide) fun c hc => by have := b1c c hc; omega
    have z0 : (putAll B0 (flt 0 both)).length < 2 ^ 18 := by rw [putAll_length]; omega
    have z1 : (putAll B1 (flt 1 both)).length < 2 ^ 18 := by rw [putAll_length]; omega
    have ok0 := laid_ok H (base := B0) (ps := flt 0 both) I.c0 (by omega) (by omega)
    have ok1 := laid_ok H (base := B1) (ps := flt 1 both) I.c1 (by omega) (by omega)
    have okj : (joinF B0.length S).length = S.length := by
      have key : ∀ (S : List Tri) (f : Int), (joinF f S).length = S.length := by
        intro S
        induction S with
        | nil => intro f; rfl
        | cons t S ih => intro f; rw [joinF]; split <;> simp [ih]
      exact key S _
    have okJ := laid_ok H (base := B0 ++ B1) (ps := joinF B0.length S) j1 (by simp; omega) (by omega)
    rw [j2] at okJ
    generalize hD0 : putAll B0 (flt 0 both) = D0 at *
    generalize hD1 : putAll B1 (flt 1 both) = D1 at *
    generalize hJ : joinF B0.length S = JJ at *
    refine Xs.sub (σ' := [("sides", .lst [.lst (D0.map cI), .lst (D1.map cI)]), ("bases", .lst [.str B0, .str B1]), ("laid", .lst [.lst ((flt 0 both).map pairP), .lst ((flt 1 both).map pairP)]), ("both", .lst (both.map triP))]) (by wtm_at "sub") ?_
    refine Xs.cons (X1.own (EvN.list Es.nil (by simp)) fun j hj => ?_)
    refine Xs.cons (X1.assign (Ev.call (by wtm_at "ev") (by wtm_at "kp") (Es.cons (Ev.sub (by wtm_at "ev") (by wtm_at "ev") (Op2.item (by decide) rfl (by simp)) HasItem.lst) Es.nil) (CallOk.len_str (by omega))) ?_)
    refine Xs.cons (X1.for (EvN.ev (EvN.call (by wtm_at "ev") (by wtm_at "kp") (by wtm_at "es") hsort)) IterOk.lst ?_)
    refine Fo.sub (σ' := [("sides", .lst [.lst (D0.map cI), .lst (D1.map cI)]), ("bases", .lst [.str B0, .str B1]), ("laid", .lst [.lst ((flt 0 both).map pairP), .lst ((flt 1 both).map pairP)]), ("joined", .ref j), ("front", .int (B0.length : Int))]) (by wtm_at "sub") ?_
    refine (?_ : ∀ (rest : List Tri) (f : Int) (acc : List (Int × Int)), acc.length + rest.length ≤ 28 → acc ++ joinF f rest = JJ →
      Fo (G11 w B aT aG aA aI aD aS aL) 5 (fnAt pg 10).2.2 [("sides", .lst [.lst (D0.map cI), .lst (D1.map cI)]), ("bases", .lst [.str B0, .str B1]), ("laid", .lst [.lst ((flt 0 both).map pairP), .lst ((flt 1 both).map pairP)]), ("joined", .ref j), ("front", .int f)] [(j, .list (acc.map pairP))] _ _ _ (rest.map triP) _)
      S (B0.length : Int) [] (by simp; omega) hJ
    intro rest
    induction rest with
    | cons t rest ih =>
      intro f acc hla hacc
      rw [List.length_cons] at hla
      rw [List.map_cons]
      refine Fo.cons (As.tuple3 As.name As.name As.name) ?_
      rw [joinF] at hacc
      refine Xs.cons (X1.ite (by wtm_at "tr") (fun hc => ?_) (fun hc => ?_))
      · rw [if_pos (of_decide_eq_true hc)] at hacc
        refine Xs.cons (X1.meth (μ₁ := []) (μ₂ := []) (a := j) (o := .list (acc.map pairP)) rfl (by wtm_at "es") (MethOk.list_append (by simp; omega)) PySem.F.plainAttrs_list PySem.F.slot_list_append PySem.F.type_list_append ?_)
        refine Xs.cons (X1.aug rfl (by wtm_at "ev") (by wtm_at "op") ?_)
        refine Xs.nil (Xs.nil ?_)
        have e2 : acc.map pairP ++ [.tup [.int t.1, .int t.2.2]] = (acc ++ [(t.1, t.2.2)]).map pairP := by simp [pairP]
        rw [e2]
        exact Fo.sub (by wtm_at "sub") (ih (f + 1) _ (by simp; omega) (by rw [← hacc]; simp))
      · rw [if_neg (of_decide_eq_false hc)] at hacc
        refine Xs.cons (X1.meth (μ₁ := []) (μ₂ := []) (a := j) (o := .list (acc.map pairP)) rfl (by wtm_at "es") (MethOk.list_append (by simp; omega)) PySem.F.plainAttrs_list PySem.F.slot_list_append PySem.F.type_list_append ?_)
        refine Xs.nil (Xs.nil ?_)
        have e2 : acc.map pairP ++ [.tup [.int t.1, .int (f + t.2.2)]] = (acc ++ [(t.1, f + t.2.2)]).map pairP := by simp [pairP]
        rw [e2]
        exact Fo.sub (by wtm_at "sub") (ih f _ (by simp; omega) (by rw [← hacc]; simp))
    | nil =>
      intro f acc hla hacc
      rw [joinF, List.append_nil] at hacc
      subst hacc
      refine Fo.nil (Xs.nil ?_)
      refine Xs.freeze0 (x := "joined") rfl ?_
      refine Xs.cons (X1.ownComp (σf := []) (rs := [some (.str D0), some (.str D1)]) (by wtm_at "ev") IterOk.lst ?_ (by simp) trivial fun a ha => ?_)
      · refine .cons ?_ (.cons ?_ .nil)
        · refine Turn.all (fun μ => As.name) trivial fun μ => ?_
          refine Ev.meth (Ev.cstr (l := []) (by decide +kernel)) HasMeth.str (Es.cons (v := .lst ((D0.map fun c => [c]).map .str)) (EvN.ev ?_) Es.nil) (join_text z0) PySem.F.plainAttrs_str PySem.F.slot_str_join PySem.F.type_str_join
          rw [text_e]
          refine EvN.comp (σf := []) (Ev.name rfl) IterOk.lst ?_ (by simp; omega) trivial
          refine Paired.maps _ fun c hm => ?_
          have hcl := t0 c hm
          refine Turn.all (fun μ => As.name) trivial fun μ => ?_
          exact Ev.call (by wtm_at "ev") (by wtm_at "kp") (Es.cons (v := .int (c : Int)) (Ev.name rfl) Es.nil) (chr_nat (by omega))
        · refine Turn.all (fun μ => As.name) trivial fun μ => ?_
          refine Ev.meth (Ev.cstr (l := []) (by decide +kernel)) HasMeth.str (Es.cons (v := .lst ((D1.map fun c => [c]).map .str)) (EvN.ev ?_) Es.nil) (join_text z1) PySem.F.plainAttrs_str PySem.F.slot_str_join PySem.F.type_str_join
          rw [text_e]
          refine EvN.comp (σf := []) (Ev.name rfl) IterOk.lst ?_ (by simp; omega) trivial
          refine Paired.maps _ fun c hm => ?_
          have hcl := t1 c hm
          refine Turn.all (fun μ => As.name) trivial fun μ => ?_
          exact Ev.call (by wtm_at "ev") (by wtm_at "kp") (Es.cons (v := .int (c : Int)) (Ev.name rfl) Es.nil) (chr_nat (by omega))
      refine Xs.freeze0 (x := "due") rfl ?_
      have hpok : pok 1 (.lst [.str D0, .str D1]) = true := by
        simp only [pok, List.all_cons, List.all_nil, Bool.and_true, Bool.and_eq_true, List.all_eq_true, decide_eq_true_eq]
        exact ⟨fun c hc => by have := t0 c hc; omega, fun c hc => by have := t1 c hc; omega⟩
      refine Xs.cons (X1.ite (c := false) (Tr.cmp (EvN.ev (EvN.comp (σf := [("bases", .lst [.str B0, .str B1]), ("laid", .lst [.lst ((flt 0 both).map pairP), .lst ((flt 1 both).map pairP)])]) (p := .lst [.int 0, .int 1]) (xs := [.int 0, .int 1]) (rs := [some (.str D0), some (.str D1)]) (by wtm_at "ev") IterOk.lst ?_ (by simp) (by wtm_at "sub"))) (by wtm_at "ev") (Op2.neSelf 1 hpok)) (fun hc => nomatch hc) (fun _ => Xs.nil ?_))
      · refine .cons ?_ (.cons ?_ .nil)
        · exact Turn.all (fun μ => As.name) (by wtm_at "sub") fun μ => Ev.call (by wtm_at "ev") kL (Es.cons (Ev.sub (by wtm_at "ev") (by wtm_at "ev") (Op2.item (by decide) rfl (by simp)) HasItem.lst) (Es.cons (Ev.sub (by wtm_at "ev") (by wtm_at "ev") (Op2.item (by decide) rfl (by simp)) HasItem.lst) Es.nil)) (CallOk.mono ok0 (by decide))
        · exact Turn.all (fun μ => As.name) (by wtm_at "sub") fun μ => Ev.call (by wtm_at "ev") kL (Es.cons (Ev.sub (by wtm_at "ev") (by wtm_at "ev") (Op2.item (by decide) rfl (by simp)) HasItem.lst) (Es.cons (Ev.sub (by wtm_at "ev") (by wtm_at "ev") (Op2.item (by decide) rfl (by simp)) HasItem.lst) Es.nil)) (CallOk.mono ok1 (by decide))
      have heq : Op2 (G11 w B aT aG aA aI aD aS aL) (compareOp .Eq) (.str (D0 ++ D1)) (.str (D0 ++ D1)) (.bool true) := by
        have := Op2.eqS (Γ := G11 w B aT aG aA aI aD aS aL) (a := D0 ++ D1) (b := D0 ++ D1)
        rwa [beq_self_eq_true] at this
      exact Xs.cons (X1.ret (Ev.cmp (Ev.call (by wtm_at "ev") kL (Es.cons (Ev.bin (Ev.sub (by wtm_at "ev") (by wtm_at "ev") (Op2.item (by decide) rfl (by simp)) HasItem.lst) (Ev.sub (by wtm_at "ev") (by wtm_at "ev") (Op2.item (by decide) rfl (by simp)) HasItem.lst) (Op2.addS (by omega))) (Es.cons (by wtm_at "ev") Es.nil)) (CallOk.mono okJ (by decide)))
        (Ev.bin (Ev.sub (by wtm_at "ev") (by wtm_at "ev") (Op2.item (by decide) rfl (by simp)) HasItem.lst) (Ev.sub (by wtm_at "ev") (by wtm_at "ev") (Op2.item (by decide) rfl (by simp)) HasItem.lst) (Op2.addS (by omega))) heq) rfl)
end

section
variable {w : World} {B : Heap} {aT aG aA aI aD aS aL : Addr} (H : Has11 w B aT aG aA aI aD aS aL)
set_option maxRecDepth 100000 in
set_option maxHeartbeats 4000000 in
include H in
theorem law_body {ns : List Int} (hn : ns.length ≤ 63) :
    Xs (G11 w B aT aG aA aI aD aS aL) 5 (fnAt pg 10).2.2 [("script", .lst (ns.map .int))] [] (fnAt pg 10).2.1 (fun fl _ _ => fl = .ret (.bool true)) := by
  have kL := H.dL.keep
  obtain ⟨ds, hds⟩ : ∃ ds, deedsF ns = ds := ⟨_, rfl⟩
  have hkd := deedsF_kind (ns := ns)
  have hdl := deedsF_length ns
  rw [hds] at hkd hdl
  refine Xs.cons (X1.assign (v := .lst (ds.map pairP)) ?_ ?_)
  · have ec : cutL (ns.map PV.int) none (some 26) = (ns.take 26).map .int := by
      have := cut_to ns 26
      rw [show ((26 : Nat) : Int) = 26 from rfl] at this
      rw [ints_map_cut, this]
    have e : ds.map pairP = [PV.tup [.int 2, .int 0], PV.tup [.int 3, .int 4]] ++ ((ns.take 26).map fun x => some (PV.tup [.int (x % 4), .int (x / 4)])).filterMap id := by
      rw [← hds, filterMap_some (fun x => PV.tup [.int (x % 4), .int (x / 4)])]
      unfold deedsF
      rw [List.map_cons, List.map_cons, List.map_map]
      rfl
    rw [e]
    refine Ev.bin (Ev.list (by wtm_at "es") (by simp)) (EvN.ev ?_) (Op2.addL (by rw [filterMap_some (fun x => PV.tup [.int (x % 4), .int (x / 4)])]; simp; omega))
    refine EvN.comp (σf := []) (p := .lst ((ns.take 26).map .int)) ?_ IterOk.lst ?_ (by simp; omega) trivial
    · rw [← ec]
      exact Ev.slice (by wtm_at "ev") Pt.none (Pt.some (by wtm_at "ev")) (SliceOk.lst (by simp; omega)) HasItem.lst
    refine Paired.maps _ fun x hm => ?_
    exact Turn.all (fun μ => As.name) trivial fun μ => by wtm_at "ev"
  obtain ⟨B0, hB0⟩ : ∃ B0, baseF ds 0 = B0 := ⟨_, rfl⟩
  obtain ⟨B1, hB1⟩ : ∃ B1, baseF ds 1 = B1 := ⟨_, rfl⟩
  have b0l := baseF_length ds 0
  have b1l := baseF_length ds 1
  have b0c := baseF_lt ds 0
  have b1c := baseF_lt ds 1
  rw [hB0] at b0l b0c
  rw [hB1] at b1l b1c
  refine Xs.cons (X1.ownCompN (σf := [("deeds", .lst (ds.map pairP))]) (p := .lst [.int 0, .int 1]) (xs := [.int 0, .int 1]) (os := [.list (B0.map cI), .list (B1.map cI)]) (by wtm_at "ev") IterOk.lst ?_ (by simp) (by wtm_at "sub") ?_)
  · rw [← hB0, ← hB1]
    refine .cons ?_ (.cons ?_ .nil)
    all_goals
      refine ⟨("side", _) :: [("deeds", .lst (ds.map pairP))], fun μ => As.name, Sub.to (by wtm_at "sub"), fun μ => ?_⟩
      rw [← baseF_eq]
      refine EvN.comp (σf := [("side", _)]) (p := .lst (ds.map pairP)) (Ev.name rfl) IterOk.lst ?_ (by simp; omega) (by wtm_at "sub")
      refine Paired.maps _ fun d hm => ?_
      exact Turn.if (fun μ => As.tuple2 As.name As.name) (by wtm_at "sub") (fun μ => by wtm_at "tr") fun _ μ => by wtm_at "ev"
  intro nw hnw
  obtain ⟨s0, s1, rfl⟩ : ∃ s0 s1, nw = [(s0, PO.list (B0.map cI)), (s1, PO.list (B1.map cI))] := by
    match nw, hnw with
    | [(s0, _), (s1, _)], h => simp only [List.map_cons, List.map_nil, List.cons.injEq, and_true] at h; obtain ⟨rfl, rfl⟩ := h; exact ⟨s0, s1, rfl⟩
  show Xs _ _ _ (("sides", .lst [.ref s0, .ref s1]) :: _) [(s0, PO.list (B0.map cI)), (s1, PO.list (B1.map cI))] _ _
  have b0z : B0.length < 2 ^ 18 := by omega
  have b1z : B1.length < 2 ^ 18 := by omega
  have hfz : ∀ (F : Fm) (h₀ : Heap) (s : Shared) (σ : Loc) (T0 T1 : List PV) (μ : Own), Sx (G11 w B aT aG aA aI aD aS aL) h₀ (fnAt pg 10).2.2 F (("sides", .lst [.ref s0, .ref s1]) :: σ) ((s0, PO.list T0) :: (s1, PO.list T1) :: μ) s →
      Sx (G11 w B aT aG aA aI aD aS aL) h₀ (fnAt pg 10).2.2 F (("sides", .lst [.lst T0, .lst T1]) :: ("sides", .lst [.lst T0, .ref s1]) :: ("sides", .lst [.ref s0, .ref s1]) :: σ) μ s := by
    intro F h₀ s σ T0 T1 μ X
    have X1 := Sx.freezeAt (μ₁ := []) (u := .lst [.lst T0, .ref s1]) X (x := "sides") rfl fun D h val hv e => V.into (ps := []) (fun v hv' => by rw [V_ref] at hv'; subst hv'; exact hv) e
    exact Sx.freezeAt (μ₁ := []) (u := .lst [.lst T0, .lst T1]) X1 (x := "sides") rfl fun D h val hv e => V.into (ps := [.lst T0]) (qs := []) (fun v hv' => by rw [V_ref] at hv'; subst hv'; exact hv) e
  refine Xs.cons (X1.ownF (ys := [.str B0, .str B1]) (fun F h₀ s X => hfz F h₀ s _ _ _ _ X) rfl (EvN.comp (σf := []) (rs := [some (.str B0), some (.str B1)]) (Ev.name rfl) IterOk.lst ?_ (by simp) trivial) ?_)
  · refine .cons ?_ (.cons ?_ .nil)
    · refine Turn.all (fun μ => As.name) trivial fun μ => ?_
      refine Ev.meth (Ev.cstr (l := []) (by decide +kernel)) HasMeth.str (Es.cons (v := .lst ((B0.map fun c => [c]).map .str)) (EvN.ev ?_) Es.nil) (join_text b0z) PySem.F.plainAttrs_str PySem.F.slot_str_join PySem.F.type_str_join
      rw [text_e]
      refine EvN.comp (σf := []) (Ev.name rfl) IterOk.lst ?_ (by simp; omega) trivial
      refine Paired.maps _ fun c hm => ?_
      have hcl := b0c c hm
      refine Turn.all (fun μ => As.name) trivial fun μ => ?_
      exact Ev.call (by wtm_at "ev") (by wtm_at "kp") (Es.cons (v := .int (c : Int)) (Ev.name rfl) Es.nil) (chr_nat (by omega))
    · refine Turn.all (fun μ => As.name) trivial fun μ => ?_
      refine Ev.meth (Ev.cstr (l := []) (by decide +kernel)) HasMeth.str (Es.cons (v := .lst ((B1.map fun c => [c]).map .str)) (EvN.ev ?_) Es.nil) (join_text b1z) PySem.F.plainAttrs_str PySem.F.slot_str_join PySem.F.type_str_join
      rw [text_e]
      refine EvN.comp (σf := []) (Ev.name rfl) IterOk.lst ?_ (by simp; omega) trivial
      refine Paired.maps _ fun c hm => ?_
      have hcl := b1c c hm
      refine Turn.all (fun μ => As.name) trivial fun μ => ?_
      exact Ev.call (by wtm_at "ev") (by wtm_at "kp") (Es.cons (v := .int (c : Int)) (Ev.name rfl) Es.nil) (chr_nat (by omega))
  intro ab hab
  refine Xs.freeze0 (x := "bases") rfl ?_
  refine Xs.cons (X1.assign (by wtm_at "ev") ?_)
  refine Xs.cons (X1.ownLists (EvN.list Es.nil (by simp)) (fun a => EvN.list Es.nil (by simp)) fun l0 l1 => ?_)
  refine Xs.cons (X1.own (EvN.list Es.nil (by simp)) fun b hb => ?_)
  refine Xs.sub (σ' := [("deeds", .lst (ds.map pairP)), ("sides", .lst [.ref s0, .ref s1]), ("bases", .lst [.str B0, .str B1]), ("laid", .lst [.ref l0, .ref l1]), ("both", .ref b), ("point", .int 128)]) (by wtm_at "sub") ?_
  exact law_tail H (ds' := (ns.take 26).map fun x => (x % 4, x / 4)) hkd hdl (by omega) (by omega) b0c b1c (by rw [← hds]; rfl)
end

end Mine

namespace Mine
theorem law_ok {w : World} {B : Heap} {aT aG aA aI aD aS aL aW : Addr} (H : Has11 w B aT aG aA aI aD aS aL) (hW : DefAt (G11 w B aT aG aA aI aD aS aL) aW "law" (fnAt pg 10)) {ns : List Int} (hn : ns.length ≤ 63) :
    CallOk (G11 w B aT aG aA aI aD aS aL) 6 (.ref aW) [.lst (ns.map .int)] (.bool true) := by
  refine DefAt.callC hW (law_body H hn) ?_
  intro pm cd doc vals h
  obtain ⟨x, rfl⟩ := len1 h
  rfl

def tokOf (o : Option (Option Value)) : Tok := match o with | some (some (.bytes _ t)) => t | _ => 0
theorem GlOk.topBytes {p : Program} {loose : List Str} {mean : ExcName → Option Value} {mg mb : Str → Option Value} {B : Heap} (T : Top p loose mean mg mb B) {K : Frag} (X : K.In B) {x : Str} {l : List UInt8}
    (e : nsIn K mainGlobals x = some (some (.bytes l.toArray (tokOf (nsIn K mainGlobals x))))) : ∃ v', GloV B x v' ∧ ∀ D h, V D h (.bytes l) v' := GlOk.bytes (GloV.top T X e)
theorem GlOk.bi1 {p : Program} {loose : List Str} {mean : ExcName → Option Value} {mg mb : Str → Option Value} {B : Heap} (T : Top p loose mean mg mb B) {K : Frag} (X : K.In B) {x : Str} {v : Value} (e : nsIn K mainGlobals x = some none) (hv : bootBuiltins x = some v) (hn : x ≠ "__name__") :
    ∃ v', GloV B x v' ∧ ∀ D h, V D h (.obj v) v' := GlOk.one (GloV.bi T X e hv hn)
set_option maxRecDepth 100000 in
set_option maxHeartbeats 8000000 in
theorem holds11 : PySem.Challenge.rw_dm0101_11.Holds := by
  w_on
  o_law
  k_head
  (case hw => w_witness2)
  k_fill
  intro w s₀ s₁ mg mb G Y fa o pm cd doc dV kV ho hd hcd hD hmg hg args vals as hpre hlay hrd hwl hlo
  have KX := kIn_of Y
  refine Ground.open G ?_
  intro T B D TE TW
  wrow_args hpre hlay hrd hwl hlo
  rename_i ns hs hlay0 hL1 hr1 hl2 w4 w3 l vs w0 hL ra w1 r0 hI hr hcond1 hcond
  obtain ⟨aT, eaT, daT⟩ := DefAt.of T 0 1 "T" PySem.Challenge.pw_dm0101_11 (by kernel_rfl)
  obtain ⟨aG, eaG, daG⟩ := DefAt.of T 1 3 "generate_generalized_integer" PySem.Challenge.pw_dm0101_11 (by kernel_rfl)
  obtain ⟨aA, eaA, daA⟩ := DefAt.of T 2 4 "adapt" PySem.Challenge.pw_dm0101_11 (by kernel_rfl)
  obtain ⟨aI, eaI, daI⟩ := DefAt.of T 3 5 "generate_integers" PySem.Challenge.pw_dm0101_11 (by kernel_rfl)
  obtain ⟨aD, eaD, daD⟩ := DefAt.of T 4 6 "decode_generalized_number" PySem.Challenge.pw_dm0101_11 (by kernel_rfl)
  obtain ⟨aS, eaS, daS⟩ := DefAt.of T 5 7 "insertion_sort" PySem.Challenge.pw_dm0101_11 (by kernel_rfl)
  obtain ⟨aL, eaL, daL⟩ := DefAt.of T 6 9 "_law_laid" PySem.Challenge.pw_dm0101_11 (by kernel_rfl)
  obtain ⟨aW, eW, dW⟩ := DefAt.of T 7 10 "law" PySem.Challenge.pw_dm0101_11 (by kernel_rfl)
  have efa : fa = aW := by have := hmg.symm.trans eW; cases this; rfl
  subst efa
  refine law_called (Γ := G11 w s₁.heap aT aG aA aI aD aS aL) (k := 6) (ns := ns) ⟨?_, T.nolimit⟩ rfl (by decide) hL hI (law_ok ⟨daT _ rfl, daG _ rfl, daA _ rfl, daI _ rfl, daD _ rfl, daS _ rfl, daL _ rfl⟩ (dW _ rfl) (by omega)) ?_
  · refine GlOk.to ⟨GlOk.one (GloV.fn T eaT), GlOk.topBytes T KX ?_, GlOk.one (GloV.fn T eaG), GlOk.one (GloV.fn T eaA), GlOk.one (GloV.fn T eaI), GlOk.one (GloV.fn T eaD), GlOk.one (GloV.fn T eaS), GlOk.one (GloV.fn T eaL), GlOk.bi1 T KX (by k_is) (by boot_by_name) (by decide), GlOk.bi1 T KX (by k_is) (by boot_by_name) (by decide), GlOk.bi1 T KX (by k_is) (by boot_by_name) (by decide), GlOk.bi1 T KX (by k_is) (by boot_by_name) (by decide), GlOk.bi1 T KX (by k_is) (by boot_by_name) (by decide), GlOk.bi1 T KX (by k_is) (by boot_by_name) (by decide), GlOk.bi1 T KX (by k_is) (by boot_by_name) (by decide), GlOk.bi1 T KX (by k_is) (by boot_by_name) (by decide), trivial⟩
    kernel_rfl
  · intro s' hk hgens hos
    refine GoodW.toG ⟨.inl ⟨_, _, [], rfl, fun cls => rfl, .bool true, postW_of rfl (w_eq_bool (w_res rfl) w_lit) rfl, unshared_nil⟩, hk, hos, hgens.trans hg⟩
end Mine
theorem PySem.Challenge.cw_dm0101_11_holds : PySem.Challenge.rw_dm0101_11.Holds :=
  Mine.holds11
