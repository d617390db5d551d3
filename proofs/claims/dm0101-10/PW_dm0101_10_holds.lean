import PyProof.Rows.All
import Wide.All
import OpenK.AllK
import Wide.FinOn
import PySem.Challenge.RW_dm0101_10
open PySem PySem.W PyProof.Rows PySem.Calls
set_option Elab.async false
set_option linter.all false

namespace Mine
open Sem (wp)

/-! ## the logic, over contexts where no decoder holds a buffer
A bytearray's resize looks at the whole stack for a decoder that holds it; wpAny says nothing of the built-ins on the stack.
So: the same as wpAny and codeAny, but over the contexts whose codes are no such decoders. -/

def QuietC (c : Code) : Bool := match c with
  | .builtin id _ => !Builtin.Bytes.decodersThatHold.contains id
  | _ => true
def GoodB (Γ : Ctx) : Prop := ∀ x ∈ Γ.below, QuietC x.1 = true
def GoodC (Γ : Ctx) : Prop := QuietC Γ.code = true ∧ GoodB Γ

def wpR {α : Type} (M : Model) (A : Around) (t : Sem α) (Q : α → Shared → Prop) (E : Value → Shared → Prop) (s : Shared) : Prop :=
  ∀ Γ p, Γ.In A → GoodC Γ → wp M Γ t (fun a _ s' => Q a s') (fun e _ s' => E e s') p s
def codeR (M : Model) (A : Around) (c : Code) (R : Result → Shared → Prop) (s : Shared) : Prop :=
  ∀ Γ p, Γ.code = c → Γ.Below A → GoodB Γ → wpCode M Γ R p s

section
variable {α β : Type} {M : Model} {A : Around} {E : Value → Shared → Prop} {s : Shared}

theorem toR {t : Sem α} {Q : α → Shared → Prop} (h : wpAny M A t Q E s) : wpR M A t Q E s := fun Γ p hΓ _ => h Γ p hΓ
theorem codeToR {c : Code} {R : Result → Shared → Prop} (h : codeAny M A c R s) : codeR M A c R s := fun Γ p hc hΓ _ => h Γ p hc hΓ

theorem wpR_pure {a : α} {Q : α → Shared → Prop} (h : Q a s) : wpR M A (pure a) Q E s := fun _ _ _ _ => h
theorem wpR_mono {t : Sem α} {Q Q' : α → Shared → Prop} {E' : Value → Shared → Prop} (h : wpR M A t Q E s)
    (hQ : ∀ a s, Q a s → Q' a s) (hE : ∀ e s, E e s → E' e s) : wpR M A t Q' E' s :=
  fun Γ p hΓ hg => Sem.wp_mono M Γ t (fun a _ s => hQ a s) (fun e _ s => hE e s) p s (h Γ p hΓ hg)
theorem wpR_bind {m : Sem α} {f : α → Sem β} {Q : β → Shared → Prop} (h : wpR M A m (fun a s' => wpR M A (f a) Q E s') E s) : wpR M A (m >>= f) Q E s := fun Γ p hΓ hg => by
  rw [Sem.wp_bind']
  exact Sem.wp_mono M Γ m (fun a p' s' h' => h' Γ p' hΓ hg) (fun _ _ _ h' => h') p s (h Γ p hΓ hg)
theorem wpR_onRaise {m : Sem α} {k : Value → Sem Unit} {Q : α → Shared → Prop}
    (h : wpR M A m Q (fun e s' => wpR M A (k e) (fun _ s'' => E e s'') E s') s) : wpR M A (m.onRaise k) Q E s := fun Γ p hΓ hg => by
  rw [Sem.wp_onRaise]
  exact Sem.wp_mono M Γ m (fun _ _ _ h' => h') (fun e p' s' h' => h' Γ p' hΓ hg) p s (h Γ p hΓ hg)
theorem wpR_attempt {m : Sem α} {Q : Except Value α → Shared → Prop} (h : wpR M A m (fun a => Q (.ok a)) (fun e => Q (.error e)) s) :
    wpR M A m.attempt Q E s := fun Γ p hΓ hg => by rw [Sem.wp_attempt]; exact h Γ p hΓ hg
theorem wpR_holding {vs : List Value} {m : Sem α} {Q : α → Shared → Prop} (h : wpR M A m Q E s) : wpR M A (holding vs m) Q E s :=
  fun Γ p hΓ hg => by rw [Sem.wp_holding]; exact h Γ p hΓ hg
theorem wpR_operate {vs : List Value} {m : Sem Value} {Q : Value → Shared → Prop} (h : wpR M A m Q E s) : wpR M A (operate vs m) Q E s :=
  fun Γ p hΓ hg => by rw [Sem.wp_operate]; exact h Γ p hΓ hg
theorem wpR_of_eq {t : Sem α} {a : α} {Q : α → Shared → Prop} (e : t = pure a) (h : Q a s) : wpR M A t Q E s := by rw [e]; exact wpR_pure h
theorem wpR_standAt {pos : Pos} {Q : Unit → Shared → Prop} (h : Q () s) : wpR M A (standAt pos) Q E s := fun _ _ _ _ => h
theorem wpR_rule {tag : String} {Q : Unit → Shared → Prop} (h : Q () s) : wpR M A (rule tag) Q E s := fun _ _ _ _ => h
theorem wpR_point {Q : Unit → Shared → Prop} (h : Q () s) : wpR M A point Q E s := fun _ _ _ _ => h
theorem wpR_release {vs keep : List Value} {Q : Unit → Shared → Prop} (h : Q () s) : wpR M A (release vs keep) Q E s := toR (wpAny_release' h)
theorem wpR_keep {vs : List Value} {m : Sem α} {Q : α → Shared → Prop} (h : wpR M A m Q E s) : wpR M A (m.keep vs) Q E s :=
  fun Γ p hΓ hg => by rw [Sem.wp_keep]; exact h Γ p hΓ hg
theorem GoodC.enter {Γ : Ctx} (hg : GoodC Γ) (c : Code) (h : Option Value) (p : Pos) : GoodB (Γ.enter c h p) := by
  intro x hx
  rcases List.mem_cons.mp hx with rfl | hx
  · exact hg.1
  · exact hg.2 x hx

theorem wpR_run {c : Code} {h : Option Value} {Q : Flow → Shared → Prop}
    (hc : codeR M (A.mark h) c (fun r s' => match r with | .ok f => Q f s' | .error e => E e s') s) (hnb : h ≠ some byPass := by intro x; cases x) : wpR M A (run c h) Q E s :=
  fun Γ p hΓ hg => by rw [Sem.wp_run]; exact hc _ p rfl (hΓ.enter c h p hnb) (hg.enter c h p)
theorem wpR_runValue {c : Code} {Q : Value → Shared → Prop}
    (hc : codeR M A c (fun r s' => match r with | .ok (.ret v) => Q v s' | .ok _ => False | .error e => E e s') s) : wpR M A (runValue c) Q E s :=
  fun Γ p hΓ hg => by rw [Sem.wp_runValue]; exact hc _ p rfl (hΓ.enter c none p (by intro x; cases x)) (hg.enter c none p)
theorem wpR_call {f : Value} {pos : List Value} {kw : List (Str × Value)} {Q : Value → Shared → Prop}
    (hc : codeR M A (.call f ⟨pos, kw⟩) (fun r s' => match r with | .ok (.ret v) => Q v s' | .ok _ => False | .error e => E e s') s) : wpR M A (call f pos kw) Q E s := wpR_runValue hc

theorem codeR_of_tree {c : Code} {R : Result → Shared → Prop} (hq : QuietC c = true)
    (h : wpR M (A.under c) (M.den c) (fun fin s' => match fin with | .done f => R (.ok f) s' | .again c' => c'.quiet = true ∧ codeR M A c' R s') (fun e s' => R (.error e) s') s) : codeR M A c R s := fun Γ p hc hΓ hg => by
  rw [wpCode_iff_wp, hc]
  refine Sem.wp_mono M Γ _ (fun fin p' s' h' => ?_) (fun _ _ _ h' => h') p s (h Γ p (hc ▸ hΓ.in) ⟨hc ▸ hq, hg⟩)
  cases fin with
  | done f => exact h'
  | again c' => exact ⟨h'.1, h'.2 (Γ.goto c') p' rfl (hΓ.goto c') hg⟩
theorem codeR_mono {c : Code} {R R' : Result → Shared → Prop} (h : codeR M A c R s) (hR : ∀ r s, R r s → R' r s) : codeR M A c R' s :=
  fun Γ p hc hΓ hg => wpCode_mono hR (h Γ p hc hΓ hg)

/-- what a resize asks -/
theorem wpR_exported {v : Value} {g : List Code} {Q : Bool → Shared → Prop} (hg : A.guards = some g) (hno : g = []) (h : Q false s) : wpR M A (Builtin.Bytes.exported v) Q E s := by
  intro Γ p hΓ hgood
  show Q (((Γ.code, p) :: Γ.below).any _) s
  have hgs : guardsOf ((Γ.code, p) :: Γ.below) = [] := by rw [guardsOf_cons]; exact (hΓ.2.2.2.1 g hg).trans hno
  have key : ∀ l : List (Code × Pos), guardsOf l = [] → (∀ x ∈ l, QuietC x.1 = true) → (l.any fun
    | (.builtin "bytearray.__contains__" ⟨v' :: _, _⟩, _) | (.builtin "bytearray.__mod__" ⟨v' :: _, _⟩, _)
    | (.builtin "bytearray.__rmod__" ⟨_ :: v' :: _, _⟩, _) | (.builtin "_struct.pack_into.held" ⟨v' :: _, _⟩, _) => Builtin.Bytes.sameRef v' v
    | (.builtin "bytearray.find.held" ⟨_ :: _ :: held, _⟩, _) => held.any (Builtin.Bytes.sameRef v)
    | (.builtin id ⟨v' :: _, _⟩, _) => Builtin.Bytes.sameRef v' v && Builtin.Bytes.decodersThatHold.contains id
    | _ => false) = false := by
    intro l
    induction l with
    | nil => intro _ _; rfl
    | cons x l ih =>
      intro hl hq
      obtain ⟨c, q⟩ := x
      rw [guardsOf_cons, List.append_eq_nil_iff] at hl
      have hng : c.isGuard = false := by
        cases hcg : c.isGuard with
        | false => rfl
        | true => have := hl.1; simp [Code.guards, hcg] at this
      have hqc := hq (c, q) (.head _)
      rw [List.any_cons, ih hl.2 fun x hx => hq x (.tail _ hx), Bool.or_false]
      split
      · rename_i heq; cases heq; exact absurd hng (by simp [Code.isGuard, guardIds])
      · rename_i heq; cases heq; exact absurd hng (by simp [Code.isGuard, guardIds])
      · rename_i heq; cases heq; exact absurd hng (by simp [Code.isGuard, guardIds])
      · rename_i heq; cases heq; exact absurd hng (by simp [Code.isGuard, guardIds])
      · rename_i heq; cases heq; exact absurd hng (by simp [Code.isGuard, guardIds])
      · rename_i id v' _ _ _ _ _ _ _ _ heq
        cases heq
        simp only [QuietC, Bool.not_eq_true'] at hqc
        rw [hqc, Bool.and_false]
      · rfl
  have := key ((Γ.code, p) :: Γ.below) hgs (fun x hx => by
    rcases List.mem_cons.mp hx with rfl | hx
    · exact hgood.1
    · exact hgood.2 x hx)
  exact Eq.mpr (congrArg (fun b => Q b s) this) h
end

/-! ### the compound rules -/
section
variable {M : Model} {A : Around} {E : Value → Shared → Prop} {s : Shared} {env : Env}

theorem wpR_BinOp {l op r pos} {Q : Value → Shared → Prop}
    (h : wpR M A (eval l env) (fun a s₁ => wpR M A (eval r env) (fun b s₂ => wpR M A (binaryOp op a b) Q E s₂) E s₁) E s) : wpR M A (eval (.BinOp l op r pos) env) Q E s := by
  rw [eval_BinOp]
  exact wpR_bind (wpR_mono h (fun a s₁ h₁ => wpR_bind (wpR_holding (wpR_mono h₁ (fun b s₂ h₂ => wpR_bind (wpR_standAt (wpR_operate h₂))) fun _ _ e => e))) fun _ _ e => e)
theorem wpR_Compare1 {l op r pos} {Q : Value → Shared → Prop}
    (h : wpR M A (eval l env) (fun a s₁ => wpR M A (eval r env) (fun b s₂ => wpR M A (compareOp op a b) Q E s₂) E s₁) E s) (hm : behindInMarks op r = false) : wpR M A (eval (.Compare l [op] [r] pos) env) Q E s := by
  rw [eval_Compare1, markedBehindIn_of_false hm]
  exact wpR_bind (wpR_mono h (fun a s₁ h₁ => wpR_bind (wpR_holding (wpR_mono h₁ (fun b s₂ h₂ => wpR_bind (wpR_standAt (wpR_operate h₂))) fun _ _ e => e))) fun _ _ e => e)
theorem wpR_isTrue_Compare1 {l op r pos whole} {Q : Bool → Shared → Prop}
    (h : wpR M A (eval l env) (fun a s₁ => wpR M A (eval r env) (fun b s₂ => wpR M A (compareOp op a b) (fun c s₃ => wpR M A (truthy c) Q E s₃) E s₂) E s₁) E s)
    (hm : behindInMarks op r = false) : wpR M A (isTrue (.Compare l [op] [r] pos) env whole) Q E s := by
  rw [isTrue_Compare1, markedBehindIn_of_false hm]
  exact wpR_bind (wpR_mono h (fun a s₁ h₁ => wpR_bind (wpR_holding (wpR_mono h₁ (fun b s₂ h₂ => wpR_bind (wpR_standAt (wpR_bind (wpR_operate (wpR_mono h₂ (fun c s₃ h₃ => wpR_holding h₃) fun _ _ e => e))))) fun _ _ e => e))) fun _ _ e => e)
theorem wpR_isTrue_value {e : Expr} {whole : Sem Value} {Q : Bool → Shared → Prop} (h : wpR M A whole (fun v s₁ => wpR M A (truthy v) Q E s₁) E s)
    (he : isTrue e env whole = (do let v ← whole; standAt e.pos; holding [v] (truthy v))) : wpR M A (isTrue e env whole) Q E s := by
  rw [he]
  exact wpR_bind (wpR_mono h (fun v s₁ h₁ => wpR_bind (wpR_standAt (wpR_holding h₁))) fun _ _ x => x)
theorem wpR_UnaryOp {op : UnaryOp} {x : Expr} {pos : Pos} {Q : Value → Shared → Prop} (h : wpR M A (eval x env) (fun v s₁ => wpR M A (unaryOp op v) Q E s₁) E s) : wpR M A (eval (.UnaryOp op x pos) env) Q E s := by
  rw [arm_eval_UnaryOp]
  exact wpR_bind (wpR_mono h (fun v s₁ h₁ => wpR_bind (wpR_standAt (wpR_holding h₁))) fun _ _ x => x)
theorem wpR_items_cons {pos : Pos} {e : Expr} {rest : List Expr} {Q : List Value → Shared → Prop}
    (h : wpR M A (eval e env) (fun v s₁ => wpR M A (spliced (backTo pos (starEach rest env))) (fun vs s₂ => Q (v :: vs) s₂) E s₁) E s)
    (he : starEach (e :: rest) env = (false, eval e env) :: starEach rest env) : wpR M A (spliced (backTo pos (starEach (e :: rest) env))) Q E s := by
  rw [he]
  show wpR M A (do
    let v ← eval e env
    let here ← (pure [v] : Sem (List Value))
    return here ++ (← holding here (spliced (backTo pos (starEach rest env))))) Q E s
  exact wpR_bind (wpR_mono h (fun v s₁ h₁ => wpR_bind (wpR_pure (wpR_bind (wpR_holding (wpR_mono h₁ (fun vs s₂ h₂ => wpR_pure h₂) fun _ _ x => x))))) fun _ _ x => x)
theorem wpR_Tuple {elts : List Expr} {k : Nat} {pos : Pos} {Q : Value → Shared → Prop}
    (h : wpR M A (spliced (backTo pos (starEach elts env))) (fun vs s₁ => vs.length ≤ sizeLine ∧ Q (.ref s₁.heap.objs.size) { s₁ with heap := s₁.heap.push { cls := .type "tuple", data := .seq vs.toArray } }) E s) : wpR M A (eval (.Tuple elts k pos) env) Q E s := by
  rw [arm_eval_Tuple]
  exact wpR_bind (wpR_standAt (wpR_bind (wpR_mono h (fun vs s₁ h₁ => toR (wpAny_newObj_type h₁.2 (by show vs.toArray.size ≤ sizeLine; rw [List.size_toArray]; exact h₁.1))) fun _ _ x => x)))
theorem wpR_List {elts : List Expr} {pos : Pos} {Q : Value → Shared → Prop}
    (h : wpR M A (spliced (backTo pos (starEach elts env))) (fun vs s₁ => vs.length ≤ sizeLine ∧ Q (.ref s₁.heap.objs.size) { s₁ with heap := s₁.heap.push { cls := .type "list", data := .seq vs.toArray } }) E s) : wpR M A (eval (.List elts pos) env) Q E s := by
  rw [arm_eval_List]
  exact wpR_bind (wpR_standAt (wpR_bind (wpR_mono h (fun vs s₁ h₁ => toR (wpAny_newObj_type h₁.2 (by show vs.toArray.size ≤ sizeLine; rw [List.size_toArray]; exact h₁.1))) fun _ _ x => x)))
theorem wpR_CallName {id : Str} {p pos : Pos} {args : List Expr} {Q : Value → Shared → Prop}
    (h : wpR M A (eval (.Name id p) env) (fun f s₁ => wpR M A (callWith pos f [] (backTo pos (starEach args env)) []) Q E s₁) E s) : wpR M A (eval (.Call (.Name id p) args [] pos) env) Q E s := by
  show wpR M A (do callWith pos (← eval (.Name id p) env) [] (backTo pos (starEach args env)) (backToKw pos (keywordEach [] env))) Q E s
  exact wpR_bind h
theorem wpR_callWith {P : Heap → Prop} {pos : Pos} {f : Value} {first : List Value} {args : List (Bool × Sem Value)} {Q : Value → Shared → Prop} (hplain : args.any (·.1) = false)
    (hk : ∀ h, P h → ∃ k, (k = Keeper.frame ∨ k = Keeper.machine ∨ k = Keeper.boundFrame) ∧ Looks M h (keeperOf f) k)
    (h : wpR M A (evalArgs f true args []) (fun a s₁ => P s₁.heap ∧ wpR M A (call f (first ++ a.pos) a.kw) Q E s₁) E s) : wpR M A (callWith pos f first args []) Q E s := by
  unfold callWith
  refine wpR_bind (wpR_holding (wpR_mono h (fun a s₁ h₁ => wpR_bind (wpR_standAt ?_)) fun _ _ x => x))
  obtain ⟨k, hk', L⟩ := hk _ h₁.1
  simp only [hplain, List.any_nil, Bool.or_false]
  refine wpR_bind (toR (L.here ?_))
  have tail : ∀ {t : Sem Value}, wpR M A t Q E s₁ → wpR M A (t >>= fun r => holding [r] point >>= fun _ => pure r) Q E s₁ :=
    fun ht => wpR_bind (wpR_mono ht (fun r s₂ hr => wpR_bind (wpR_holding (wpR_point (wpR_pure hr)))) fun _ _ x => x)
  have marked (mk : Value) : wpR M A (callMarked mk f (first ++ a.pos) a.kw) Q E s₁ := by unfold callMarked; exact wpR_keep h₁.2
  rcases hk' with rfl | rfl | rfl <;> dsimp only <;> first | exact tail h₁.2 | (split <;> first | exact tail h₁.2 | exact tail (marked _))
theorem wpR_evalArgs {f : Value} {es : List Expr} {pos : Pos} {Q : Args → Shared → Prop} (hp : es.any isStarred = false)
    (h : wpR M A (spliced (backTo pos (starEach es env))) (fun vs s' => Q ⟨vs, []⟩ s') E s) : wpR M A (evalArgs f true (backTo pos (starEach es env)) []) Q E s := by
  cases es with
  | nil =>
    unfold evalArgs
    show wpR M A (spliced [] >>= _) Q E s
    refine wpR_bind (wpR_mono h (fun vs s' h' => ?_) fun _ _ x => x)
    refine wpR_bind (wpR_pure ?_)
    refine wpR_holding ?_
    exact wpR_bind (wpR_pure (wpR_bind (wpR_pure (wpR_pure h'))))
  | cons e es =>
    rw [List.any_cons, Bool.or_eq_false_iff] at hp
    have he := hp.1
    have key : ∀ (x : Sem Value) (rest : List (Bool × Sem Value)), wpR M A (spliced ((false, x) :: rest)) (fun vs s' => Q ⟨vs, []⟩ s') E s → wpR M A (evalArgs f true ((false, x) :: rest) []) Q E s := by
      intro x rest h
      unfold evalArgs
      show wpR M A (spliced ((false, x) :: rest) >>= _) Q E s
      refine wpR_bind (wpR_mono h (fun vs s' h' => ?_) fun _ _ x => x)
      refine wpR_holding ?_
      exact wpR_bind (wpR_pure (wpR_bind (wpR_pure (wpR_pure h'))))
    cases e with
    | Starred v p => cases he
    | _ => exact key _ _ h
theorem wpR_Subscript {value slice pos} {Q : Value → Shared → Prop}
    (h : wpR M A (eval value env) (fun o s₁ => wpR M A (eval slice env) (fun i s₂ => wpR M A (subscriptTail value slice o i) Q E s₂) E s₁) E s) : wpR M A (eval (.Subscript value slice pos) env) Q E s := by
  rw [eval_Subscript]
  exact wpR_bind (wpR_mono h (fun o s₁ h₁ => wpR_bind (wpR_holding (wpR_mono h₁ (fun i s₂ h₂ => wpR_bind (wpR_standAt h₂)) fun _ _ x => x))) fun _ _ x => x)
theorem wpR_Slice {lower upper step : Option Expr} {p : Pos} {Q : Value → Shared → Prop}
    (h : wpR M A (evalPart lower env) (fun l s₁ => wpR M A (evalPart upper env) (fun u s₂ => wpR M A (evalPart step env) (fun st s₃ =>
      Q (.ref s₃.heap.objs.size) { s₃ with heap := s₃.heap.push { cls := .type "slice", data := .fields #[l, u, st] } }) E s₂) E s₁) E s) : wpR M A (eval (.Slice lower upper step p) env) Q E s := by
  rw [arm_eval_Slice]
  refine wpR_bind (wpR_mono h (fun l s₁ h₁ => wpR_bind (wpR_holding (wpR_mono h₁ (fun u s₂ h₂ => wpR_bind (wpR_holding (wpR_mono h₂ (fun st s₃ h₃ => ?_) fun _ _ x => x))) fun _ _ x => x))) fun _ _ x => x)
  exact toR (wpAny_newObj_type h₃)

theorem wpR_execs_nil {Q : Flow → Shared → Prop} (h : Q .next s) : wpR M A (execs [] env) Q E s := fun _ _ _ _ => h
theorem wpR_execs_cons {st rest} {Q : Flow → Shared → Prop}
    (h : wpR M A (exec st env) (fun f s' => match f with | .next => wpR M A (execs rest env) Q E s' | f => Q f s') E s) : wpR M A (execs (st :: rest) env) Q E s := by
  rw [execs_cons]
  refine wpR_bind (wpR_mono h (fun f s' h' => ?_) fun _ _ e => e)
  cases f <;> first | exact h' | exact wpR_pure h'
theorem wpR_bindName {x : Str} {v : Value} {Q : Unit → Shared → Prop} (h : wpR M A (storeName env x v) Q E s) : wpR M A (bindName env x v) Q E s :=
  fun Γ p hΓ hg => by rw [Sem.wp_bindName]; exact h Γ p hΓ hg
theorem wpR_Assign_Name {x pos' value pos} {Q : Flow → Shared → Prop}
    (h : wpR M A (eval value env) (fun v s₁ => wpR M A (storeName env x v) (fun _ => Q .next) E s₁) E s)
    (hs : swapsWith value (some (.Name x pos')) pos.line env = pure false) : wpR M A (exec (.Assign [.Name x pos'] value pos) env) Q E s := by
  rw [exec_Assign_Name env x pos' value pos hs]
  exact wpR_bind (wpR_standAt (wpR_bind (wpR_mono h (fun v s₁ h₁ => wpR_bind (wpR_standAt (wpR_bind (wpR_bindName (wpR_mono h₁ (fun _ s₂ h₂ => wpR_pure h₂) fun _ _ e => e))))) fun _ _ e => e)))
theorem wpR_AugAssign_Name {x pos' op value pos} {Q : Flow → Shared → Prop}
    (h : wpR M A (loadName env x) (fun old s₁ => wpR M A (eval value env) (fun v s₂ => wpR M A (inplaceOp op old v)
      (fun r s₃ => wpR M A (storeName env x r) (fun _ => Q .next) E s₃) E s₂) E s₁) E s) : wpR M A (exec (.AugAssign (.Name x pos') op value pos) env) Q E s := by
  rw [exec_AugAssign_Name]
  exact wpR_bind (wpR_standAt (wpR_bind (wpR_mono h (fun old s₁ h₁ => wpR_bind (wpR_holding (wpR_mono h₁ (fun v s₂ h₂ => wpR_bind (wpR_standAt (wpR_bind (wpR_operate (wpR_mono h₂ (fun r s₃ h₃ =>
    wpR_bind (wpR_standAt (wpR_bind (wpR_bindName (wpR_mono h₃ (fun _ s₄ h₄ => wpR_pure h₄) fun _ _ e => e))))) fun _ _ e => e))))) fun _ _ e => e))) fun _ _ e => e)))
theorem wpR_If {test body orelse pos} {Q : Flow → Shared → Prop}
    (h : wpR M A (isTrue test env (eval test env)) (fun b s₂ => if b then wpR M A (execs body env) Q E s₂ else wpR M A (execs orelse env) Q E s₂) E s) : wpR M A (exec (.If test body orelse pos) env) Q E s := by
  rw [exec_If]
  refine wpR_bind (wpR_standAt (wpR_bind (wpR_mono h (fun b s₂ h₂ => ?_) fun _ _ e => e)))
  cases b <;> exact h₂
theorem wpR_Return_some {e pos} {Q : Flow → Shared → Prop} (h : wpR M A (eval e env) (fun v => Q (.ret v)) E s) : wpR M A (exec (.Return (some e) pos) env) Q E s := by
  rw [exec_Return_some]
  exact wpR_bind (wpR_standAt (wpR_bind (wpR_mono h (fun v s₁ h₁ => wpR_pure h₁) fun _ _ e => e)))

/-- what comes back out of a block of the frame's own, raised (nothing here raises through it: E is free) -/
def backBy (M : Model) (A : Around) (env : Env) (E : Value → Shared → Prop) : Value → Shared → Prop :=
  fun x s' => wpR M A (do
    if (← field x 1) == .none then unsupported "frame.own-activation:exception-without-traceback"
    setFlight x env.frame) (fun _ s'' => E x s'') E s'
theorem wpR_runOwn {c : Code} {h : Option Value} {Q : Flow → Shared → Prop}
    (hc : codeR M (A.mark h) c (fun r s' => match r with | .ok f => Q f s' | .error e => backBy M A env E e s') s) (hnb : h ≠ some byPass := by intro x; cases x) : wpR M A (runOwn c env h) Q E s := by
  unfold runOwn
  exact wpR_onRaise (wpR_run hc hnb)
theorem wpR_While {test body orelse pos} {Q : Flow → Shared → Prop}
    (h : codeR M A (.whileLoop test body orelse env) (fun r s' => match r with | .ok f => Q f s' | .error e => backBy M A env E e s') s) : wpR M A (exec (.While test body orelse pos) env) Q E s := by
  rw [exec_While]; exact wpR_bind (wpR_standAt (wpR_runOwn h))
theorem wpR_For {target iter body orelse pos} {Q : Flow → Shared → Prop}
    (h : wpR M A (eval iter env) (fun x s₁ => wpR M A (pyIter x) (fun it s₂ =>
      codeR M A (.forLoop target it body orelse env) (fun r s' => match r with | .ok f => Q f s' | .error e => backBy M A env E e s') s₂) E s₁) E s)
    (hs : ∀ x, foldedSetIterable iter env x = pure x) : wpR M A (exec (.For target iter body orelse pos) env) Q E s := by
  rw [exec_For]
  exact wpR_bind (wpR_standAt (wpR_bind (wpR_mono h (fun x s₁ h₁ => wpR_bind (wpR_of_eq (hs x) (wpR_bind (wpR_standAt (wpR_bind (wpR_holding
    (wpR_mono h₁ (fun it s₂ h₂ => wpR_runOwn h₂) fun _ _ h' => h'))))))) fun _ _ h' => h')))

/-- an exception in a loop's turn is noted -/
def noted (M : Model) (A : Around) (env : Env) (E : Value → Shared → Prop) : Value → Shared → Prop :=
  fun x s' => wpR M A (noteFrame x env) (fun _ s'' => E x s'') E s'
theorem wpR_noted {α : Type} {m : Sem α} {Q : α → Shared → Prop} (h : wpR M A m Q (noted M A env E) s) : wpR M A (m.onRaise fun x => do noteFrame x env; theTreesLotGoes x) Q E s :=
  wpR_onRaise (wpR_mono h (fun _ _ q => q) fun _ _ hx => wpR_bind (wpR_mono hx (fun _ _ e => toR (wpAny_theTreesLotGoes e)) fun _ _ e => e))
end

section
variable {prog : Program} {w : World} {A : Around} {E : Value → Shared → Prop} {s : Shared} {env : Env} {R : Result → Shared → Prop}
theorem codeR_block {stmts : List Stmt}
    (h : wpR (model prog w) A (execs stmts env) (fun f s' => R (.ok f) s') (noted (model prog w) A env fun e s' => R (.error e) s') s) : codeR (model prog w) A (.block stmts env) R s := by
  refine codeR_of_tree rfl ?_
  show wpR _ _ (do return Fin.done (← (execs stmts env).onRaise (fun x => do noteFrame x env; theTreesLotGoes x))) _ _ s
  exact wpR_bind (wpR_noted (wpR_mono h (fun f s' h' => wpR_pure h') fun _ _ h' => h'))
theorem codeR_while1 {test : Expr} {body orelse : List Stmt}
    (h : wpR (model prog w) A (isTrue test env (eval test env)) (fun b s₂ =>
        if b then wpR (model prog w) A (execs body env) (fun f s₃ => match f with
            | .next | .cont => codeR (model prog w) A (.whileLoop test body orelse env) R s₃
            | .brk => R (.ok .next) s₃
            | .ret v => R (.ok (.ret v)) s₃) (noted (model prog w) A env fun e s' => R (.error e) s') s₂
        else wpR (model prog w) A (execs orelse env) (fun f s₃ => R (.ok f) s₃) (noted (model prog w) A env fun e s' => R (.error e) s') s₂)
      (noted (model prog w) A env fun e s' => R (.error e) s') s) :
    codeR (model prog w) A (.whileLoop test body orelse env) R s := by
  refine codeR_of_tree rfl ?_
  show wpR _ A ((whileTurn test body orelse env).onRaise (fun x => do noteFrame x env; theTreesLotGoes x)) _ _ s
  refine wpR_noted ?_
  simp only [whileTurn]
  refine wpR_bind (wpR_mono h (fun b s₂ h₂ => ?_) fun _ _ h' => h')
  cases b with
  | false =>
    simp only [Bool.false_eq_true, if_false] at h₂ ⊢
    exact wpR_bind (wpR_mono h₂ (fun f s₃ h₃ => wpR_pure h₃) fun _ _ h' => h')
  | true =>
    simp only [if_true] at h₂ ⊢
    refine wpR_bind (wpR_mono h₂ (fun f s₃ h₃ => ?_) fun _ _ h' => h')
    cases f with
    | next => exact wpR_pure ⟨rfl, h₃⟩
    | cont => exact wpR_pure ⟨rfl, h₃⟩
    | brk => exact wpR_pure h₃
    | ret v => exact wpR_pure h₃
theorem codeR_for1 {target : Expr} {it : Addr} {body orelse : List Stmt}
    (h : wpR (model prog w) A (pyNext (.ref it)) (fun r s₁ => match r with
      | none => wpR (model prog w) A (execs orelse env) (fun f s₃ => R (.ok f) s₃) (noted (model prog w) A env fun e s' => R (.error e) s') s₁
      | some v => wpR (model prog w) A (letOwnedTupleGo target (.ref it) v) (fun _ s₁' => wpR (model prog w) A (assign target env v) (fun _ s₂ => wpR (model prog w) A (execs body env) (fun f s₃ => match f with
          | .next | .cont => codeR (model prog w) A (.forLoop target (.ref it) body orelse env) R s₃
          | .brk => R (.ok .next) s₃
          | .ret v => R (.ok (.ret v)) s₃) (noted (model prog w) A env fun e s' => R (.error e) s') s₂) (noted (model prog w) A env fun e s' => R (.error e) s') s₁') (noted (model prog w) A env fun e s' => R (.error e) s') s₁)
      (noted (model prog w) A env fun e s' => R (.error e) s') s) :
    codeR (model prog w) A (.forLoop target (.ref it) body orelse env) R s := by
  refine codeR_of_tree rfl ?_
  show wpR _ _ ((forTurn target (.ref it) body orelse env).onRaise (fun x => do noteFrame x env; theTreesLotGoes x)) _ _ s
  refine wpR_noted ?_
  simp only [forTurn]
  refine wpR_bind (wpR_standAt (wpR_bind (wpR_onRaise (wpR_mono h (fun r s₁ h₁ => ?_) fun _ _ h' => wpR_standAt h'))))
  cases r with
  | none => exact wpR_pure ⟨rfl, codeR_block h₁⟩
  | some v =>
    refine wpR_bind (wpR_mono h₁ (fun _ s₁' h₁' => ?_) fun _ _ h' => h')
    refine wpR_bind (wpR_mono h₁' (fun _ s₂ h₂ => wpR_bind (wpR_mono h₂ (fun f s₃ h₃ => ?_) fun _ _ h' => h')) fun _ _ h' => h')
    cases f with
    | next => exact wpR_pure ⟨rfl, h₃⟩
    | cont => exact wpR_pure ⟨rfl, h₃⟩
    | brk => exact wpR_pure h₃
    | ret v => exact wpR_pure h₃

/-- the frame of a def -/
theorem codeR_func {body : List Stmt}
    (h : wpR (model prog w) (A.deeper env) (execs body env) (fun f s' => R (.ok (.ret (match f with | .ret v => v | _ => .none))) s')
      (fun e s' => wpR (model prog w) (A.deeper env) (leaving env e) (fun _ s'' => R (.error e) s'') (fun e' s'' => R (.error e') s'') s') s) :
    codeR (model prog w) A (.func body env) R s := by
  refine codeR_of_tree rfl ?_
  show wpR _ (A.deeper env) (do point; match ← (execs body env).onRaise (leaving env) with | .ret v => ret v | _ => ret .none) _ _ s
  refine wpR_bind (wpR_point (wpR_bind (wpR_onRaise (wpR_mono h (fun f s' h' => ?_) fun _ _ h' => h'))))
  cases f <;> exact wpR_pure h'
theorem codeR_call_function {a : Addr} {args : Args} {o : Obj} {fd : FuncData} {body : List Stmt} (hroom : A.depth < recursionLimit)
    (ho : s.heap.get? a = some o) (hd' : o.data = .func fd) (hco : fd.scope.isCoroutine = false) (hgen : fd.scope.isGenerator = false) (hbody : fd.body = .stmts body) (hcd : s.heap.CodeRec fd.code fd.qualname)
    (h : wpR (model prog w) A.in1 (bindArgs fd args) (fun binds s₁ =>
      wpR (model prog w) A.in1 (newFunctionEnv fd.scope fd.globals fd.closure binds (fd.qualname ++ ".<locals>.") (some a) fd.code none fd.builtins)
        (fun env s₂ => s₂.heap.NoLimit ∧ codeR (model prog w) A (.func body env) R s₂) (fun e s' => R (.error e) s') s₁) (fun e s' => R (.error e) s') s) :
    codeR (model prog w) A (.call (.ref a) args) R s := by
  refine codeR_of_tree rfl ?_
  show wpR _ A.in1 (callAny (.ref a) args) _ _ s
  simp only [callAny]
  refine wpR_bind (toR (wpAny_load ho ?_))
  obtain ⟨c, oc, vs, tq, hc, hoc, hdc, hq⟩ := hcd
  simp only [hd', callFunction, hco, hgen, hbody, hc]
  rw [hc] at h
  refine wpR_bind (m := field (.ref c) 1) (toR (wpAny_field hoc hdc hq (wpR_bind (wpR_pure ?_))))
  exact wpR_bind (wpR_mono h (fun binds s₁ h₁ => wpR_bind (wpR_mono h₁ (fun env s₂ h₂ => wpR_bind (toR (wpAny_enterFrame h₂.1 hroom
    (wpR_pure (And.intro rfl h₂.2))))) fun _ _ h' => h')) fun _ _ h' => h')
theorem codeR_call_plain {name : Str} {params : Arguments} {body : List Stmt} {scope : Scope} {pm cd doc : Value} {a : Addr} {o : Obj} {args : List Value} {binds : List (Str × Value)}
    (hroom : A.depth < recursionLimit) (ho : s.heap.get? a = some o) (hdata : o.data = .func (docDef name params body scope pm cd doc)) (hlim : s.heap.NoLimit) (hcd : s.heap.CodeRec cd name)
    (hbind : bindArgs (docDef name params body scope pm cd doc) ⟨args, []⟩ = pure binds) (hloc : ∀ x ∈ binds, scope.names.lookup x.1 = some .local)
    (h : ∀ h₁, Fr s.heap s.heap.objs.size h₁ (fun x => binds.reverse.lookup x) →
      wpR (model prog w) (A.deeper (envOf name scope s.heap.objs.size a cd)) (execs body (envOf name scope s.heap.objs.size a cd))
        (fun f s' => R (.ok (.ret (match f with | .ret v => v | _ => .none))) s')
        (fun e s' => wpR (model prog w) (A.deeper (envOf name scope s.heap.objs.size a cd)) (leaving (envOf name scope s.heap.objs.size a cd) e)
          (fun _ s'' => R (.error e) s'') (fun e' s'' => R (.error e') s'') s')
        { s with heap := h₁, toks := s.toks + binds.length })
    (hco : scope.isCoroutine = false) (hgen : scope.isGenerator = false) (hk : scope.kind = .function) (hcell : ∀ x ∈ scope.names, x.2 ≠ .cell) :
    codeR (model prog w) A (.call (.ref a) ⟨args, []⟩) R s := by
  refine codeR_call_function hroom ho hdata hco hgen rfl hcd ?_
  rw [hbind]
  refine wpR_pure (toR (wpAny_newFunctionEnv hcell hloc (fun h₁ hns hsb => ⟨hlim.fresh _ hsb, ?_⟩) hk))
  show codeR _ _ (.func body (envOf name scope s.heap.objs.size a cd)) _ _
  exact codeR_func (h h₁ ⟨hns, fun b o e => hsb.extBut b o (Nat.ne_of_lt (Heap.lt_size e)) (Heap.get?_push_of_some _ e), Nat.le_refl _⟩)
end
end Mine

namespace Mine

/-! ## pure data and how a heap bears it -/

/-- everything that stood stands -/
abbrev Kp (h h' : Heap) : Prop := ∀ b o, h.get? b = some o → h'.get? b = some o

inductive PV where
  | none
  | bool (b : Bool)
  | int (i : Int)
  | str (l : List Nat)
  | bytes (l : List UInt8)
  | obj (v : Value)
  | tup (xs : List PV)
  | lst (xs : List PV)
  | ref (a : Addr)
  | rng (a b c : Int)
  /-- a list that was made as a plain list -/
  | lsn (xs : List PV)

mutual
def V (D : Addr → Prop) (h : Heap) : PV → Value → Prop
  | .none, v => v = .none
  | .bool b, v => v = .bool b
  | .int i, v => ∃ t, v = .int i t
  | .str l, v => ∃ t, v = .str ⟨l.toArray⟩ t
  | .bytes l, v => ∃ t, v = .bytes l.toArray t
  | .obj w, v => v = w
  | .tup xs, v => ∃ a items, v = .ref a ∧ IsTup h a items ∧ Vs D h xs items.toList
  | .lst xs, v => ∃ a items, v = .ref a ∧ ¬ D a ∧ h.IsList a items ∧ Vs D h xs items.toList
  | .ref a, v => v = .ref a
  | .rng a b c, v => ∃ r t u z, v = .ref r ∧ h.get? r = some { cls := .type "range", dict := none, data := .fields #[.int a t, .int b u, .int c z], slots := #[] }
  | .lsn xs, v => ∃ a items n, v = .ref a ∧ ¬ D a ∧ h.get? a = some { cls := .type "list", data := .seq items n } ∧ Vs D h xs items.toList
def Vs (D : Addr → Prop) (h : Heap) : List PV → List Value → Prop
  | [], vs => vs = []
  | x :: xs, vs => ∃ v r, vs = v :: r ∧ V D h x v ∧ Vs D h xs r
end

section
variable {D : Addr → Prop} {h : Heap}
theorem V_none {v} : V D h .none v ↔ v = .none := by simp only [V]
theorem V_bool {b v} : V D h (.bool b) v ↔ v = .bool b := by simp only [V]
theorem V_int {i v} : V D h (.int i) v ↔ ∃ t, v = .int i t := by simp only [V]
theorem V_str {l v} : V D h (.str l) v ↔ ∃ t, v = .str ⟨l.toArray⟩ t := by simp only [V]
theorem V_bytes {l v} : V D h (.bytes l) v ↔ ∃ t, v = .bytes l.toArray t := by simp only [V]
theorem V_obj {w v} : V D h (.obj w) v ↔ v = w := by simp only [V]
theorem V_tup {xs v} : V D h (.tup xs) v ↔ ∃ a items, v = .ref a ∧ IsTup h a items ∧ Vs D h xs items.toList := by simp only [V]
theorem V_lst {xs v} : V D h (.lst xs) v ↔ ∃ a items, v = .ref a ∧ ¬ D a ∧ h.IsList a items ∧ Vs D h xs items.toList := by simp only [V]
theorem V_ref {a v} : V D h (.ref a) v ↔ v = .ref a := by simp only [V]
theorem V_rng {a b c v} : V D h (.rng a b c) v ↔ ∃ r t u z, v = .ref r ∧ h.get? r = some { cls := .type "range", dict := none, data := .fields #[.int a t, .int b u, .int c z], slots := #[] } := by simp only [V]
theorem V_lsn {xs v} : V D h (.lsn xs) v ↔ ∃ a items n, v = .ref a ∧ ¬ D a ∧ h.get? a = some { cls := .type "list", data := .seq items n } ∧ Vs D h xs items.toList := by simp only [V]
theorem Vs_nil {vs} : Vs D h [] vs ↔ vs = [] := by simp only [Vs]
theorem Vs_cons {x xs vs} : Vs D h (x :: xs) vs ↔ ∃ v r, vs = v :: r ∧ V D h x v ∧ Vs D h xs r := by simp only [Vs]

theorem V.int (i : Int) (t : Tok) : V D h (.int i) (.int i t) := V_int.mpr ⟨t, rfl⟩
theorem V.bool (b : Bool) : V D h (.bool b) (.bool b) := V_bool.mpr rfl
theorem V.none : V D h .none .none := V_none.mpr rfl
theorem V.bytes (l : List UInt8) (t : Tok) : V D h (.bytes l) (.bytes l.toArray t) := V_bytes.mpr ⟨t, rfl⟩
theorem V.str (l : List Nat) (t : Tok) : V D h (.str l) (.str ⟨l.toArray⟩ t) := V_str.mpr ⟨t, rfl⟩

theorem Vs.length : ∀ {xs : List PV} {vs : List Value}, Vs D h xs vs → vs.length = xs.length
  | [], vs, e => by rw [Vs_nil] at e; subst e; rfl
  | x :: xs, vs, e => by
    rw [Vs_cons] at e
    obtain ⟨v, r, rfl, _, e3⟩ := e
    simp [Vs.length e3]
theorem Vs.get : ∀ {xs : List PV} {vs : List Value} (i : Nat) {x : PV}, Vs D h xs vs → xs[i]? = some x → ∃ v, vs[i]? = some v ∧ V D h x v
  | [], vs, i, x, e, hx => by simp at hx
  | y :: xs, vs, i, x, e, hx => by
    rw [Vs_cons] at e
    obtain ⟨v, r, rfl, e2, e3⟩ := e
    cases i with
    | zero => simp at hx; subst hx; exact ⟨v, rfl, e2⟩
    | succ i => simp at hx; obtain ⟨v', h1, h2⟩ := Vs.get i e3 hx; exact ⟨v', by simpa using h1, h2⟩
theorem Vs.append : ∀ {xs ys : List PV} {vs us : List Value}, Vs D h xs vs → Vs D h ys us → Vs D h (xs ++ ys) (vs ++ us)
  | [], ys, vs, us, e, f => by rw [Vs_nil] at e; subst e; simpa using f
  | x :: xs, ys, vs, us, e, f => by
    rw [Vs_cons] at e
    obtain ⟨v, r, rfl, e2, e3⟩ := e
    rw [List.cons_append, Vs_cons]
    exact ⟨v, r ++ us, rfl, e2, Vs.append e3 f⟩
theorem Vs.take : ∀ (n : Nat) {xs : List PV} {vs : List Value}, Vs D h xs vs → Vs D h (xs.take n) (vs.take n)
  | 0, xs, vs, e => by simp [Vs_nil]
  | n + 1, [], vs, e => by rw [Vs_nil] at e; subst e; simp [Vs_nil]
  | n + 1, x :: xs, vs, e => by
    rw [Vs_cons] at e
    obtain ⟨v, r, rfl, e2, e3⟩ := e
    rw [List.take_succ_cons, List.take_succ_cons, Vs_cons]
    exact ⟨v, _, rfl, e2, Vs.take n e3⟩
theorem Vs.drop : ∀ (n : Nat) {xs : List PV} {vs : List Value}, Vs D h xs vs → Vs D h (xs.drop n) (vs.drop n)
  | 0, xs, vs, e => by simpa using e
  | n + 1, [], vs, e => by rw [Vs_nil] at e; subst e; simp [Vs_nil]
  | n + 1, x :: xs, vs, e => by
    rw [Vs_cons] at e
    obtain ⟨v, r, rfl, e2, e3⟩ := e
    simpa using Vs.drop n e3
theorem Vs.ints : ∀ {ns : List Int} {vs : List Value}, Vs D h (ns.map PV.int) vs → IntsAre vs ns
  | [], vs, e => by
    simp only [List.map_nil, Vs_nil] at e; subst e; exact .nil
  | n :: ns, vs, e => by
    simp only [List.map_cons, Vs_cons] at e
    obtain ⟨v, r, rfl, e2, e3⟩ := e
    obtain ⟨t, rfl⟩ := V_int.mp e2
    exact .cons _ _ (Vs.ints e3)
theorem Vs.of_ints : ∀ {ns : List Int} {vs : List Value}, IntsAre vs ns → Vs D h (ns.map PV.int) vs
  | _, _, .nil => by simp [Vs_nil]
  | _, _, .cons _ _ e => by
    simp only [List.map_cons, Vs_cons]
    exact ⟨_, _, rfl, V.int _ _, Vs.of_ints e⟩
end

/-- an object whose data is one that a value's tree, or an iterator, reads -/
def DataOk (d : Data) : Prop := match d with
  | .seq _ _ => True
  | .fields _ => True
  | _ => False

/-- a node of a value's tree -/
def Node (D : Addr → Prop) (b : Addr) (o : Obj) : Prop :=
  (∃ xs n, o.data = .seq xs n ∧ (¬ D b ∨ o.cls = .type "tuple")) ∨ (o.cls = .type "range" ∧ ∃ vs, o.data = .fields vs)
theorem Node.ok {D : Addr → Prop} {b : Addr} {o : Obj} (x : Node D b o) : DataOk o.data ∧ (¬ D b ∨ o.cls = .type "tuple" ∨ o.cls = .type "range") := by
  rcases x with ⟨xs, n, hd, hc⟩ | ⟨hc, vs, hd⟩
  · exact ⟨by rw [hd]; trivial, hc.elim .inl fun c => .inr (.inl c)⟩
  · exact ⟨by rw [hd]; trivial, .inr (.inr hc)⟩

mutual
theorem V.move {D D' : Addr → Prop} {h h' : Heap}
    (hk : ∀ b o, h.get? b = some o → Node D b o → h'.get? b = some o)
    (hD : ∀ b o, h.get? b = some o → D' b → D b) : ∀ {x : PV} {v : Value}, V D h x v → V D' h' x v
  | .none, v, e => by rw [V_none] at *; exact e
  | .bool b, v, e => by rw [V_bool] at *; exact e
  | .int i, v, e => by rw [V_int] at *; exact e
  | .str l, v, e => by rw [V_str] at *; exact e
  | .bytes l, v, e => by rw [V_bytes] at *; exact e
  | .obj w, v, e => by rw [V_obj] at *; exact e
  | .ref k, v, e => by rw [V_ref] at *; exact e
  | .rng a b c, v, e => by
    rw [V_rng] at *
    obtain ⟨r, t, u, z, e1, e2⟩ := e
    exact ⟨r, t, u, z, e1, hk _ _ e2 (.inr ⟨rfl, _, rfl⟩)⟩
  | .tup xs, v, e => by
    rw [V_tup] at *
    obtain ⟨a, items, e1, ⟨o, ho, hc, n, hd⟩, e3⟩ := e
    exact ⟨a, items, e1, ⟨o, hk _ _ ho (.inl ⟨_, _, hd, .inr hc⟩), hc, n, hd⟩, Vs.move hk hD e3⟩
  | .lst xs, v, e => by
    rw [V_lst] at *
    obtain ⟨a, items, e1, e2, ⟨o, ho, hc, n, hd⟩, e3⟩ := e
    exact ⟨a, items, e1, fun d => e2 (hD _ _ ho d), ⟨o, hk _ _ ho (.inl ⟨_, _, hd, .inl e2⟩), hc, n, hd⟩, Vs.move hk hD e3⟩
  | .lsn xs, v, e => by
    rw [V_lsn] at *
    obtain ⟨a, items, n, e1, e2, ho, e3⟩ := e
    exact ⟨a, items, n, e1, fun d => e2 (hD _ _ ho d), hk _ _ ho (.inl ⟨_, _, rfl, .inl e2⟩), Vs.move hk hD e3⟩
theorem Vs.move {D D' : Addr → Prop} {h h' : Heap}
    (hk : ∀ b o, h.get? b = some o → Node D b o → h'.get? b = some o)
    (hD : ∀ b o, h.get? b = some o → D' b → D b) : ∀ {xs : List PV} {vs : List Value}, Vs D h xs vs → Vs D' h' xs vs
  | [], vs, e => by rw [Vs_nil] at *; exact e
  | x :: xs, vs, e => by
    rw [Vs_cons] at *
    obtain ⟨v, r, e1, e2, e3⟩ := e
    exact ⟨v, r, e1, V.move hk hD e2, Vs.move hk hD e3⟩
end
mutual
/-- growth alone -/
theorem V.grow {D : Addr → Prop} {h h' : Heap} (hk : Kp h h') : ∀ {x : PV} {v : Value}, V D h x v → V D h' x v
  | .none, v, e => by rw [V_none] at *; exact e
  | .bool b, v, e => by rw [V_bool] at *; exact e
  | .int i, v, e => by rw [V_int] at *; exact e
  | .str l, v, e => by rw [V_str] at *; exact e
  | .bytes l, v, e => by rw [V_bytes] at *; exact e
  | .obj w, v, e => by rw [V_obj] at *; exact e
  | .ref k, v, e => by rw [V_ref] at *; exact e
  | .rng a b c, v, e => by
    rw [V_rng] at *
    obtain ⟨r, t, u, z, e1, e2⟩ := e
    exact ⟨r, t, u, z, e1, hk _ _ e2⟩
  | .tup xs, v, e => by
    rw [V_tup] at *
    obtain ⟨a, items, e1, e2, e3⟩ := e
    exact ⟨a, items, e1, e2.keeps hk, Vs.grow hk e3⟩
  | .lst xs, v, e => by
    rw [V_lst] at *
    obtain ⟨a, items, e1, e2, ⟨o, ho, r⟩, e3⟩ := e
    exact ⟨a, items, e1, e2, ⟨o, hk _ _ ho, r⟩, Vs.grow hk e3⟩
  | .lsn xs, v, e => by
    rw [V_lsn] at *
    obtain ⟨a, items, n, e1, e2, ho, e3⟩ := e
    exact ⟨a, items, n, e1, e2, hk _ _ ho, Vs.grow hk e3⟩
theorem Vs.grow {D : Addr → Prop} {h h' : Heap} (hk : Kp h h') : ∀ {xs : List PV} {vs : List Value}, Vs D h xs vs → Vs D h' xs vs
  | [], vs, e => by rw [Vs_nil] at *; exact e
  | x :: xs, vs, e => by
    rw [Vs_cons] at *
    obtain ⟨v, r, e1, e2, e3⟩ := e
    exact ⟨v, r, e1, V.grow hk e2, Vs.grow hk e3⟩
end
mutual
/-- fewer owned addresses (among those that stand) -/
theorem V.less {D D' : Addr → Prop} {h : Heap} (hD : ∀ b o, h.get? b = some o → D' b → D b) : ∀ {x : PV} {v : Value}, V D h x v → V D' h x v
  | .none, v, e => by rw [V_none] at *; exact e
  | .bool b, v, e => by rw [V_bool] at *; exact e
  | .int i, v, e => by rw [V_int] at *; exact e
  | .str l, v, e => by rw [V_str] at *; exact e
  | .bytes l, v, e => by rw [V_bytes] at *; exact e
  | .obj w, v, e => by rw [V_obj] at *; exact e
  | .ref k, v, e => by rw [V_ref] at *; exact e
  | .rng a b c, v, e => by rw [V_rng] at *; exact e
  | .tup xs, v, e => by
    rw [V_tup] at *
    obtain ⟨a, items, e1, e2, e3⟩ := e
    exact ⟨a, items, e1, e2, Vs.less hD e3⟩
  | .lst xs, v, e => by
    rw [V_lst] at *
    obtain ⟨a, items, e1, e2, ⟨o, ho, r⟩, e3⟩ := e
    exact ⟨a, items, e1, fun d => e2 (hD _ _ ho d), ⟨o, ho, r⟩, Vs.less hD e3⟩
  | .lsn xs, v, e => by
    rw [V_lsn] at *
    obtain ⟨a, items, n, e1, e2, ho, e3⟩ := e
    exact ⟨a, items, n, e1, fun d => e2 (hD _ _ ho d), ho, Vs.less hD e3⟩
theorem Vs.less {D D' : Addr → Prop} {h : Heap} (hD : ∀ b o, h.get? b = some o → D' b → D b) : ∀ {xs : List PV} {vs : List Value}, Vs D h xs vs → Vs D' h xs vs
  | [], vs, e => by rw [Vs_nil] at *; exact e
  | x :: xs, vs, e => by
    rw [Vs_cons] at *
    obtain ⟨v, r, e1, e2, e3⟩ := e
    exact ⟨v, r, e1, V.less hD e2, Vs.less hD e3⟩
end
end Mine

namespace Mine

/-! ## states and judgements -/

inductive PO where
  | list (xs : List PV)
  | barr (l : List UInt8)

abbrev Loc := List (Str × PV)
abbrev Own := List (Addr × PO)

def POat (D : Addr → Prop) (h : Heap) (a : Addr) : PO → Prop
  | .list xs => ∃ items n, h.get? a = some { cls := .type "list", data := .seq items n } ∧ Vs D h xs items.toList
  | .barr l => h.get? a = some { cls := .type "bytearray", data := .bytearray l.toArray }

structure Cx where
  prog : Program
  w : World
  B : Heap
  gl : List (Str × PV)

def GloV (B : Heap) (x : Str) (v : Value) : Prop :=
  ∃ mg, B.Ns mainGlobals mg ∧ (mg x = some v ∨ (mg x = none ∧ ∃ mb, B.Ns builtinsNs mb ∧ mb x = some v))

structure Cx.Ok (Γ : Cx) : Prop where
  glob : ∀ x p, Γ.gl.lookup x = some p → ∃ v, GloV Γ.B x v ∧ ∀ D h, V D h p v
  nolimit : Γ.B.NoLimit

abbrev Cx.M (Γ : Cx) : Model := model Γ.prog Γ.w

structure Fm where
  L : Addr
  cl : List (Str × Addr)
  q : Str
  f : Option Addr
  cd : Value
  fr : Option Addr
  /-- what the callers own -/
  D : Addr → Prop

/-- owned: by the callers, or here -/
def Dm (F : Fm) (μ : Own) (b : Addr) : Prop := F.D b ∨ b ∈ μ.map (·.1)

abbrev Fm.env (F : Fm) (sc : Scope) : Env :=
  { scope := sc, locals := F.L, globals := mainGlobals, cells := F.cl, qual := F.q, func := F.f, code := F.cd, frame := F.fr, builtins := builtinsNs }

structure Lv (n : Nat) (A : Around) : Prop where
  handled : A.handled = none
  depth : A.depth ≤ 310 + 10 * n
  units : A.units ≤ 100 + 100 * n
  guards : A.guards = some []

structure Gr (s s' : Shared) : Prop where
  keep : Kp s.heap s'.heap
  gens : s'.gens = s.gens
  os : s'.os = s.os
theorem Gr.refl (s : Shared) : Gr s s := ⟨fun _ _ e => e, rfl, rfl⟩
theorem Gr.trans {s s' s'' : Shared} (a : Gr s s') (b : Gr s' s'') : Gr s s'' :=
  ⟨fun x o e => b.keep x o (a.keep x o e), b.gens.trans a.gens, b.os.trans a.os⟩
theorem Gr.toks {s : Shared} (n : Nat) : Gr s { s with toks := n } := ⟨fun _ _ e => e, rfl, rfl⟩
theorem Gr.heap {s : Shared} {h' : Heap} (n : Nat) (hk : Kp s.heap h') : Gr s { s with heap := h', toks := n } := ⟨hk, rfl, rfl⟩
theorem Kp.push (h : Heap) (o : Obj) : Kp h (h.push o) := fun _ _ e => Heap.get?_push_of_some o e
theorem Kp.trans {a b c : Heap} (x : Kp a b) (y : Kp b c) : Kp a c := fun p o e => y p o (x p o e)

structure St (Γ : Cx) (sc : Scope) (F : Fm) (σ : Loc) (μ : Own) (s : Shared) : Prop where
  ok : Γ.Ok
  base : Kp Γ.B s.heap
  ns : ∃ m, s.heap.Ns F.L m ∧ ∀ x v, σ.lookup x = some v → sc.names.lookup x = some .local → ∃ val, m x = some val ∧ V (Dm F μ) s.heap v val
  cel : ∀ x v, σ.lookup x = some v → (sc.names.lookup x = some .cell ∨ sc.names.lookup x = some .free) →
    ∃ c val, F.cl.lookup x = some c ∧ s.heap.IsCell c (some val) ∧ V (Dm F μ) s.heap v val
  own : ∀ a o, (a, o) ∈ μ → POat (Dm F μ) s.heap a o
  dal : ∀ b, F.D b → (s.heap.get? b).isSome

theorem Kp.alive {h h' : Heap} (x : Kp h h') : ∀ b, (h.get? b).isSome → (h'.get? b).isSome := fun b e => by
  obtain ⟨o, ho⟩ := Option.isSome_iff_exists.mp e
  rw [x b o ho]; rfl
theorem POat.grow {D : Addr → Prop} {h h' : Heap} {a : Addr} {o : PO} (hk : Kp h h') (x : POat D h a o) : POat D h' a o := by
  cases o with
  | list xs => obtain ⟨items, n, ho, e⟩ := x; exact ⟨items, n, hk _ _ ho, e.grow hk⟩
  | barr l => exact hk _ _ x

theorem St.grow {Γ sc F σ μ s s'} (x : St Γ sc F σ μ s) (g : Gr s s') : St Γ sc F σ μ s' where
  ok := x.ok
  base := x.base.trans g.keep
  ns := let ⟨m, hn, hv⟩ := x.ns; ⟨m, hn.keeps g.keep, fun y v a b => let ⟨val, e, e'⟩ := hv y v a b; ⟨val, e, e'.grow g.keep⟩⟩
  cel := fun y v a b => let ⟨c, val, e1, e2, e3⟩ := x.cel y v a b; ⟨c, val, e1, e2.keeps g.keep, e3.grow g.keep⟩
  own := fun a o hm => (x.own a o hm).grow g.keep
  dal := fun b hb => g.keep.alive b (x.dal b hb)

def Ev (Γ : Cx) (k : Nat) (sc : Scope) (σ : Loc) (μ : Own) (e : Expr) (v : PV) : Prop :=
  ∀ (A : Around) (n : Nat) (F : Fm) (s : Shared) (Q : Value → Shared → Prop) (E : Value → Shared → Prop), n + k ≤ 8 → Lv n A → St Γ sc F σ μ s →
    (∀ val s', Gr s s' → V (Dm F μ) s'.heap v val → Q val s') → wpR Γ.M A (eval e (F.env sc)) Q E s

/-- a test -/
def Tr (Γ : Cx) (k : Nat) (sc : Scope) (σ : Loc) (μ : Own) (e : Expr) (b : Bool) : Prop :=
  ∀ (A : Around) (n : Nat) (F : Fm) (s : Shared) (Q : Bool → Shared → Prop) (E : Value → Shared → Prop), n + k ≤ 8 → Lv n A → St Γ sc F σ μ s →
    (∀ s', Gr s s' → Q b s') → wpR Γ.M A (isTrue e (F.env sc) (eval e (F.env sc))) Q E s

/-- the arguments of a call -/
def Es (Γ : Cx) (k : Nat) (sc : Scope) (σ : Loc) (μ : Own) (pos : Pos) (es : List Expr) (vs : List PV) : Prop :=
  ∀ (A : Around) (n : Nat) (F : Fm) (s : Shared) (Q : List Value → Shared → Prop) (E : Value → Shared → Prop), n + k ≤ 8 → Lv n A → St Γ sc F σ μ s →
    (∀ vals s', Gr s s' → Vs (Dm F μ) s'.heap vs vals → Q vals s') → wpR Γ.M A (spliced (backTo pos (starEach es (F.env sc)))) Q E s

/-- what a call of a value gives: the answer's lists are new -/
def CallOk (Γ : Cx) (k : Nat) (f : Value) (args : List PV) (r : PV) : Prop :=
  ∀ (A : Around) (n : Nat) (D : Addr → Prop) (s : Shared) (vals : List Value) (Q : Value → Shared → Prop) (E : Value → Shared → Prop), n + k ≤ 8 → Lv n A → Γ.Ok → Kp Γ.B s.heap →
    Vs D s.heap args vals → (∀ b, D b → (s.heap.get? b).isSome) → (∀ val s', Gr s s' → V D s'.heap r val → Q val s') → wpR Γ.M A (call f vals) Q E s

/-! ## expressions -/

section
variable {Γ : Cx} {k : Nat} {sc : Scope} {σ : Loc} {μ : Own} {pos : Pos}

def isVar : Option NameKind → Bool
  | some .local | some .cell | some .free => true
  | _ => false

theorem Ev.name {x : Str} {v : PV} (h : σ.lookup x = some v) (hl : isVar (sc.names.lookup x) = true := by decide +kernel) (hk : sc.kind = .function := by kernel_rfl)
    (hd : (x == ("__debug__" : Str)) = false := by decide +kernel) (hc : (x == ("__classdict__" : Str)) = false := by decide +kernel) : Ev Γ k sc σ μ (.Name x pos) v := by
  intro A n F s Q E _ _ st hQ
  have hk' : (F.env sc).scope.kind = .function := hk
  refine toR (wpAny_Name ?_ hd)
  cases hn : sc.names.lookup x with
  | none => rw [hn] at hl; cases hl
  | some kd =>
    rw [hn] at hl
    have hkd : (F.env sc).kindOf x = some kd := hn
    cases kd with
    | «local» =>
      obtain ⟨m, hm, hv⟩ := st.ns
      obtain ⟨val, e, ev⟩ := hv x v h hn
      exact wpAny_loadName_local hk' hkd hm e (hQ _ _ (Gr.refl s) ev)
    | cell =>
      obtain ⟨c, val, e1, e2, e3⟩ := st.cel x v h (.inl hn)
      exact wpAny_loadName_cell hk' hkd e1 e2 (hQ _ _ (Gr.refl s) e3)
    | free =>
      obtain ⟨c, val, e1, e2, e3⟩ := st.cel x v h (.inr hn)
      exact wpAny_loadName_free hk' hkd e1 e2 (hQ _ _ (Gr.refl s) e3) hc
    | _ => cases hl

theorem Ev.glob {x : Str} {v : PV} (h : Γ.gl.lookup x = some v) (hl : sc.names.lookup x = some .globalImplicit := by kernel_rfl) (hk : sc.kind = .function := by kernel_rfl)
    (hd : (x == ("__debug__" : Str)) = false := by decide +kernel) : Ev Γ k sc σ μ (.Name x pos) v := by
  intro A n F s Q E _ _ st hQ
  obtain ⟨val, ⟨mg, hg, hx⟩, hv⟩ := st.ok.glob x v h
  have hq : Q val s := hQ _ _ (Gr.refl s) (hv _ _)
  refine toR (Name_function_global (env := F.env sc) hk hl ?_ hd)
  rcases hx with hx | ⟨hx, mb, hb, hy⟩
  · exact loadGlobal_global (env := F.env sc) (hg.keeps st.base) hx hq
  · exact loadGlobal_builtin (env := F.env sc) (hg.keeps st.base) hx (hb.keeps st.base) hy hq

theorem Ev.cint {i : Int} {kd : Nat} : Ev Γ k sc σ μ (.Constant (.int i) kd pos) (.int i) :=
  fun _ _ _ _ _ _ _ _ _ hQ => toR (wpAny_Constant_int (hQ _ _ (Gr.toks _) (V.int _ _)))
theorem Ev.cbool {b : Bool} {kd : Nat} : Ev Γ k sc σ μ (.Constant (.bool b) kd pos) (.bool b) :=
  fun _ _ _ _ _ _ _ _ _ hQ => toR (wpAny_Constant_bool (hQ _ _ (Gr.refl _) (V.bool _)))
theorem Ev.cnone {kd : Nat} : Ev Γ k sc σ μ (.Constant .none kd pos) .none :=
  fun _ _ _ _ _ _ _ _ _ hQ => toR (wpAny_Constant_none (hQ _ _ (Gr.refl _) V.none))
theorem Ev.cstr {x : Str} {kd : Nat} {l : List Nat} (e : x.cps.toList = l) : Ev Γ k sc σ μ (.Constant (.str x) kd pos) (.str l) := by
  intro _ _ _ _ _ _ _ _ _ hQ
  refine toR (wpAny_Constant_str (hQ _ _ (Gr.toks _) ?_))
  subst e; exact V_str.mpr ⟨_, rfl⟩
/-- two operands and an operation on values -/
def Op2 (Γ : Cx) (f : Value → Value → Sem Value) (a b r : PV) : Prop :=
  ∀ (A : Around) (n : Nat) (D : Addr → Prop) (s : Shared) (x y : Value) (Q : Value → Shared → Prop) (E : Value → Shared → Prop), n ≤ 8 → Lv n A → Γ.Ok → Kp Γ.B s.heap → V D s.heap a x → V D s.heap b y → (∀ b, D b → (s.heap.get? b).isSome) →
    (∀ val s', Gr s s' → V D s'.heap r val → Q val s') → wpAny Γ.M A (f x y) Q E s

theorem St.dom {Γ sc F σ μ s} (st : St Γ sc F σ μ s) : ∀ b, Dm F μ b → (s.heap.get? b).isSome := by
  intro b hb
  rcases hb with hb | hb
  · exact st.dal b hb
  obtain ⟨p, hp, rfl⟩ := List.mem_map.mp hb
  have := st.own p.1 p.2 hp
  cases hq : p.2 with
  | list xs => rw [hq] at this; obtain ⟨items, _, ho, _⟩ := this; rw [ho]; rfl
  | barr l =>
    rw [hq] at this
    have ho : s.heap.get? p.1 = some { cls := .type "bytearray", data := .bytearray l.toArray } := this
    rw [ho]; rfl

theorem Ev.bin {l r : Expr} {op : Operator} {a b c : PV} (hl : Ev Γ k sc σ μ l a) (hr : Ev Γ k sc σ μ r b) (ho : Op2 Γ (binaryOp op) a b c) : Ev Γ k sc σ μ (.BinOp l op r pos) c := by
  intro A n F s Q E hn hA st hQ
  refine wpR_BinOp (hl A n F s _ _ hn hA st fun x s₁ g₁ hx => ?_)
  refine hr A n F s₁ _ _ hn hA (st.grow g₁) fun y s₂ g₂ hy => ?_
  exact toR <| ho A n _ s₂ x y _ _ (by omega) hA st.ok ((st.grow g₁).grow g₂).base (hx.grow g₂.keep) hy ((st.grow g₁).grow g₂).dom fun v s₃ g₃ hv => hQ v s₃ ((g₁.trans g₂).trans g₃) hv

theorem Ev.cmp {l r : Expr} {op : CmpOp} {a b c : PV} (hl : Ev Γ k sc σ μ l a) (hr : Ev Γ k sc σ μ r b) (ho : Op2 Γ (compareOp op) a b c)
    (hm : behindInMarks op r = false := by kernel_rfl) : Ev Γ k sc σ μ (.Compare l [op] [r] pos) c := by
  intro A n F s Q E hn hA st hQ
  refine wpR_Compare1 (hl A n F s _ _ hn hA st fun x s₁ g₁ hx => ?_) hm
  refine hr A n F s₁ _ _ hn hA (st.grow g₁) fun y s₂ g₂ hy => ?_
  exact toR <| ho A n _ s₂ x y _ _ (by omega) hA st.ok ((st.grow g₁).grow g₂).base (hx.grow g₂.keep) hy ((st.grow g₁).grow g₂).dom fun v s₃ g₃ hv => hQ v s₃ ((g₁.trans g₂).trans g₃) hv

theorem Tr.cmp {l r : Expr} {op : CmpOp} {a b : PV} {c : Bool} (hl : Ev Γ k sc σ μ l a) (hr : Ev Γ k sc σ μ r b) (ho : Op2 Γ (compareOp op) a b (.bool c))
    (hm : behindInMarks op r = false := by kernel_rfl) : Tr Γ k sc σ μ (.Compare l [op] [r] pos) c := by
  intro A n F s Q E hn hA st hQ
  refine wpR_isTrue_Compare1 (hl A n F s _ _ hn hA st fun x s₁ g₁ hx => ?_) hm
  refine hr A n F s₁ _ _ hn hA (st.grow g₁) fun y s₂ g₂ hy => ?_
  refine toR (ho A n _ s₂ x y _ _ (by omega) hA st.ok ((st.grow g₁).grow g₂).base (hx.grow g₂.keep) hy ((st.grow g₁).grow g₂).dom fun v s₃ g₃ hv => ?_)
  rw [V_bool] at hv; subst hv
  exact toR (wpAny_truthy_bool (hQ s₃ ((g₁.trans g₂).trans g₃)))

/-- `a <= x <= b` -/
theorem Tr.cmp2 {l r t : Expr} {op op' : CmpOp} {a b d : PV} {c c' : Bool} (hl : Ev Γ k sc σ μ l a) (hr : Ev Γ k sc σ μ r b) (ho : Op2 Γ (compareOp op) a b (.bool c))
    (ht : c = true → Ev Γ k sc σ μ t d) (ho' : c = true → Op2 Γ (compareOp op') b d (.bool c'))
    (hm : ∀ env, markedEach [op, op'] [r, t] (evalEach [r, t] env) = [eval r env, eval t env] := by intro _; kernel_rfl) : Tr Γ k sc σ μ (.Compare l [op, op'] [r, t] pos) (c && c') := by
  intro A n F s Q E hn hA st hQ
  show wpR _ _ (do testChain pos (← eval l (F.env sc)) [op, op'] (markedEach [op, op'] [r, t] (evalEach [r, t] (F.env sc)))) Q E s
  rw [hm]
  refine wpR_bind (hl A n F s _ _ hn hA st fun x s₁ g₁ hx => ?_)
  show wpR _ _ (do
    let rv ← holding [x] (eval r (F.env sc))
    standAt pos
    let c ← holding [x, rv] (compareOp op x rv)
    release [x, rv] [c]
    if ← holding [c, rv] (truthy c) then testChain pos rv [op'] [eval t (F.env sc)] else pure false) Q E s₁
  refine wpR_bind (wpR_holding (hr A n F s₁ _ _ hn hA (st.grow g₁) fun y s₂ g₂ hy => wpR_bind (wpR_standAt (wpR_bind (wpR_holding ?_)))))
  refine toR (ho A n _ s₂ x y _ _ (by omega) hA st.ok ((st.grow g₁).grow g₂).base (hx.grow g₂.keep) hy ((st.grow g₁).grow g₂).dom fun v s₃ g₃ hv => ?_)
  rw [V_bool] at hv; subst hv
  refine wpR_bind (wpR_release ?_)
  refine wpR_bind (wpR_holding (toR (wpAny_truthy_bool ?_)))
  cases c with
  | false => exact wpR_pure (hQ s₃ ((g₁.trans g₂).trans g₃))
  | true =>
    simp only [if_true]
    show wpR _ _ (do
      let rv ← holding [y] (eval t (F.env sc))
      standAt pos
      let c ← operate [y, rv] (compareOp op' y rv)
      holding [c] (truthy c)) Q E s₃
    refine wpR_bind (wpR_holding (ht rfl A n F s₃ _ _ hn hA (((st.grow g₁).grow g₂).grow g₃) fun z s₄ g₄ hz => wpR_bind (wpR_standAt (wpR_bind ?_))))
    refine wpR_operate ?_
    refine toR (ho' rfl A n _ s₄ y z _ _ (by omega) hA st.ok ((((st.grow g₁).grow g₂).grow g₃).grow g₄).base ((hy.grow g₃.keep).grow g₄.keep) hz ((((st.grow g₁).grow g₂).grow g₃).grow g₄).dom fun v s₅ g₅ hv => ?_)
    rw [V_bool] at hv; subst hv
    exact wpR_holding (toR (wpAny_truthy_bool (hQ s₅ ((((g₁.trans g₂).trans g₃).trans g₄).trans g₅))))

/-- a value's truth -/
def Truth (Γ : Cx) (a : PV) (b : Bool) : Prop :=
  ∀ (A : Around) (n : Nat) (D : Addr → Prop) (s : Shared) (x : Value) (Q : Bool → Shared → Prop) (E : Value → Shared → Prop), n ≤ 8 → Lv n A → Kp Γ.B s.heap → V D s.heap a x → (∀ s', Gr s s' → Q b s') → wpAny Γ.M A (truthy x) Q E s

theorem Tr.val {e : Expr} {a : PV} {b : Bool} (h : Ev Γ k sc σ μ e a) (ht : Truth Γ a b)
    (he : ∀ env, isTrue e env (eval e env) = (do let v ← eval e env; standAt e.pos; holding [v] (truthy v)) := by intro _; kernel_rfl) : Tr Γ k sc σ μ e b := by
  intro A n F s Q E hn hA st hQ
  refine wpR_isTrue_value (h A n F s _ _ hn hA st fun x s₁ g₁ hx => ?_) (he _)
  exact toR (ht A n _ s₁ x _ _ (by omega) hA (st.grow g₁).base hx fun s₂ g₂ => hQ s₂ (g₁.trans g₂))
theorem Truth.bool {b : Bool} : Truth Γ (.bool b) b := by
  intro A n D s x Q E _ _ _ hx hQ
  rw [V_bool] at hx; subst hx
  exact wpAny_truthy_bool (hQ s (Gr.refl s))
theorem Ev.neg {e : Expr} {i : Int} (h : Ev Γ k sc σ μ e (.int i)) : Ev Γ k sc σ μ (.UnaryOp .USub e pos) (.int (-i)) := by
  intro A n F s Q E hn hA st hQ
  refine wpR_UnaryOp (h A n F s _ _ hn hA st fun v s₁ g₁ hv => ?_)
  obtain ⟨t, rfl⟩ := V_int.mp hv
  exact toR <| neg_int (hQ _ _ (g₁.trans (Gr.toks _)) (V.int _ _))

theorem Es.nil : Es Γ k sc σ μ pos [] [] := fun _ _ _ s _ _ _ _ _ hQ => toR (wpAny_items_nil (hQ _ _ (Gr.refl s) (Vs_nil.mpr rfl)))
theorem Es.cons {e : Expr} {es : List Expr} {v : PV} {vs : List PV} (h : Ev Γ k sc σ μ e v) (hs : Es Γ k sc σ μ pos es vs)
    (he : ∀ env, starEach (e :: es) env = (false, eval e env) :: starEach es env := by intro _; kernel_rfl) : Es Γ k sc σ μ pos (e :: es) (v :: vs) := by
  intro A n F s Q E hn hA st hQ
  refine wpR_items_cons (h A n F s _ _ hn hA st fun x s₁ g₁ hx => ?_) (he _)
  exact hs A n F s₁ _ _ hn hA (st.grow g₁) fun xs s₂ g₂ hxs => hQ _ s₂ (g₁.trans g₂) (Vs_cons.mpr ⟨x, xs, rfl, hx.grow g₂.keep, hxs⟩)
end

/-! ## operations on ints -/
section
variable {Γ : Cx} {a b : Int}
theorem Op2.add : Op2 Γ (binaryOp .Add) (.int a) (.int b) (.int (a + b)) := by
  intro A n D s x y Q E _ _ _ _ hx hy _ hQ
  obtain ⟨t, rfl⟩ := V_int.mp hx; obtain ⟨u, rfl⟩ := V_int.mp hy
  exact PyProof.Rows.add_int (hQ _ _ (Gr.toks _) (V.int _ _))
theorem Op2.sub : Op2 Γ (binaryOp .Sub) (.int a) (.int b) (.int (a - b)) := by
  intro A n D s x y Q E _ _ _ _ hx hy _ hQ
  obtain ⟨t, rfl⟩ := V_int.mp hx; obtain ⟨u, rfl⟩ := V_int.mp hy
  exact PyProof.Rows.sub_int (hQ _ _ (Gr.toks _) (V.int _ _))
theorem Op2.mul (hm : IntMulOk a b) : Op2 Γ (binaryOp .Mult) (.int a) (.int b) (.int (a * b)) := by
  intro A n D s x y Q E _ _ _ _ hx hy _ hQ
  obtain ⟨t, rfl⟩ := V_int.mp hx; obtain ⟨u, rfl⟩ := V_int.mp hy
  exact PyProof.Rows.mul_int (hQ _ _ (Gr.toks _) (V.int _ _)) hm
theorem Op2.fdiv (hb : 0 < b) (hs : b < 2 ^ 64) : Op2 Γ (binaryOp .FloorDiv) (.int a) (.int b) (.int (a / b)) := by
  intro A n D s x y Q E _ _ _ _ hx hy _ hQ
  obtain ⟨t, rfl⟩ := V_int.mp hx; obtain ⟨u, rfl⟩ := V_int.mp hy
  refine PyProof.Rows.floordiv_int (by omega) ?_ (.inl (PyProof.noPylong_of_log2 ?_))
  · rw [Int.fdiv_eq_ediv_of_nonneg _ (by omega)]; exact hQ _ _ (Gr.toks _) (V.int _ _)
  · have : b.natAbs < 2 ^ 64 := by omega
    have h1 : b.natAbs.log2 < 64 := (Nat.log2_lt (by omega)).mpr this
    omega
theorem Op2.mod (hb : 0 < b) : Op2 Γ (binaryOp .Mod) (.int a) (.int b) (.int (a % b)) := by
  intro A n D s x y Q E _ _ _ _ hx hy _ hQ
  obtain ⟨t, rfl⟩ := V_int.mp hx; obtain ⟨u, rfl⟩ := V_int.mp hy
  refine PyProof.Rows.mod_int' (by omega) ?_
  rw [Int.fmod_eq_emod_of_nonneg _ (by omega)]; exact hQ _ _ (Gr.toks _) (V.int _ _)
theorem Op2.lt : Op2 Γ (compareOp .Lt) (.int a) (.int b) (.bool (decide (a < b))) := by
  intro A n D s x y Q E _ _ _ _ hx hy _ hQ
  obtain ⟨t, rfl⟩ := V_int.mp hx; obtain ⟨u, rfl⟩ := V_int.mp hy
  exact PyProof.Rows.lt_int (hQ _ _ (Gr.refl _) (V.bool _))
theorem Op2.gt : Op2 Γ (compareOp .Gt) (.int a) (.int b) (.bool (decide (b < a))) := by
  intro A n D s x y Q E _ _ _ _ hx hy _ hQ
  obtain ⟨t, rfl⟩ := V_int.mp hx; obtain ⟨u, rfl⟩ := V_int.mp hy
  exact PyProof.Rows.gt_int (hQ _ _ (Gr.refl _) (V.bool _))
theorem Op2.eq : Op2 Γ (compareOp .Eq) (.int a) (.int b) (.bool (decide (a = b))) := by
  intro A n D s x y Q E _ _ _ _ hx hy _ hQ
  obtain ⟨t, rfl⟩ := V_int.mp hx; obtain ⟨u, rfl⟩ := V_int.mp hy
  refine PyProof.Rows.eq_int ?_
  have := hQ (.bool (decide (a = b))) s (Gr.refl _) (V.bool _)
  rwa [show (a == b) = decide (a = b) from by rw [Bool.eq_iff_iff]; simp]
theorem Op2.le : Op2 Γ (compareOp .LtE) (.int a) (.int b) (.bool (decide (a ≤ b))) := by
  intro A n D s x y Q E _ _ _ _ hx hy _ hQ
  obtain ⟨t, rfl⟩ := V_int.mp hx; obtain ⟨u, rfl⟩ := V_int.mp hy
  exact PyProof.Rows.le_int (hQ _ _ (Gr.refl _) (V.bool _))
theorem Op2.iadd : Op2 Γ (inplaceOp .Add) (.int a) (.int b) (.int (a + b)) := by
  intro A n D s x y Q E _ _ _ _ hx hy _ hQ
  obtain ⟨t, rfl⟩ := V_int.mp hx; obtain ⟨u, rfl⟩ := V_int.mp hy
  exact PyProof.Rows.iadd_int (hQ _ _ (Gr.toks _) (V.int _ _))
theorem Op2.ifdiv (hb : 0 < b) (hs : b < 2 ^ 64) : Op2 Γ (inplaceOp .FloorDiv) (.int a) (.int b) (.int (a / b)) := by
  intro A n D s x y Q E _ _ _ _ hx hy _ hQ
  obtain ⟨t, rfl⟩ := V_int.mp hx; obtain ⟨u, rfl⟩ := V_int.mp hy
  refine PyProof.Rows.ifloordiv_int (by omega) ?_ (.inl (PyProof.noPylong_of_log2 ?_))
  · rw [Int.fdiv_eq_ediv_of_nonneg _ (by omega)]; exact hQ _ _ (Gr.toks _) (V.int _ _)
  · have : b.natAbs < 2 ^ 64 := by omega
    have h1 : b.natAbs.log2 < 64 := (Nat.log2_lt (by omega)).mpr this
    omega
end
end Mine

namespace Mine

/-! ## statements -/

structure Sx (Γ : Cx) (h₀ : Heap) (sc : Scope) (F : Fm) (σ : Loc) (μ : Own) (s : Shared) (cs : Scope := sc) : Prop extends St Γ sc F σ μ s where
  keep : Kp h₀ s.heap
  baseh : Kp Γ.B h₀
  newL : h₀.get? F.L = none
  cells : ∀ x, cs.names.lookup x = some .cell → ∃ c v, F.cl.lookup x = some c ∧ h₀.get? c = none ∧ s.heap.IsCell c v
  cellsAll : ∀ x c, F.cl.lookup x = some c → ∃ v, s.heap.IsCell c v
  cellsApart : ∀ x y c, cs.names.lookup x = some .cell → F.cl.lookup x = some c → F.cl.lookup y = some c → y = x
  ownNew : ∀ b, b ∈ μ.map (·.1) → h₀.get? b = none
  dold : ∀ b, F.D b → (h₀.get? b).isSome
  apart : (μ.map (·.1)).Nodup

inductive Fl where
  | next | brk | cont
  | ret (v : PV)

def FlV (D : Addr → Prop) (h : Heap) : Fl → Flow → Prop
  | .next, f => f = .next
  | .brk, f => f = .brk
  | .cont, f => f = .cont
  | .ret v, f => ∃ val, f = .ret val ∧ V D h v val

structure Sp (F : Fm) (μ μ' : Own) (s s' : Shared) : Prop where
  keep : ∀ b o, s.heap.get? b = some o → b ≠ F.L → (∀ x, F.cl.lookup x ≠ some b) → ¬ Dm F μ b → s'.heap.get? b = some o
  alive : ∀ b, (s.heap.get? b).isSome → (s'.heap.get? b).isSome
  dom : ∀ b, (s.heap.get? b).isSome → Dm F μ' b → Dm F μ b
  gens : s'.gens = s.gens
  os : s'.os = s.os

theorem Sp.refl (F : Fm) (μ : Own) (s : Shared) : Sp F μ μ s s := ⟨fun _ _ e _ _ _ => e, fun _ e => e, fun _ _ e => e, rfl, rfl⟩
theorem Sp.gr {F : Fm} {μ : Own} {s s' : Shared} (g : Gr s s') : Sp F μ μ s s' := ⟨fun b o e _ _ _ => g.keep b o e, g.keep.alive, fun _ _ e => e, g.gens, g.os⟩
theorem Sp.trans {F : Fm} {μ μ' μ'' : Own} {s s' s'' : Shared} (a : Sp F μ μ' s s') (b : Sp F μ' μ'' s' s'') : Sp F μ μ'' s s'' where
  keep := fun x o e h1 h2 h3 => b.keep x o (a.keep x o e h1 h2 h3) h1 h2 fun d => h3 (a.dom x (by rw [e]; rfl) d)
  alive := fun x e => b.alive x (a.alive x e)
  dom := fun x e d => a.dom x e (b.dom x (a.alive x e) d)
  gens := b.gens.trans a.gens
  os := b.os.trans a.os

def Xs (Γ : Cx) (k : Nat) (sc : Scope) (σ : Loc) (μ : Own) (sts : List Stmt) (P : Fl → Loc → Own → Prop) : Prop :=
  ∀ (A : Around) (n : Nat) (F : Fm) (h₀ : Heap) (s : Shared) (Q : Flow → Shared → Prop) (E : Value → Shared → Prop), n + k ≤ 8 → Lv n A → Sx Γ h₀ sc F σ μ s →
    (∀ fl σ' μ' f s', P fl σ' μ' → Sx Γ h₀ sc F σ' μ' s' → Sp F μ μ' s s' → FlV (Dm F μ') s'.heap fl f → Q f s') → wpR Γ.M A (execs sts (F.env sc)) Q E s
def X1 (Γ : Cx) (k : Nat) (sc : Scope) (σ : Loc) (μ : Own) (st : Stmt) (P : Fl → Loc → Own → Prop) : Prop :=
  ∀ (A : Around) (n : Nat) (F : Fm) (h₀ : Heap) (s : Shared) (Q : Flow → Shared → Prop) (E : Value → Shared → Prop), n + k ≤ 8 → Lv n A → Sx Γ h₀ sc F σ μ s →
    (∀ fl σ' μ' f s', P fl σ' μ' → Sx Γ h₀ sc F σ' μ' s' → Sp F μ μ' s s' → FlV (Dm F μ') s'.heap fl f → Q f s') → wpR Γ.M A (exec st (F.env sc)) Q E s

theorem Sx.grow {Γ h₀ sc F σ μ s s'} {cs : Scope} (x : Sx Γ h₀ sc F σ μ s cs) (g : Gr s s') : Sx Γ h₀ sc F σ μ s' cs :=
  { x.toSt.grow g with
    keep := x.keep.trans g.keep
    baseh := x.baseh
    newL := x.newL
    cells := fun y e => let ⟨c, v, a, b, d⟩ := x.cells y e; ⟨c, v, a, b, d.keeps g.keep⟩
    cellsAll := fun y c e => let ⟨v, d⟩ := x.cellsAll y c e; ⟨v, d.keeps g.keep⟩
    cellsApart := x.cellsApart
    ownNew := x.ownNew
    dold := x.dold
    apart := x.apart }

/-- what an update of an object that no tree reads leaves -/
theorem V.same {D : Addr → Prop} {h h' : Heap} {c : Addr} {o : Obj} (hs : Heap.SameBut c h h') (ho : h.get? c = some o) (hd : ¬ DataOk o.data) {x : PV} {v : Value} (e : V D h x v) : V D h' x v :=
  V.move (fun b o' hb hd' => (hs.2 b (fun q => by subst q; rw [ho] at hb; cases hb; exact hd hd'.ok.1)).trans hb) (fun _ _ _ d => d) e
theorem Vs.same {D : Addr → Prop} {h h' : Heap} {c : Addr} {o : Obj} (hs : Heap.SameBut c h h') (ho : h.get? c = some o) (hd : ¬ DataOk o.data) {x : List PV} {v : List Value} (e : Vs D h x v) : Vs D h' x v :=
  Vs.move (fun b o' hb hd' => (hs.2 b (fun q => by subst q; rw [ho] at hb; cases hb; exact hd hd'.ok.1)).trans hb) (fun _ _ _ d => d) e
theorem POat.same {D : Addr → Prop} {h h' : Heap} {c a : Addr} {o : Obj} {p : PO} (hs : Heap.SameBut c h h') (ho : h.get? c = some o) (hd : ¬ DataOk o.data) (hb : ∀ l n, o.data ≠ .bytearray l n) (e : POat D h a p) : POat D h' a p := by
  cases p with
  | list xs =>
    obtain ⟨items, n, ho', e⟩ := e
    refine ⟨items, n, (hs.2 a (fun q => ?_)).trans ho', e.same hs ho hd⟩
    subst q; rw [ho] at ho'; cases ho'; exact hd trivial
  | barr l =>
    refine (hs.2 a (fun q => ?_)).trans e
    subst q
    have e' : h.get? a = some { cls := .type "bytearray", data := .bytearray l.toArray } := e
    rw [ho] at e'; cases e'; exact hb _ _ rfl

section
variable {Γ : Cx} {k : Nat} {sc : Scope} {σ : Loc} {μ : Own} {pos : Pos} {P : Fl → Loc → Own → Prop} {A : Around} {F : Fm} {h₀ : Heap} {s : Shared} {E : Value → Shared → Prop}

theorem lookup_cons_ne {x y : Str} {v : PV} {σ : Loc} (h : y ≠ x) : ((x, v) :: σ : Loc).lookup y = σ.lookup y := by
  rw [List.lookup_cons]
  have : (y == x) = false := beq_eq_false_iff_ne.mpr h
  rw [this]
theorem lookup_cons_self {x : Str} {v : PV} {σ : Loc} : ((x, v) :: σ : Loc).lookup x = some v := by
  rw [List.lookup_cons]; simp

def isPlace : Option NameKind → Bool
  | some .local | some .cell => true
  | _ => false

theorem Sx.store {x : Str} {v : PV} {val : Value} {cs : Scope} {Q : Unit → Shared → Prop} (X : Sx Γ h₀ sc F σ μ s cs) (hv : V (Dm F μ) s.heap v val) (hl : isPlace (sc.names.lookup x) = true) (hk : sc.kind = .function)
    (hQ : ∀ s', Sx Γ h₀ sc F ((x, v) :: σ) μ s' cs → Sp F μ μ s s' → V (Dm F μ) s'.heap v val → Q () s') (hsame : sc.names.lookup x = cs.names.lookup x := by rfl) : wpAny Γ.M A (storeName (F.env sc) x val) Q E s := by
  obtain ⟨m, hn, hvs⟩ := X.ns
  obtain ⟨oL, es, ep, hoL, hdL, hkL, hfL⟩ := id hn
  have hnotL : ¬ DataOk oL.data := by rw [hdL]; exact id
  have hbL : ∀ l n, oL.data ≠ .bytearray l n := by rw [hdL]; intro _ _ q; cases q
  cases hx : sc.names.lookup x with
  | none => rw [hx] at hl; cases hl
  | some kd =>
    rw [hx] at hl
    have hkd : (F.env sc).kindOf x = some kd := hx
    cases kd with
    | «local» =>
      refine wpAny_storeName_local (env := F.env sc) hkd hn (fun h' hn' hs => ?_) (by show (sc.kind == .class || (sc.kind == .module && _)) = false; rw [hk]; rfl)
      have hne : ∀ b o, h₀.get? b = some o → b ≠ F.L := fun b o e q => by rw [q, X.newL] at e; cases e
      have hcell : ∀ c w, s.heap.IsCell c w → c ≠ F.L := fun c w ⟨o, ho, hd⟩ q => by subst q; rw [hoL] at ho; cases ho; rw [hdL] at hd; cases hd
      have hv' := hv.same hs hoL hnotL
      have halive : ∀ b, (s.heap.get? b).isSome → (h'.get? b).isSome := fun b e => by
        by_cases q : b = F.L
        · subst q; obtain ⟨o', _, _, ho', _⟩ := hn'; rw [ho']; rfl
        · rw [hs.2 b q]; exact e
      refine hQ _ ⟨⟨X.ok, fun b o e => (hs.2 b (hne b o (X.baseh b o e))).trans (X.base b o e), ⟨_, hn', fun y w a b => ?_⟩, fun y w a b => ?_, fun a o hm => (X.own a o hm).same hs hoL hnotL hbL, fun b hb => halive b (X.dal b hb)⟩,
        fun b o e => (hs.2 b (hne b o e)).trans (X.keep b o e), X.baseh, X.newL, fun y e => ?_, fun y c' e => ?_, X.cellsApart, X.ownNew, X.dold, X.apart⟩
        ⟨fun b o e h1 _ _ => (hs.2 b h1).trans e, fun b e => ?_, fun _ _ e => e, rfl, rfl⟩ hv'
      · by_cases q : y = x
        · subst q; rw [lookup_cons_self] at a; cases a; exact ⟨val, if_pos rfl, hv'⟩
        · rw [lookup_cons_ne q] at a
          obtain ⟨w', e1, e2⟩ := hvs y w a b
          exact ⟨w', by show (if y = x then some val else m y) = some w'; rw [if_neg q]; exact e1, e2.same hs hoL hnotL⟩
      · have q : y ≠ x := by rintro rfl; rw [hx] at b; rcases b with b | b <;> cases b
        rw [lookup_cons_ne q] at a
        obtain ⟨c, w', e1, e2, e3⟩ := X.cel y w a b
        exact ⟨c, w', e1, e2.sameBut hs (hcell _ _ e2), e3.same hs hoL hnotL⟩
      · obtain ⟨c, w, a1, a2, a3⟩ := X.cells y e
        exact ⟨c, w, a1, a2, a3.sameBut hs (hcell _ _ a3)⟩
      · obtain ⟨w, a3⟩ := X.cellsAll y c' e
        exact ⟨w, a3.sameBut hs (hcell _ _ a3)⟩
      · exact halive b e
    | cell =>
      obtain ⟨c, w, c1, c2, c3⟩ := X.cells x (hsame ▸ hx)
      obtain ⟨oc, hoc, hdc⟩ := id c3
      have hnotc : ¬ DataOk oc.data := by rw [hdc]; exact id
      have hbc : ∀ l n, oc.data ≠ .bytearray l n := by rw [hdc]; intro _ _ q; cases q
      refine wpAny_storeName_cell (env := F.env sc) hk hkd c1 c3 fun h' hc' hs => ?_
      have hLc : F.L ≠ c := fun q => by rw [q, hoc] at hoL; cases hoL; rw [hdL] at hdc; cases hdc
      have hne : ∀ b o, h₀.get? b = some o → b ≠ c := fun b o e q => by rw [q, c2] at e; cases e
      have hv' := hv.same hs hoc hnotc
      have halive : ∀ b, (s.heap.get? b).isSome → (h'.get? b).isSome := fun b e => by
        by_cases q : b = c
        · subst q; obtain ⟨o', ho', _⟩ := hc'; rw [ho']; rfl
        · rw [hs.2 b q]; exact e
      refine hQ _ ⟨⟨X.ok, fun b o e => (hs.2 b (hne b o (X.baseh b o e))).trans (X.base b o e), ⟨m, hn.sameBut hs hLc, fun y w a b => ?_⟩, fun y w a b => ?_, fun a o hm => (X.own a o hm).same hs hoc hnotc hbc, fun b hb => halive b (X.dal b hb)⟩,
        fun b o e => (hs.2 b (hne b o e)).trans (X.keep b o e), X.baseh, X.newL, fun y e => ?_, fun y c' e => ?_, X.cellsApart, X.ownNew, X.dold, X.apart⟩
        ⟨fun b o e _ h2 _ => (hs.2 b (fun q => h2 x (by rw [q]; exact c1))).trans e, fun b e => ?_, fun _ _ e => e, rfl, rfl⟩ hv'
      · have q : y ≠ x := by rintro rfl; rw [hx] at b; cases b
        rw [lookup_cons_ne q] at a
        obtain ⟨w', e1, e2⟩ := hvs y w a b
        exact ⟨w', e1, e2.same hs hoc hnotc⟩
      · by_cases q : y = x
        · subst q; rw [lookup_cons_self] at a; cases a; exact ⟨c, val, c1, hc', hv'⟩
        · rw [lookup_cons_ne q] at a
          obtain ⟨c', w', e1, e2, e3⟩ := X.cel y w a b
          have : c' ≠ c := fun z => q (X.cellsApart x y c (hsame ▸ hx) c1 (z ▸ e1))
          exact ⟨c', w', e1, e2.sameBut hs this, e3.same hs hoc hnotc⟩
      · by_cases q : y = x
        · subst q; exact ⟨c, _, c1, c2, hc'⟩
        · obtain ⟨c', w, a1, a2, a3⟩ := X.cells y e
          have : c' ≠ c := fun z => q (X.cellsApart x y c (hsame ▸ hx) c1 (z ▸ a1))
          exact ⟨c', w, a1, a2, a3.sameBut hs this⟩
      · by_cases q : c' = c
        · subst q; exact ⟨_, hc'⟩
        · obtain ⟨w, a3⟩ := X.cellsAll y c' e
          exact ⟨w, a3.sameBut hs q⟩
      · exact halive b e
    | _ => cases hl

theorem Xs.nil (h : P .next σ μ) : Xs Γ k sc σ μ [] P :=
  fun A n F h₀ s Q E _ _ X hQ => wpR_execs_nil (hQ .next σ μ _ s h X (Sp.refl F μ s) rfl)

theorem Xs.cons {st : Stmt} {rest : List Stmt} (h : X1 Γ k sc σ μ st (fun fl σ' μ' => match fl with | .next => Xs Γ k sc σ' μ' rest P | fl => P fl σ' μ')) : Xs Γ k sc σ μ (st :: rest) P := by
  intro A n F h₀ s Q E hn hA X hQ
  refine wpR_execs_cons (h A n F h₀ s _ _ hn hA X fun fl σ' μ' f s' hP X' sp hf => ?_)
  cases fl with
  | next =>
    have : f = .next := hf
    subst this
    exact hP A n F h₀ s' _ _ hn hA X' fun fl2 σ2 μ2 f2 s2 hP2 X2 sp2 hf2 => hQ fl2 σ2 μ2 f2 s2 hP2 X2 (sp.trans sp2) hf2
  | brk => have : f = .brk := hf; subst this; exact hQ _ _ _ _ _ hP X' sp rfl
  | cont => have : f = .cont := hf; subst this; exact hQ _ _ _ _ _ hP X' sp rfl
  | ret v =>
    obtain ⟨val, rfl, hv⟩ := hf
    exact hQ _ _ _ _ _ hP X' sp ⟨val, rfl, hv⟩

theorem St.less {σ' : Loc} (X : St Γ sc F σ μ s) (h : ∀ x v, σ'.lookup x = some v → σ.lookup x = some v) : St Γ sc F σ' μ s :=
  { X with
    ns := let ⟨m, hn, hv⟩ := X.ns; ⟨m, hn, fun x v a b => hv x v (h x v a) b⟩
    cel := fun x v a b => X.cel x v (h x v a) b }
/-- a state that says less (fewer names) -/
theorem Sx.less {σ' : Loc} {cs : Scope} (X : Sx Γ h₀ sc F σ μ s cs) (h : ∀ x v, σ'.lookup x = some v → σ.lookup x = some v) : Sx Γ h₀ sc F σ' μ s cs :=
  { X with
    ns := let ⟨m, hn, hv⟩ := X.ns; ⟨m, hn, fun x v a b => hv x v (h x v a) b⟩
    cel := fun x v a b => X.cel x v (h x v a) b }
theorem Xs.less {σ' : Loc} {sts : List Stmt} (h : ∀ x v, σ'.lookup x = some v → σ.lookup x = some v) (hx : Xs Γ k sc σ' μ sts P) : Xs Γ k sc σ μ sts P :=
  fun A n F h₀ s Q E hn hA X hQ => hx A n F h₀ s Q E hn hA (X.less h) hQ
theorem X1.mono {P' : Fl → Loc → Own → Prop} {st : Stmt} (hx : X1 Γ k sc σ μ st P') (h : ∀ fl σ' μ', P' fl σ' μ' → P fl σ' μ') : X1 Γ k sc σ μ st P :=
  fun A n F h₀ s Q E hn hA X hQ => hx A n F h₀ s Q E hn hA X fun fl σ' μ' f s' hP => hQ fl σ' μ' f s' (h _ _ _ hP)

theorem X1.assign {x : Str} {p' : Pos} {e : Expr} {v : PV} (he : Ev Γ k sc σ μ e v) (h : P .next ((x, v) :: σ) μ) (hl : isPlace (sc.names.lookup x) = true := by decide +kernel) (hk : sc.kind = .function := by kernel_rfl)
    (hs : ∀ F : Fm, swapsWith e (some (.Name x p')) pos.line (F.env sc) = pure false := by intro _; kernel_rfl) : X1 Γ k sc σ μ (.Assign [.Name x p'] e pos) P := by
  intro A n F h₀ s Q E hn hA X hQ
  refine wpR_Assign_Name (he A n F s _ _ hn hA X.toSt fun val s₁ g hv => ?_) (hs F)
  exact toR ((X.grow g).store hv hl hk fun s₂ X₂ sp₂ _ => hQ .next _ μ _ s₂ h X₂ ((Sp.gr g).trans sp₂) rfl)

theorem X1.aug {x : Str} {p' : Pos} {op : Operator} {e : Expr} {a b c : PV} (ha : σ.lookup x = some a) (he : Ev Γ k sc σ μ e b) (ho : Op2 Γ (inplaceOp op) a b c) (h : P .next ((x, c) :: σ) μ)
    (hl : isPlace (sc.names.lookup x) = true := by decide +kernel) (hk : sc.kind = .function := by kernel_rfl) (hd : (x == ("__debug__" : Str)) = false := by decide +kernel) (hc : (x == ("__classdict__" : Str)) = false := by decide +kernel) :
    X1 Γ k sc σ μ (.AugAssign (.Name x p') op e pos) P := by
  intro A n F h₀ s Q E hn hA X hQ
  refine wpR_AugAssign_Name ?_
  have hld : ∀ (Q' : Value → Shared → Prop), (∀ val, V (Dm F μ) s.heap a val → Q' val s) → wpR Γ.M A (loadName (F.env sc) x) Q' E s := by
    intro Q' hq
    cases hx : sc.names.lookup x with
    | none => rw [hx] at hl; cases hl
    | some kd =>
      rw [hx] at hl
      have hkd : (F.env sc).kindOf x = some kd := hx
      cases kd with
      | «local» =>
        obtain ⟨m, hm, hv⟩ := X.ns
        obtain ⟨val, e, ev⟩ := hv x a ha hx
        exact toR (wpAny_loadName_local (env := F.env sc) hk hkd hm e (hq _ ev))
      | cell =>
        obtain ⟨c, val, e1, e2, e3⟩ := X.cel x a ha (.inl hx)
        exact toR (wpAny_loadName_cell (env := F.env sc) hk hkd e1 e2 (hq _ e3))
      | _ => cases hl
  refine hld _ fun va hva => he A n F s _ _ hn hA X.toSt fun vb s₁ g hvb => ?_
  refine toR (ho A n _ s₁ va vb _ _ (by omega) hA X.ok (X.grow g).base (hva.grow g.keep) hvb (X.grow g).toSt.dom fun vc s₂ g₂ hvc => ?_)
  exact toR (((X.grow g).grow g₂).store hvc hl hk fun s₃ X₃ sp₃ _ => hQ .next _ μ _ s₃ h X₃ ((Sp.gr (g.trans g₂)).trans sp₃) rfl)

theorem X1.ite {t : Expr} {body orelse : List Stmt} {c : Bool} (ht : Tr Γ k sc σ μ t c) (h1 : c = true → Xs Γ k sc σ μ body P) (h2 : c = false → Xs Γ k sc σ μ orelse P) : X1 Γ k sc σ μ (.If t body orelse pos) P := by
  intro A n F h₀ s Q E hn hA X hQ
  refine wpR_If (ht A n F s _ _ hn hA X.toSt fun s₁ g => ?_)
  cases c with
  | true => exact h1 rfl A n F h₀ s₁ _ _ hn hA (X.grow g) fun fl σ' μ' f s' hP X' sp hf => hQ fl σ' μ' f s' hP X' ((Sp.gr g).trans sp) hf
  | false => exact h2 rfl A n F h₀ s₁ _ _ hn hA (X.grow g) fun fl σ' μ' f s' hP X' sp hf => hQ fl σ' μ' f s' hP X' ((Sp.gr g).trans sp) hf

theorem X1.ret {e : Expr} {v : PV} (he : Ev Γ k sc σ μ e v) (h : P (.ret v) σ μ) : X1 Γ k sc σ μ (.Return (some e) pos) P := by
  intro A n F h₀ s Q E hn hA X hQ
  exact wpR_Return_some (he A n F s _ _ hn hA X.toSt fun val s₁ g hv => hQ (.ret v) σ μ _ s₁ h (X.grow g) (Sp.gr g) ⟨val, rfl, hv⟩)
/-! ### while -/
def Wh (Γ : Cx) (k : Nat) (sc : Scope) (σ : Loc) (μ : Own) (test : Expr) (body orelse : List Stmt) (P : Fl → Loc → Own → Prop) : Prop :=
  ∀ (A : Around) (n : Nat) (F : Fm) (h₀ : Heap) (s : Shared) (R : Result → Shared → Prop), n + k ≤ 8 → Lv n A → Sx Γ h₀ sc F σ μ s →
    (∀ fl σ' μ' f s', P fl σ' μ' → Sx Γ h₀ sc F σ' μ' s' → Sp F μ μ' s s' → FlV (Dm F μ') s'.heap fl f → R (.ok f) s') → codeR Γ.M A (.whileLoop test body orelse (F.env sc)) R s
theorem X1.while {t : Expr} {body orelse : List Stmt} (h : Wh Γ k sc σ μ t body orelse P) : X1 Γ k sc σ μ (.While t body orelse pos) P := by
  intro A n F h₀ s Q E hn hA X hQ
  exact wpR_While (h A n F h₀ s _ hn hA X fun fl σ' μ' f s' hP X' sp hf => hQ fl σ' μ' f s' hP X' sp hf)
theorem Wh.step {t : Expr} {body orelse : List Stmt} {c : Bool} (ht : Tr Γ k sc σ μ t c)
    (h1 : c = true → Xs Γ k sc σ μ body (fun fl σ' μ' => match fl with | .next | .cont => Wh Γ k sc σ' μ' t body orelse P | .brk => P .next σ' μ' | .ret v => P (.ret v) σ' μ'))
    (h2 : c = false → Xs Γ k sc σ μ orelse P) : Wh Γ k sc σ μ t body orelse P := by
  intro A n F h₀ s R hn hA X hR
  refine codeR_while1 (ht A n F s _ _ hn hA X.toSt fun s₁ g => ?_)
  cases c with
  | true =>
    refine h1 rfl A n F h₀ s₁ _ _ hn hA (X.grow g) fun fl σ' μ' f s' hP X' sp hf => ?_
    have sp' := (Sp.gr g).trans sp
    cases fl with
    | next => have : f = .next := hf; subst this; exact hP A n F h₀ s' R hn hA X' fun fl2 σ2 μ2 f2 s2 hP2 X2 sp2 hf2 => hR fl2 σ2 μ2 f2 s2 hP2 X2 (sp'.trans sp2) hf2
    | cont => have : f = .cont := hf; subst this; exact hP A n F h₀ s' R hn hA X' fun fl2 σ2 μ2 f2 s2 hP2 X2 sp2 hf2 => hR fl2 σ2 μ2 f2 s2 hP2 X2 (sp'.trans sp2) hf2
    | brk => have : f = .brk := hf; subst this; exact hR .next σ' μ' _ s' hP X' sp' rfl
    | ret v => obtain ⟨val, rfl, hv⟩ := hf; exact hR (.ret v) σ' μ' _ s' hP X' sp' ⟨val, rfl, hv⟩
  | false => exact h2 rfl A n F h₀ s₁ _ _ hn hA (X.grow g) fun fl σ' μ' f s' hP X' sp hf => hR fl σ' μ' f s' hP X' ((Sp.gr g).trans sp) hf
theorem Wh.less {σ' : Loc} {t : Expr} {body orelse : List Stmt} (h : ∀ x v, σ'.lookup x = some v → σ.lookup x = some v) (hx : Wh Γ k sc σ' μ t body orelse P) : Wh Γ k sc σ μ t body orelse P :=
  fun A n F h₀ s R hn hA X hR => hx A n F h₀ s R hn hA (X.less h) hR
end
end Mine

namespace Mine

/-! ## calls -/

def KeepOk (Γ : Cx) (f : Value) : Prop := ∀ h, Kp Γ.B h → ∃ k, (k = Keeper.frame ∨ k = Keeper.machine ∨ k = Keeper.boundFrame) ∧ Looks Γ.M h (keeperOf f) k

theorem KeepOk.builtin {Γ : Cx} {id : String} : KeepOk Γ (.builtin id) := fun h _ => ⟨.machine, .inr (.inl rfl), Looks.of_pure rfl⟩
theorem KeepOk.type {Γ : Cx} {id : String} : KeepOk Γ (.type id) := fun h _ => ⟨.machine, .inr (.inl rfl), Looks.of_pure rfl⟩
theorem KeepOk.fn {Γ : Cx} {a : Addr} {o : Obj} {fd : FuncData} (ho : Γ.B.get? a = some o) (hd : o.data = .func fd) : KeepOk Γ (.ref a) := fun h hk =>
  ⟨.frame, .inl rfl, by
    obtain ⟨c, d, dt, sl⟩ := o
    simp only at hd
    subst hd
    exact (Looks.ld (part := none) (hk a _ ho)).andThen Looks.now⟩

theorem starEach_plain_any {env : Env} {pos : Pos} : ∀ (es : List Expr), es.any isStarred = false → (backTo pos (starEach es env)).any (·.1) = false
  | [], _ => rfl
  | e :: es, h => by
    rw [List.any_cons, Bool.or_eq_false_iff] at h
    have ih := starEach_plain_any (env := env) (pos := pos) es h.2
    have he := h.1
    cases e with
    | Starred v p => cases he
    | _ => exact ih

section
variable {Γ : Cx} {k : Nat} {sc : Scope} {σ : Loc} {μ : Own} {pos : Pos}

theorem Ev.call {x : Str} {p : Pos} {args : List Expr} {f : Value} {vs : List PV} {r : PV} (hf : Ev Γ k sc σ μ (.Name x p) (.obj f)) (hkp : KeepOk Γ f) (ha : Es Γ k sc σ μ pos args vs) (hc : CallOk Γ k f vs r)
    (hp : args.any isStarred = false := by kernel_rfl) : Ev Γ k sc σ μ (.Call (.Name x p) args [] pos) r := by
  intro A n F s Q E hn hA st hQ
  refine wpR_CallName (hf A n F s _ _ hn hA st fun fv s₁ g₁ hfv => ?_)
  rw [V_obj] at hfv; subst hfv
  refine wpR_callWith (P := fun h => Kp Γ.B h) (starEach_plain_any args hp) hkp ?_
  refine wpR_evalArgs hp (ha A n F s₁ _ _ hn hA (st.grow g₁) fun vals s₂ g₂ hvs => ?_)
  have st₂ := (st.grow g₁).grow g₂
  refine ⟨st₂.base, ?_⟩
  show wpR _ _ (PySem.call fv ([] ++ vals) []) Q E s₂
  exact hc A n (Dm F μ) s₂ vals Q E hn hA st.ok st₂.base hvs st₂.dom fun val s₃ g₃ hv => hQ val s₃ ((g₁.trans g₂).trans g₃) hv

theorem Lv.deeper {n : Nat} {A : Around} {env : Env} (h : Lv n A) : Lv (n + 1) (A.deeper env) :=
  ⟨h.handled, by have := h.depth; show A.depth + 1 ≤ _; omega, by have := h.units; show A.units + 3 ≤ _; omega, h.guards⟩

theorem lookup_zip_V {D : Addr → Prop} {h : Heap} : ∀ (names : List Str) (args : List PV) (vals : List Value) (x : Str) (v : PV), names.Nodup → Vs D h args vals → (names.zip args).lookup x = some v →
    ∃ val, (names.zip vals).reverse.lookup x = some val ∧ V D h v val := by
  intro names args vals x v hnd hvs hl
  have key : ∀ (names : List Str) (args : List PV) (vals : List Value), Vs D h args vals → (names.zip args).lookup x = some v → ∃ val, (names.zip vals).lookup x = some val ∧ V D h v val := by
    intro names
    induction names with
    | nil => intro args vals _ hl; simp at hl
    | cons y ys ih =>
      intro args vals hvs hl
      cases args with
      | nil => simp at hl
      | cons a as =>
        rw [Vs_cons] at hvs
        obtain ⟨w, r, rfl, h1, h2⟩ := hvs
        rw [List.zip_cons_cons, List.lookup_cons] at hl ⊢
        cases hxy : (x == y) with
        | true => rw [hxy] at hl; simp at hl; subst hl; exact ⟨w, rfl, h1⟩
        | false => rw [hxy] at hl; exact ih as r h2 hl
  obtain ⟨val, h1, h2⟩ := key names args vals hvs hl
  refine ⟨val, ?_, h2⟩
  have rev : ∀ (l : List (Str × Value)), (l.map (·.1)).Nodup → l.reverse.lookup x = l.lookup x := by
    intro l
    induction l with
    | nil => intro _; rfl
    | cons p l ih =>
      intro hn
      obtain ⟨a, b⟩ := p
      simp only [List.map_cons, List.nodup_cons] at hn
      rw [List.reverse_cons, List.lookup_append, ih hn.2, List.lookup_cons]
      cases hxa : (x == a) with
      | true =>
        have hx := beq_iff_eq.mp hxa
        subst hx
        have : l.lookup x = none := by
          rw [List.lookup_eq_none_iff]
          intro p hp
          have : p.1 ≠ x := fun q => hn.1 (List.mem_map.mpr ⟨p, hp, q⟩)
          exact beq_eq_false_iff_ne.mpr this.symm |> fun h => by simpa using h
        rw [this, List.lookup_cons]; simp
      | false =>
        rw [List.lookup_cons, hxa]; simp
  rw [rev _ ?_]
  · exact h1
  · have : ∀ (ns : List Str) (vs : List Value), ((ns.zip vs).map (·.1)).Sublist ns := by
      intro ns
      induction ns with
      | nil => intro vs; simp
      | cons n ns ih =>
        intro vs
        cases vs with
        | nil => simp
        | cons v vs => simpa using ih vs
    exact hnd.sublist (this _ _)

/-- a call of a plain def of the text -/
theorem CallOk.fn {a : Addr} {o : Obj} {name : Str} {params : Arguments} {body : List Stmt} {scope : Scope} {pm cd doc : Value} {args : List PV} {r : PV}
    (ho : Γ.B.get? a = some o) (hd : o.data = .func (docDef name params body scope pm cd doc)) (hcd : Γ.B.CodeRec cd name)
    (hbind : ∀ vals : List Value, vals.length = args.length → bindArgs (docDef name params body scope pm cd doc) ⟨vals, []⟩ = pure ((params.args.map (·.arg)).zip vals))
    (hbody : Xs Γ k scope ((params.args.map (·.arg)).zip args) [] body (fun fl _ μ' => fl = .ret r))
    (hnd : (params.args.map (·.arg)).Nodup := by decide +kernel)
    (hloc : (params.args.map (·.arg)).all (fun x => decide (scope.names.lookup x = some .local)) = true := by decide +kernel)
    (hco : scope.isCoroutine = false := by kernel_rfl) (hgen : scope.isGenerator = false := by kernel_rfl) (hk : scope.kind = .function := by kernel_rfl)
    (hcell : (scope.names.all fun x => decide (x.2 ≠ .cell)) = true := by decide +kernel) : CallOk Γ (k + 1) (.ref a) args r := by
  intro A n D s vals Q E hn hA ok hB hvs hD hQ
  have hcell' : ∀ x ∈ scope.names, x.2 ≠ .cell := fun x hx => of_decide_eq_true (List.all_eq_true.mp hcell x hx)
  have hlen := hvs.length
  refine wpR_call (codeR_call_plain (binds := (params.args.map (·.arg)).zip vals) (by have := hA.depth; show _ < 1000; omega) (hB a o ho) hd (ok.nolimit.keeps hB) (hcd.keeps hB) (hbind vals hlen) ?_ (fun h₁ F₁ => ?_) hco hgen hk hcell')
  · intro x hx
    have := List.of_mem_zip hx
    exact of_decide_eq_true (List.all_eq_true.mp hloc x.1 this.1)
  · let F : Fm := ⟨s.heap.objs.size, [], name ++ ".<locals>.", some a, cd, some s.heap.objs.size, D⟩
    have hkeep : Kp s.heap h₁ := F₁.keep
    have hL : s.heap.get? s.heap.objs.size = none := by
      cases q : s.heap.get? s.heap.objs.size with
      | none => rfl
      | some o' => exact absurd (Heap.lt_size q) (Nat.lt_irrefl _)
    have X : Sx Γ s.heap scope F ((params.args.map (·.arg)).zip args) [] { s with heap := h₁, toks := s.toks + ((params.args.map (·.arg)).zip vals).length } := by
      have hvs' : Vs (Dm F []) h₁ args vals := (hvs.grow hkeep).less fun b o _ hb => by
        rcases hb with hb | hb
        · exact hb
        · simp at hb
      refine ⟨⟨ok, hB.trans hkeep, ⟨_, F₁.ns, fun x v h1 h2 => lookup_zip_V _ _ _ x v hnd hvs' h1⟩, fun x v h1 h2 => ?_, fun _ _ hm => (nomatch hm), fun b hb => hkeep.alive b (hD b hb)⟩,
        hkeep, hB, hL, fun x hx => ?_, fun x c h1 => (nomatch h1), fun x y c _ h1 => (nomatch h1), fun b hb => (nomatch hb), hD, List.nodup_nil⟩
      · exfalso
        have hx : x ∈ (params.args.map (·.arg)) := by
          obtain ⟨⟨a', b'⟩, hm, he⟩ : ∃ p ∈ (params.args.map (·.arg)).zip args, p.1 = x := by
            have := List.lookup_isSome_iff.mp (show (((params.args.map (·.arg)).zip args).lookup x).isSome from by rw [h1]; rfl)
            obtain ⟨p, hp, hpx⟩ := this
            exact ⟨p, hp, (beq_iff_eq.mp hpx).symm⟩
          have := List.of_mem_zip hm
          simp only at he; subst he; exact this.1
        have := of_decide_eq_true (List.all_eq_true.mp hloc x hx)
        rw [this] at h2
        rcases h2 with h2 | h2 <;> cases h2
      · exfalso
        have hm : (x, NameKind.cell) ∈ scope.names := by
          have := List.lookup_eq_some_iff.mp hx
          obtain ⟨l₁, l₂, he, _⟩ := this
          rw [he]; simp
        exact hcell' _ hm rfl
    refine hbody (A.deeper (F.env scope)) (n + 1) F s.heap _ _ _ (by omega) hA.deeper X fun fl σ' μ' f s' hP X' sp hf => ?_
    subst hP
    obtain ⟨val, rfl, hv⟩ := hf
    refine hQ val s' ⟨X'.keep, sp.gens, sp.os⟩ (hv.less fun b o _ hb => .inl hb)
end
end Mine

namespace Mine

/-! ## iteration -/

def isTupE : Expr → Bool
  | .Tuple _ _ _ => true
  | _ => false
/-- an iterator; nd: its target must be a tuple -/
structure Iter (Γ : Cx) (A : Around) (it : Addr) (wr : List Addr) (J : (Addr → Prop) → List PV → Heap → Prop) (nd : Bool := false) : Prop where
  move : ∀ D D' xs h h', (∀ b o, h.get? b = some o → DataOk o.data → (¬ D b ∨ o.cls = .type "tuple" ∨ o.cls = .type "range") → h'.get? b = some o) → (∀ b o, h.get? b = some o → D' b → D b) → J D xs h → J D' xs h'
  wrs : ∀ D xs h, J D xs h → ∀ b ∈ wr, ¬ D b ∧ ∃ o vs, h.get? b = some o ∧ o.data = .fields vs ∧ o.cls ≠ .type "range"
  item : ∀ (D : Addr → Prop) x xs (s : Shared) target (Q : Value → Shared → Prop) (E : Value → Shared → Prop), J D (x :: xs) s.heap → (∀ b, D b → (s.heap.get? b).isSome) → (nd = true → isTupE target = true) →
    (∀ v h' tk, V D h' x v → J D xs h' → (∀ b o, b ∉ wr → s.heap.get? b = some o → h'.get? b = some o) → Q v { s with heap := h', toks := tk }) →
    wpAny Γ.M A (pyNext (.ref it)) (fun r s₁ => match r with | some v => wpAny Γ.M A (letOwnedTupleGo target (.ref it) v) (fun _ s₂ => Q v s₂) E s₁ | none => False) E s
  done : ∀ D (s : Shared) (Q : Shared → Prop) (E : Value → Shared → Prop), J D [] s.heap →
    (∀ h' tk, (∀ b o, b ∉ wr → s.heap.get? b = some o → h'.get? b = some o) → Q { s with heap := h', toks := tk }) → wpAny Γ.M A (pyNext (.ref it)) (fun r s₁ => r = none ∧ Q s₁) E s
  self : ∀ D xs (s : Shared) (Q : Value → Shared → Prop) (E : Value → Shared → Prop), J D xs s.heap → Q (.ref it) s → wpAny Γ.M A (pyIter (.ref it)) Q E s

def IterOk (Γ : Cx) (p : PV) (xs : List PV) : Prop :=
  ∀ (A : Around) (n : Nat) (D : Addr → Prop) (s : Shared) (v : Value) (Q : Value → Shared → Prop) (E : Value → Shared → Prop), n ≤ 8 → Lv n A → Kp Γ.B s.heap → V D s.heap p v → (∀ b, D b → (s.heap.get? b).isSome) →
    (∀ it wr J s', Iter Γ A it wr J → J D xs s'.heap → Gr s s' → (∀ b ∈ wr, s.heap.get? b = none) → Q (.ref it) s') → wpAny Γ.M A (pyIter v) Q E s

theorem letOwned_other {M : Model} {A : Around} {E : Value → Shared → Prop} {s : Shared} {target : Expr} {it : Addr} {v : Value} {o : Obj} {n : String} {vs : Array Value} {Q : Unit → Shared → Prop}
    (ho : s.heap.get? it = some o) (hc : o.cls = .type n) (hd : o.data = .fields vs)
    (hn : ["enumerate", "zip", "dict_itemiterator", "dict_reverseitemiterator", "odict_iterator", "itertools.zip_longest", "itertools.pairwise"].contains n = false) (h : Q () s) :
    wpAny M A (letOwnedTupleGo target (.ref it) v) Q E s := by
  have key : ∀ a, wpAny M A (do
      let o ← load it
      match o.cls, o.data with
      | .type n, .fields vs =>
        if ["enumerate", "zip", "dict_itemiterator", "dict_reverseitemiterator", "odict_iterator", "itertools.zip_longest", "itertools.pairwise"].contains n && vs[0]? == some (rawInt a) then
          rule "for.unpacks-the-owned-tuple"
          updateField it 0 .none
      | _, _ => pure ()) Q E s := by
    intro a
    refine wpAny_bind (wpAny_load ho ?_)
    rw [hc, hd]
    dsimp only
    rw [hn]
    exact wpAny_pure h
  unfold letOwnedTupleGo
  split
  · cases v with
    | ref a => exact key a
    | _ => exact wpAny_pure h
  · cases v with
    | ref a => exact key a
    | _ => exact wpAny_pure h
  · exact wpAny_pure h

def JList (it : Addr) (D : Addr → Prop) (xs : List PV) (h : Heap) : Prop :=
  ∃ l i items, ¬ D it ∧ ¬ D l ∧ l ≠ it ∧ h.IsListIter it l i ∧ h.IsList l items ∧ Vs D h xs (items.toList.drop i)
def rngItems (a c : Int) : Nat → List PV
  | 0 => []
  | n + 1 => .int a :: rngItems (a + c) c n
def JRng (it : Addr) (D : Addr → Prop) (xs : List PV) (h : Heap) : Prop :=
  ∃ a c n, ¬ D it ∧ IsRangeIter h it a ((n : Nat) : Int) c ∧ xs = rngItems a c n

theorem Vs.move' {D D' : Addr → Prop} {h h' : Heap}
    (hk : ∀ b o, h.get? b = some o → DataOk o.data → (¬ D b ∨ o.cls = .type "tuple" ∨ o.cls = .type "range") → h'.get? b = some o)
    (hD : ∀ b o, h.get? b = some o → D' b → D b) {xs : List PV} {vs : List Value} (e : Vs D h xs vs) : Vs D' h' xs vs :=
  Vs.move (fun b o hb hn => hk b o hb hn.ok.1 hn.ok.2) hD e

theorem dropStep {xs : List PV} {x : PV} {items : Array Value} {i : Nat} {D : Addr → Prop} {h : Heap} (e : Vs D h (x :: xs) (items.toList.drop i)) :
    ∃ v, items[i]? = some v ∧ V D h x v ∧ Vs D h xs (items.toList.drop (i + 1)) := by
  rw [Vs_cons] at e
  obtain ⟨v, r, h1, h2, h3⟩ := e
  refine ⟨v, ?_, h2, ?_⟩
  · have : (items.toList.drop i)[0]? = some v := by rw [h1]; rfl
    rw [List.getElem?_drop] at this
    simpa using this
  · have : items.toList.drop (i + 1) = r := by
      have : (items.toList.drop i).drop 1 = r := by rw [h1]; rfl
      rwa [List.drop_drop] at this
    rw [this]; exact h3
theorem dropEnd {items : Array Value} {i : Nat} {D : Addr → Prop} {h : Heap} (e : Vs D h [] (items.toList.drop i)) : items[i]? = none := by
  rw [Vs_nil] at e
  have : (items.toList.drop i)[0]? = none := by rw [e]; rfl
  rw [List.getElem?_drop] at this
  simpa using this

theorem Iter.list {Γ : Cx} {A : Around} (hh : A.handled = none) (it : Addr) : Iter Γ A it [it] (JList it) where
  move := by
    rintro D D' xs h h' hk hD ⟨l, i, items, h1, h2, h3, h4, h5, h6⟩
    have k1 : ∀ o, h.get? it = some o → h'.get? it = some o := fun o ho => by
      obtain ⟨o', ho', hc, hd⟩ := h4
      rw [ho] at ho'; cases ho'
      exact hk it o ho (by rw [hd]; trivial) (.inl h1)
    have k2 : ∀ o, h.get? l = some o → h'.get? l = some o := fun o ho => by
      obtain ⟨o', ho', hc, n, hd⟩ := h5
      rw [ho] at ho'; cases ho'
      exact hk l o ho (by rw [hd]; trivial) (.inl h2)
    have a1 : ¬ D' it := fun d => by obtain ⟨o', ho', _⟩ := h4; exact h1 (hD it o' ho' d)
    have a2 : ¬ D' l := fun d => by obtain ⟨o', ho', _⟩ := h5; exact h2 (hD l o' ho' d)
    obtain ⟨o, ho, r⟩ := h4
    obtain ⟨ol, hol, rl⟩ := h5
    exact ⟨l, i, items, a1, a2, h3, ⟨o, k1 o ho, r⟩, ⟨ol, k2 ol hol, rl⟩, h6.move' hk hD⟩
  wrs := by
    rintro D xs h ⟨l, i, items, h1, h2, h3, ⟨o, ho, hc, hd⟩, h5, h6⟩ b hb
    rw [List.mem_singleton] at hb; subst hb
    exact ⟨h1, o, _, ho, hd, by rw [hc]; decide⟩
  item := by
    rintro D x xs s target Q E ⟨l, i, items, h1, h2, h3, h4, h5, h6⟩ hal _ hQ
    obtain ⟨v, e1, e2, e3⟩ := dropStep h6
    refine wpAny_pyNext_list_item h4 h5 e1 fun h' hi' hs' => ?_
    obtain ⟨o, ho, hc, hd⟩ := id h4
    have hk : ∀ b o', s.heap.get? b = some o' → Node D b o' → h'.get? b = some o' := fun b o' hb hn => (hs'.2 b (fun q => by
      subst q; rw [ho] at hb; cases hb
      rcases hn with ⟨_, _, hn, _⟩ | ⟨hn, _⟩
      · rw [hd] at hn; cases hn
      · rw [hc] at hn; exact absurd hn (by decide))).trans hb
    obtain ⟨o2, ho2, hc2, hd2⟩ := id hi'
    refine letOwned_other ho2 hc2 hd2 (by decide) (hQ v h' _ (e2.move hk fun _ _ _ d => d) ⟨l, i + 1, items, h1, h2, h3, hi', ?_, e3.move hk fun _ _ _ d => d⟩ fun b o' hb e => (hs'.2 b (by simpa using hb)).trans e)
    obtain ⟨ol, hol, rl⟩ := h5
    exact ⟨ol, (hs'.2 l h3).trans hol, rl⟩
  done := by
    rintro D s Q E ⟨l, i, items, h1, h2, h3, h4, h5, h6⟩ hQ
    exact wpAny_pyNext_list_end hh h4 h5 (dropEnd h6) fun h' he => ⟨rfl, hQ h' _ fun b o hb e => he b o (by simpa using hb) e⟩
  self := by
    rintro D xs s Q E ⟨l, i, items, h1, h2, h3, h4, h5, h6⟩ hQ
    exact wpAny_pyIter_listiter h4 hQ

theorem Iter.rng {Γ : Cx} {A : Around} (hh : A.handled = none) (it : Addr) : Iter Γ A it [it] (JRng it) where
  move := by
    rintro D D' xs h h' hk hD ⟨a, c, n, h1, h2, h3⟩
    exact ⟨a, c, n, fun d => h1 (hD it _ h2 d), hk it _ h2 trivial (.inl h1), h3⟩
  wrs := by
    rintro D xs h ⟨a, c, n, h1, h2, h3⟩ b hb
    rw [List.mem_singleton] at hb; subst hb
    exact ⟨h1, _, _, h2, rfl, by show Value.type "range_iterator" ≠ Value.type "range"; decide⟩
  item := by
    rintro D x xs s target Q E ⟨a, c, n, h1, h2, h3⟩ hal _ hQ
    cases n with
    | zero => cases h3
    | succ n =>
      cases h3
      refine wpAny_pyNext_range_item h2 (by omega) fun h' hi' hs' => ?_
      refine letOwned_other (n := "range_iterator") hi' rfl rfl (by decide) (hQ _ h' _ (V.int _ _) ⟨a + c, c, n, h1, ?_, rfl⟩ fun b o' hb e => (hs'.2 b (by simpa using hb)).trans e)
      have e : ((n + 1 : Nat) : Int) - 1 = (n : Int) := by omega
      rw [e] at hi'
      exact hi'
  done := by
    rintro D s Q E ⟨a, c, n, h1, h2, h3⟩ hQ
    cases n with
    | zero => exact wpAny_pyNext_range_end hh h2 (by omega) fun h' he => ⟨rfl, hQ h' _ fun b o hb e => he b o (by simpa using hb) e⟩
    | succ n => cases h3
  self := by
    rintro D xs s Q E ⟨a, c, n, h1, h2, h3⟩ hQ
    exact wpAny_pyIter_rangeiter h2 hQ

theorem fresh_addr (h : Heap) : h.get? h.objs.size = none := by
  cases q : h.get? h.objs.size with
  | none => rfl
  | some o' => exact absurd (Heap.lt_size q) (Nat.lt_irrefl _)
theorem not_dom {D : Addr → Prop} {h : Heap} (hD : ∀ b, D b → (h.get? b).isSome) : ¬ D h.objs.size := fun d => by
  have := hD _ d; rw [fresh_addr] at this; cases this

theorem IterOk.lst {Γ : Cx} {xs : List PV} : IterOk Γ (.lst xs) xs := by
  intro A n D s v Q E _ hA hB hv hD hQ
  obtain ⟨l, items, rfl, h1, h2, h3⟩ := V_lst.mp hv
  refine wpAny_pyIter_list h2 (hQ _ _ (JList s.heap.objs.size) _ (Iter.list hA.handled _) ?_ (Gr.heap _ (Kp.push _ _)) fun b hb => by rw [List.mem_singleton] at hb; subst hb; exact fresh_addr _)
  have hlt : l ≠ s.heap.objs.size := by obtain ⟨o, ho, _⟩ := h2; exact Nat.ne_of_lt (Heap.lt_size ho)
  refine ⟨l, 0, items, not_dom hD, h1, hlt, ⟨_, Heap.get?_push_size _ rfl, rfl, rfl⟩, h2.push _, ?_⟩
  simpa using h3.grow (Kp.push _ _)
theorem IterOk.rng {Γ : Cx} {a b c : Int} (hs : Builtin.Range.small a b c = true) (n : Nat) (hn : Builtin.Range.rangeSize a b c = (n : Int)) : IterOk Γ (.rng a b c) (rngItems a c n) := by
  intro A m D s v Q E _ hA hB hv hD hQ
  obtain ⟨r, t, u, z, rfl, h1⟩ := V_rng.mp hv
  refine wpAny_pyIter_range h1 hs (hQ _ _ (JRng s.heap.objs.size) _ (Iter.rng hA.handled _) ?_ (Gr.heap _ (Kp.push _ _)) fun b hb => by rw [List.mem_singleton] at hb; subst hb; exact fresh_addr _)
  refine ⟨a, c, n, not_dom hD, ?_, rfl⟩
  rw [← hn]
  exact Heap.get?_push_size _ rfl

/-! ## for -/

/-- as Sp, but for what an iterator writes -/
structure SpW (F : Fm) (wr : List Addr) (μ μ' : Own) (s s' : Shared) : Prop where
  keep : ∀ b o, b ∉ wr → s.heap.get? b = some o → b ≠ F.L → (∀ x, F.cl.lookup x ≠ some b) → ¬ Dm F μ b → s'.heap.get? b = some o
  alive : ∀ b, b ∉ wr → (s.heap.get? b).isSome → (s'.heap.get? b).isSome
  dom : ∀ b, b ∉ wr → (s.heap.get? b).isSome → Dm F μ' b → Dm F μ b
  gens : s'.gens = s.gens
  os : s'.os = s.os
theorem SpW.trans {F : Fm} {wr : List Addr} {μ μ' μ'' : Own} {s s' s'' : Shared} (a : SpW F wr μ μ' s s') (b : SpW F wr μ' μ'' s' s'') : SpW F wr μ μ'' s s'' where
  keep := fun x o hw e h1 h2 h3 => b.keep x o hw (a.keep x o hw e h1 h2 h3) h1 h2 fun d => h3 (a.dom x hw (by rw [e]; rfl) d)
  alive := fun x hw e => b.alive x hw (a.alive x hw e)
  dom := fun x hw e d => a.dom x hw e (b.dom x hw (a.alive x hw e) d)
  gens := b.gens.trans a.gens
  os := b.os.trans a.os
theorem Sp.toW {F : Fm} {wr : List Addr} {μ μ' : Own} {s s' : Shared} (a : Sp F μ μ' s s') : SpW F wr μ μ' s s' :=
  ⟨fun b o _ e h1 h2 h3 => a.keep b o e h1 h2 h3, fun b _ e => a.alive b e, fun b _ e d => a.dom b e d, a.gens, a.os⟩
theorem SpW.wr {F : Fm} {wr : List Addr} {μ : Own} {s : Shared} {h' : Heap} {tk : Nat} (hk : ∀ b o, b ∉ wr → s.heap.get? b = some o → h'.get? b = some o) : SpW F wr μ μ s { s with heap := h', toks := tk } :=
  ⟨fun b o hw e _ _ _ => hk b o hw e, fun b hw e => by obtain ⟨o, ho⟩ := Option.isSome_iff_exists.mp e; show (h'.get? b).isSome; rw [hk b o hw ho]; rfl, fun _ _ _ d => d, rfl, rfl⟩

section
variable {Γ : Cx} {k : Nat} {sc : Scope} {σ : Loc} {μ : Own} {pos : Pos} {P : Fl → Loc → Own → Prop} {F : Fm} {h₀ : Heap} {s : Shared}

/-- what a statement keeps for trees and iterators -/
theorem Sx.hk {σ' : Loc} {μ' : Own} {s' : Shared} {cs : Scope} (X : Sx Γ h₀ sc F σ μ s cs) (X' : Sx Γ h₀ sc F σ' μ' s' cs) (sp : Sp F μ μ' s s') :
    ∀ b o, s.heap.get? b = some o → DataOk o.data → (¬ Dm F μ b ∨ o.cls = .type "tuple" ∨ o.cls = .type "range") → s'.heap.get? b = some o := by
  intro b o hb hd hc
  by_cases hFD : F.D b
  · obtain ⟨o', ho'⟩ := Option.isSome_iff_exists.mp (X.dold b hFD)
    have := X.keep b o' ho'
    rw [hb] at this; cases this
    exact X'.keep b o ho'
  · have hn : ¬ Dm F μ b := by
      rcases hc with hc | hc
      · exact hc
      · rintro (q | q)
        · exact hFD q
        · obtain ⟨p, hp, rfl⟩ := List.mem_map.mp q
          have := X.own p.1 p.2 hp
          cases hq : p.2 with
          | list xs =>
            rw [hq] at this; obtain ⟨items, n, ho', _⟩ := this
            rw [hb] at ho'; cases ho'
            dsimp only at hc; rcases hc with hc | hc <;> exact absurd hc (by decide)
          | barr l =>
            rw [hq] at this
            have ho' : s.heap.get? p.1 = some { cls := .type "bytearray", data := .bytearray l.toArray } := this
            rw [hb] at ho'; cases ho'
            dsimp only at hc; rcases hc with hc | hc <;> exact absurd hc (by decide)
    refine sp.keep b o hb (fun q => ?_) (fun x q => ?_) hn
    · obtain ⟨m, ⟨oL, es, ep, hoL, hdL, _⟩, _⟩ := X.ns
      rw [q, hoL] at hb; cases hb; rw [hdL] at hd; exact hd
    · obtain ⟨v, oc, hoc, hdc⟩ := X.cellsAll x b q
      rw [hoc] at hb; cases hb; rw [hdc] at hd; exact hd
theorem Sx.step {σ' : Loc} {μ' : Own} {s' : Shared} {cs : Scope} (X : Sx Γ h₀ sc F σ μ s cs) (X' : Sx Γ h₀ sc F σ' μ' s' cs) (sp : Sp F μ μ' s s') {x : PV} {v : Value} (hv : V (Dm F μ) s.heap x v) : V (Dm F μ') s'.heap x v :=
  hv.move (fun b o hb hn => X.hk X' sp b o hb hn.ok.1 hn.ok.2) fun b o hb d => sp.dom b (by rw [hb]; rfl) d

/-- what an iterator's step leaves -/
theorem Sx.wr {wr : List Addr} {h' : Heap} {tk : Nat} {cs : Scope} (X : Sx Γ h₀ sc F σ μ s cs) (hk : ∀ b o, b ∉ wr → s.heap.get? b = some o → h'.get? b = some o)
    (hw : ∀ b ∈ wr, ¬ Dm F μ b ∧ ∃ o vs, s.heap.get? b = some o ∧ o.data = .fields vs ∧ o.cls ≠ .type "range") (hn : ∀ b ∈ wr, h₀.get? b = none) : Sx Γ h₀ sc F σ μ { s with heap := h', toks := tk } cs := by
  have hnode : ∀ b o, s.heap.get? b = some o → Node (Dm F μ) b o → h'.get? b = some o := fun b o hb hn => hk b o (fun q => by
    obtain ⟨_, o', vs, ho', hd', hc'⟩ := hw b q
    rw [hb] at ho'; cases ho'
    rcases hn with ⟨_, _, hn, _⟩ | ⟨hn, _⟩
    · rw [hd'] at hn; cases hn
    · exact hc' hn) hb
  have hv : ∀ {x v}, V (Dm F μ) s.heap x v → V (Dm F μ) h' x v := fun e => e.move hnode fun _ _ _ d => d
  have hvs : ∀ {x v}, Vs (Dm F μ) s.heap x v → Vs (Dm F μ) h' x v := fun e => e.move hnode fun _ _ _ d => d
  have hold : ∀ b o, h₀.get? b = some o → h'.get? b = some o := fun b o e => hk b o (fun q => by rw [hn b q] at e; cases e) (X.keep b o e)
  have hcell : ∀ c v, s.heap.IsCell c v → h'.IsCell c v := fun c v ⟨o, ho, hd⟩ => ⟨o, hk c o (fun q => by
    obtain ⟨_, o', vs, ho', hd', _⟩ := hw c q
    rw [ho] at ho'; cases ho'; rw [hd] at hd'; cases hd') ho, hd⟩
  obtain ⟨m, hm, hmv⟩ := X.ns
  have hm' : h'.Ns F.L m := by
    obtain ⟨o, es, ep, ho, hd, r⟩ := hm
    exact ⟨o, es, ep, hk _ o (fun q => by
      obtain ⟨_, o', vs, ho', hd', _⟩ := hw _ q
      rw [ho] at ho'; cases ho'; rw [hd] at hd'; cases hd') ho, hd, r⟩
  refine ⟨⟨X.ok, fun b o e => hold b o (X.baseh b o e), ⟨m, hm', fun x v a b => let ⟨val, e1, e2⟩ := hmv x v a b; ⟨val, e1, hv e2⟩⟩, fun x v a b => let ⟨c, val, e1, e2, e3⟩ := X.cel x v a b; ⟨c, val, e1, hcell _ _ e2, hv e3⟩, fun a o hm => ?_, fun b hb => ?_⟩,
    hold, X.baseh, X.newL, fun x e => let ⟨c, v, a1, a2, a3⟩ := X.cells x e; ⟨c, v, a1, a2, hcell _ _ a3⟩, fun x c e => let ⟨v, a3⟩ := X.cellsAll x c e; ⟨v, hcell _ _ a3⟩, X.cellsApart, X.ownNew, X.dold, X.apart⟩
  · have hnw : a ∉ wr := fun q => (hw a q).1 (.inr (List.mem_map.mpr ⟨_, hm, rfl⟩))
    have := X.own a o hm
    cases o with
    | list xs => obtain ⟨items, n, ho, e⟩ := this; exact ⟨items, n, hk a _ hnw ho, hvs e⟩
    | barr l => exact hk a _ hnw this
  · obtain ⟨o, ho⟩ := Option.isSome_iff_exists.mp (X.dold b hb)
    show (h'.get? b).isSome
    rw [hold b o ho]; rfl

/-- a target takes a value -/
def As (Γ : Cx) (k : Nat) (sc : Scope) (σ : Loc) (μ : Own) (target : Expr) (v : PV) (σ' : Loc) (cs : Scope := sc) : Prop :=
  ∀ (A : Around) (n : Nat) (F : Fm) (h₀ : Heap) (s : Shared) (val : Value) (Q : Unit → Shared → Prop) (E : Value → Shared → Prop), n + k ≤ 8 → Lv n A → Sx Γ h₀ sc F σ μ s cs → V (Dm F μ) s.heap v val →
    (∀ s', Sx Γ h₀ sc F σ' μ s' cs → Sp F μ μ s s' → Q () s') → wpAny Γ.M A (assign target (F.env sc) val) Q E s
theorem As.name {x : Str} {v : PV} {cs : Scope} (hl : isPlace (sc.names.lookup x) = true := by decide +kernel) (hk : sc.kind = .function := by kernel_rfl) (hs : sc.names.lookup x = cs.names.lookup x := by first | exact rfl | kernel_rfl) : As Γ k sc σ μ (.Name x pos) v ((x, v) :: σ) cs :=
  fun A n F h₀ s val Q E hn hA X hv hQ => wpAny_assign_Name (X.store hv hl hk (fun s' X' sp _ => hQ s' X' sp) hs)

def Fo (Γ : Cx) (k : Nat) (sc : Scope) (σ : Loc) (μ : Own) (target : Expr) (body orelse : List Stmt) (xs : List PV) (P : Fl → Loc → Own → Prop) : Prop :=
  ∀ (A : Around) (n : Nat) (F : Fm) (h₀ : Heap) (s : Shared) (R : Result → Shared → Prop) (it : Addr) (wr : List Addr) (J : (Addr → Prop) → List PV → Heap → Prop), n + k ≤ 8 → Lv n A → Sx Γ h₀ sc F σ μ s →
    ∀ nd : Bool, Iter Γ A it wr J nd → (nd = true → isTupE target = true) → J (Dm F μ) xs s.heap → (∀ b ∈ wr, h₀.get? b = none) →
    (∀ fl σ' μ' f s', P fl σ' μ' → Sx Γ h₀ sc F σ' μ' s' → SpW F wr μ μ' s s' → FlV (Dm F μ') s'.heap fl f → R (.ok f) s') → codeR Γ.M A (.forLoop target (.ref it) body orelse (F.env sc)) R s

/-- an expression that is walked -/
def EvI (Γ : Cx) (k : Nat) (sc : Scope) (σ : Loc) (μ : Own) (iter : Expr) (xs : List PV) (nd : Bool) : Prop :=
  ∀ (A : Around) (n : Nat) (F : Fm) (s : Shared) (Q : Value → Shared → Prop) (E : Value → Shared → Prop), n + k ≤ 8 → Lv n A → St Γ sc F σ μ s →
    (∀ it wr J s', Iter Γ A it wr J nd → J (Dm F μ) xs s'.heap → Gr s s' → (∀ b ∈ wr, s.heap.get? b = none) → Q (.ref it) s') → wpR Γ.M A (eval iter (F.env sc)) (fun v s₁ => wpR Γ.M A (pyIter v) Q E s₁) E s
theorem EvI.of {iter : Expr} {p : PV} {xs : List PV} (he : Ev Γ k sc σ μ iter p) (hi : IterOk Γ p xs) : EvI Γ k sc σ μ iter xs false := by
  intro A n F s Q E hn hA st hQ
  refine he A n F s _ _ hn hA st fun v s₁ g₁ hv => ?_
  have st₁ := st.grow g₁
  refine toR (hi A n (Dm F μ) s₁ v _ _ (by omega) hA st₁.base hv st₁.dom fun it wr J s₂ hI hJ g₂ hw => hQ it wr J s₂ hI hJ (g₁.trans g₂) fun b hb => ?_)
  cases q : s.heap.get? b with
  | none => rfl
  | some o => have := g₁.keep b o q; rw [hw b hb] at this; cases this
theorem X1.forI {target iter : Expr} {body orelse : List Stmt} {xs : List PV} {nd : Bool} (he : EvI Γ k sc σ μ iter xs nd) (h : Fo Γ k sc σ μ target body orelse xs P)
    (hnd : nd = true → isTupE target = true := by first | exact (fun h => nomatch h) | exact (fun _ => rfl))
    (hs : ∀ env x, foldedSetIterable iter env x = pure x := by intro _ _; kernel_rfl) : X1 Γ k sc σ μ (.For target iter body orelse pos) P := by
  intro A n F h₀ s Q E hn hA X hQ
  refine wpR_For (he A n F s _ _ hn hA X.toSt fun it wr J s₂ hI hJ g hw => ?_) (hs _)
  have X₂ := X.grow g
  refine h A n F h₀ s₂ _ it wr J hn hA X₂ nd hI hnd hJ (fun b hb => ?_) fun fl σ' μ' f s' hP X' sp hf => ?_
  · cases q : h₀.get? b with
    | none => rfl
    | some o => have := X.keep b o q; rw [hw b hb] at this; cases this
  · have hnw : ∀ b, (s.heap.get? b).isSome → b ∉ wr := fun b hb q => by rw [hw b q] at hb; cases hb
    refine hQ fl σ' μ' f s' hP X' ⟨fun b o e h1 h2 h3 => ?_, fun b e => ?_, fun b e d => ?_, sp.gens.trans g.gens, sp.os.trans g.os⟩ hf
    · exact sp.keep b o (hnw b (by rw [e]; rfl)) (g.keep b o e) h1 h2 h3
    · exact sp.alive b (hnw b e) (g.keep.alive b e)
    · exact sp.dom b (hnw b e) (g.keep.alive b e) d
theorem X1.for {target iter : Expr} {body orelse : List Stmt} {p : PV} {xs : List PV} (he : Ev Γ k sc σ μ iter p) (hi : IterOk Γ p xs) (h : Fo Γ k sc σ μ target body orelse xs P)
    (hs : ∀ env x, foldedSetIterable iter env x = pure x := by intro _ _; kernel_rfl) : X1 Γ k sc σ μ (.For target iter body orelse pos) P :=
  X1.forI (EvI.of he hi) h (fun h => nomatch h) hs

theorem Fo.nil {target : Expr} {body orelse : List Stmt} (h : Xs Γ k sc σ μ orelse P) : Fo Γ k sc σ μ target body orelse [] P := by
  intro A n F h₀ s R it wr J hn hA X nd hI hnd hJ hw hR
  refine codeR_for1 (toR (wpAny_mono (hI.done (Dm F μ) s (fun s₁ => wpR Γ.M A (execs orelse (F.env sc)) (fun f s₃ => R (.ok f) s₃) (noted Γ.M A (F.env sc) fun e s' => R (.error e) s') s₁) _ hJ fun h' tk hk => ?_) (fun r s₁ hr => ?_) fun _ _ e => e))
  · have X' := X.wr (tk := tk) hk (hI.wrs _ _ _ hJ) hw
    exact h A n F h₀ _ _ _ hn hA X' fun fl σ' μ' f s' hP X'' sp hf => hR fl σ' μ' f s' hP X'' ((SpW.wr hk).trans sp.toW) hf
  · obtain ⟨rfl, hr⟩ := hr; exact hr

theorem Fo.cons {target : Expr} {body orelse : List Stmt} {x : PV} {xs : List PV} {σ₁ : Loc} (ha : As Γ k sc σ μ target x σ₁)
    (h : Xs Γ k sc σ₁ μ body (fun fl σ' μ' => match fl with | .next | .cont => Fo Γ k sc σ' μ' target body orelse xs P | .brk => P .next σ' μ' | .ret v => P (.ret v) σ' μ')) : Fo Γ k sc σ μ target body orelse (x :: xs) P := by
  intro A n F h₀ s R it wr J hn hA X nd hI hnd hJ hw hR
  refine codeR_for1 (toR (wpAny_mono (hI.item (Dm F μ) x xs s target (fun v s₁ => wpR Γ.M A (assign target (F.env sc) v) (fun _ s₂ => wpR Γ.M A (execs body (F.env sc)) (fun f s₃ => match f with
          | .next | .cont => codeR Γ.M A (.forLoop target (.ref it) body orelse (F.env sc)) R s₃
          | .brk => R (.ok .next) s₃
          | .ret v => R (.ok (.ret v)) s₃) (noted Γ.M A (F.env sc) fun e s' => R (.error e) s') s₂) (noted Γ.M A (F.env sc) fun e s' => R (.error e) s') s₁) _ hJ X.toSt.dom hnd fun v h' tk hv hJ' hk => ?_) (fun r s₁ hr => ?_) fun _ _ e => e))
  · have X' := X.wr (tk := tk) hk (hI.wrs _ _ _ hJ) hw
    refine toR (ha A n F h₀ _ v _ _ hn hA X' hv fun s₂ X₂ sp₂ => ?_)
    refine h A n F h₀ s₂ _ _ hn hA X₂ fun fl σ' μ' f s' hP X'' sp hf => ?_
    have spa := sp₂.trans sp
    have spW : SpW F wr μ μ' s s' := (SpW.wr hk).trans spa.toW
    have next : Fo Γ k sc σ' μ' target body orelse xs P → codeR Γ.M A (.forLoop target (.ref it) body orelse (F.env sc)) R s' := fun hfo =>
      hfo A n F h₀ s' R it wr J hn hA X'' nd hI hnd (hI.move _ _ _ _ _ (X'.hk X'' spa) (fun b o hb d => spa.dom b (by rw [hb]; rfl) d) hJ') hw
        fun fl2 σ2 μ2 f2 s2 hP2 X2 sp2 hf2 => hR fl2 σ2 μ2 f2 s2 hP2 X2 (spW.trans sp2) hf2
    cases fl with
    | next => have : f = .next := hf; subst this; exact next hP
    | cont => have : f = .cont := hf; subst this; exact next hP
    | brk => have : f = .brk := hf; subst this; exact hR .next σ' μ' _ s' hP X'' spW rfl
    | ret v => obtain ⟨val, rfl, hv⟩ := hf; exact hR (.ret v) σ' μ' _ s' hP X'' spW ⟨val, rfl, hv⟩
  · cases r with
    | none => exact hr.elim
    | some v => exact toR (wpAny_mono hr (fun _ _ e => e) fun _ _ e => e)
theorem Fo.less {σ' : Loc} {target : Expr} {body orelse : List Stmt} {xs : List PV} (h : ∀ x v, σ'.lookup x = some v → σ.lookup x = some v) (hx : Fo Γ k sc σ' μ target body orelse xs P) : Fo Γ k sc σ μ target body orelse xs P :=
  fun A n F h₀ s R it wr J hn hA X => hx A n F h₀ s R it wr J hn hA (X.less h)
end
end Mine

namespace Mine

section
variable {Γ : Cx} {k : Nat} {sc : Scope} {σ : Loc} {μ : Own} {pos : Pos}

theorem V.newList {D : Addr → Prop} {h : Heap} {xs : List PV} {vs : List Value} (hD : ∀ b, D b → (h.get? b).isSome) (e : Vs D h xs vs) :
    V D (h.push { cls := .type "list", data := .seq vs.toArray }) (.lst xs) (.ref h.objs.size) :=
  V_lst.mpr ⟨_, vs.toArray, rfl, not_dom hD, ⟨_, Heap.get?_push_size _ rfl, rfl, _, rfl⟩, by simpa using e.grow (Kp.push _ _)⟩
theorem V.newTup {D : Addr → Prop} {h : Heap} {xs : List PV} {vs : List Value} (e : Vs D h xs vs) :
    V D (h.push { cls := .type "tuple", data := .seq vs.toArray }) (.tup xs) (.ref h.objs.size) :=
  V_tup.mpr ⟨_, vs.toArray, rfl, ⟨_, Heap.get?_push_size _ rfl, rfl, _, rfl⟩, by simpa using e.grow (Kp.push _ _)⟩

theorem Ev.tuple {es : List Expr} {vs : List PV} {kd : Nat} (h : Es Γ k sc σ μ pos es vs) (hs : vs.length ≤ 1000) : Ev Γ k sc σ μ (.Tuple es kd pos) (.tup vs) := by
  intro A n F s Q E hn hA st hQ
  refine wpR_Tuple (h A n F s _ _ hn hA st fun vals s₁ g₁ hv => ⟨?_, hQ _ _ (g₁.trans (Gr.heap _ (Kp.push _ _))) (V.newTup hv)⟩)
  have := hv.length; rw [sizeLine_eq]; omega
theorem Ev.list {es : List Expr} {vs : List PV} (h : Es Γ k sc σ μ pos es vs) (hs : vs.length ≤ 1000) : Ev Γ k sc σ μ (.List es pos) (.lst vs) := by
  intro A n F s Q E hn hA st hQ
  refine wpR_List (h A n F s _ _ hn hA st fun vals s₁ g₁ hv => ⟨?_, hQ _ _ (g₁.trans (Gr.heap _ (Kp.push _ _))) (V.newList (st.grow g₁).dom hv)⟩)
  have := hv.length; rw [sizeLine_eq]; omega

/-! ### items -/
def HasItem (Γ : Cx) (a : PV) : Prop := ∀ (D : Addr → Prop) (s : Shared) (v : Value), V D s.heap a v → ∃ T id, s.TypeIs v T ∧ typeLookup (.type T) "__getitem__" = pure (some (.builtin id))
theorem HasItem.lst {xs : List PV} : HasItem Γ (.lst xs) := fun D s v hv => by
  obtain ⟨a, items, rfl, _, h, _⟩ := V_lst.mp hv
  exact ⟨_, _, h.typeIs, slot_list_getitem.lookup⟩
theorem HasItem.tup {xs : List PV} : HasItem Γ (.tup xs) := fun D s v hv => by
  obtain ⟨a, items, rfl, h, _⟩ := V_tup.mp hv
  exact ⟨_, _, h.typeIs, F.slot_tuple_getitem.lookup⟩
theorem HasItem.bytes {l : List UInt8} : HasItem Γ (.bytes l) := fun D s v hv => by
  obtain ⟨t, rfl⟩ := V_bytes.mp hv
  exact ⟨_, _, typeIs_bytes s _ _, FB.slot_bytes_getitem.lookup⟩
theorem HasItem.str {l : List Nat} : HasItem Γ (.str l) := fun D s v hv => by
  obtain ⟨t, rfl⟩ := V_str.mp hv
  exact ⟨_, _, typeIs_str s _ _, F.slot_str_getitem.lookup⟩

theorem Ev.sub {value slice : Expr} {a i r : PV} (hv : Ev Γ k sc σ μ value a) (hi : Ev Γ k sc σ μ slice i) (ho : Op2 Γ getItem a i r) (hT : HasItem Γ a)
    (hs : ∀ o i, subscripted slice false o i = operate [o, i] (getItem o i) := by intro _ _; kernel_rfl) : Ev Γ k sc σ μ (.Subscript value slice pos) r := by
  intro A n F s Q E hn hA st hQ
  refine wpR_Subscript (hv A n F s _ _ hn hA st fun o s₁ g₁ ho₁ => hi A n F s₁ _ _ hn hA (st.grow g₁) fun iv s₂ g₂ hi₂ => ?_)
  obtain ⟨T, id, hT, hl⟩ := hT _ s₂ o (ho₁.grow g₂.keep)
  have st₂ := (st.grow g₁).grow g₂
  exact toR <| tail_any hT hl (ho A n _ s₂ o iv _ _ (by omega) hA st.ok st₂.base (ho₁.grow g₂.keep) hi₂ st₂.dom fun v s₃ g₃ hv => hQ v s₃ ((g₁.trans g₂).trans g₃) hv) (hs o iv)

theorem Op2.item {xs : List PV} {i : Int} {r : PV} (h0 : 0 ≤ i) (hx : xs[i.toNat]? = some r) (hl : xs.length < 2 ^ 62) : Op2 Γ getItem (.lst xs) (.int i) r := by
  intro A n D s x y Q E _ _ _ _ hv hy _ hQ
  obtain ⟨a, items, rfl, _, h, hvs⟩ := V_lst.mp hv
  obtain ⟨t, rfl⟩ := V_int.mp hy
  obtain ⟨v, e1, e2⟩ := hvs.get _ hx
  have hlt : i.toNat < xs.length := (List.getElem?_eq_some_iff.mp hx).1
  exact wpAny_getItem_list h h0 (by omega) (by simpa using e1) (hQ _ _ (Gr.refl _) e2)
/-! ### slices -/
def Pt (Γ : Cx) (k : Nat) (sc : Scope) (σ : Loc) (μ : Own) : Option Expr → Option Int → Prop
  | none, o => o = none
  | some e, o => ∃ i, o = some i ∧ Ev Γ k sc σ μ e (.int i)
theorem Pt.none : Pt Γ k sc σ μ none none := rfl
theorem Pt.some {e : Expr} {i : Int} (h : Ev Γ k sc σ μ e (.int i)) : Pt Γ k sc σ μ (some e) (some i) := ⟨i, rfl, h⟩
theorem Pt.run {o : Option Expr} {p : Option Int} (h : Pt Γ k sc σ μ o p) {A : Around} {n : Nat} {F : Fm} {s : Shared} {Q : Value → Shared → Prop} {E : Value → Shared → Prop} (hn : n + k ≤ 8) (hA : Lv n A) (st : St Γ sc F σ μ s)
    (hQ : ∀ v s', Gr s s' → IsPart v p → Q v s') : wpR Γ.M A (evalPart o (F.env sc)) Q E s := by
  cases o with
  | none => have : p = .none := h; subst this; exact wpR_pure (hQ _ _ (Gr.refl _) .none)
  | some e =>
    obtain ⟨i, rfl, h⟩ := h
    refine h A n F s _ _ hn hA st fun v s' g hv => ?_
    obtain ⟨t, rfl⟩ := V_int.mp hv
    exact hQ _ _ g (.int _ _)

def SliceOk (Γ : Cx) (a : PV) (lo hi st : Option Int) (r : PV) : Prop :=
  ∀ (A : Around) (n : Nat) (D : Addr → Prop) (s : Shared) (x : Value) (sl : Addr) (vl vu vs : Value) (Q : Value → Shared → Prop) (E : Value → Shared → Prop), n ≤ 8 → Lv n A → V D s.heap a x → (∀ b, D b → (s.heap.get? b).isSome) →
    s.heap.IsSliceOf sl vl vu vs → IsPart vl lo → IsPart vu hi → IsPart vs st →
    (∀ val s', Gr s s' → V D s'.heap r val → Q val s') → wpAny Γ.M A (getItem x (.ref sl)) Q E s

theorem Ev.slice {value : Expr} {lower upper : Option Expr} {p : Pos} {a r : PV} {lo hi : Option Int} (hv : Ev Γ k sc σ μ value a) (hl : Pt Γ k sc σ μ lower lo) (hu : Pt Γ k sc σ μ upper hi) (ho : SliceOk Γ a lo hi none r) (hT : HasItem Γ a) :
    Ev Γ k sc σ μ (.Subscript value (.Slice lower upper none p) pos) r := by
  intro A n F s Q E hn hA st hQ
  refine wpR_Subscript (hv A n F s _ _ hn hA st fun o s₁ g₁ ho₁ => wpR_Slice (hl.run hn hA (st.grow g₁) fun vl s₂ g₂ pl => hu.run hn hA ((st.grow g₁).grow g₂) fun vu s₃ g₃ pu => wpR_pure ?_))
  have g : Gr s₁ { s₃ with heap := s₃.heap.push { cls := .type "slice", data := .fields #[vl, vu, .none] } } := (g₂.trans g₃).trans (Gr.heap _ (Kp.push _ _))
  have st₃ := (st.grow g₁).grow g
  have ho₃ := ho₁.grow g.keep
  obtain ⟨T, id, hT, hl⟩ := hT _ _ o ho₃
  exact toR <| tail_any hT hl (ho A n _ _ o _ vl vu .none _ _ (by omega) hA ho₃ st₃.dom (Heap.IsSliceOf.new ..) pl pu .none fun v s₄ g₄ hv => hQ v s₄ ((g₁.trans g).trans g₄) hv) rfl
theorem Ev.slice3 {value step : Expr} {lower upper : Option Expr} {p : Pos} {a r : PV} {lo hi : Option Int} {c : Int} (hv : Ev Γ k sc σ μ value a) (hl : Pt Γ k sc σ μ lower lo) (hu : Pt Γ k sc σ μ upper hi) (hc : Ev Γ k sc σ μ step (.int c)) (ho : SliceOk Γ a lo hi (some c) r) (hT : HasItem Γ a) :
    Ev Γ k sc σ μ (.Subscript value (.Slice lower upper (some step) p) pos) r := by
  intro A n F s Q E hn hA st hQ
  refine wpR_Subscript (hv A n F s _ _ hn hA st fun o s₁ g₁ ho₁ => wpR_Slice (hl.run hn hA (st.grow g₁) fun vl s₂ g₂ pl => hu.run hn hA ((st.grow g₁).grow g₂) fun vu s₃ g₃ pu =>
    (Pt.some hc).run hn hA (((st.grow g₁).grow g₂).grow g₃) fun vs s₄ g₄ ps => ?_))
  have g : Gr s₁ { s₄ with heap := s₄.heap.push { cls := .type "slice", data := .fields #[vl, vu, vs] } } := ((g₂.trans g₃).trans g₄).trans (Gr.heap _ (Kp.push _ _))
  have st₃ := (st.grow g₁).grow g
  have ho₃ := ho₁.grow g.keep
  obtain ⟨T, id, hT, hl⟩ := hT _ _ o ho₃
  exact toR <| tail_any hT hl (ho A n _ _ o _ vl vu vs _ _ (by omega) hA ho₃ st₃.dom (Heap.IsSliceOf.new ..) pl pu ps fun v s₄ g₄ hv => hQ v s₄ ((g₁.trans g).trans g₄) hv) rfl

/-! ### built-ins of ints and lists -/
theorem CallOk.len_lst {xs : List PV} (h : xs.length < 2 ^ 62) : CallOk Γ k (.builtin "len") [.lst xs] (.int xs.length) := by
  intro A n D s vals Q E _ _ _ _ hvs _ hQ
  rw [Vs_cons] at hvs
  obtain ⟨v, r, rfl, hv, hr⟩ := hvs
  rw [Vs_nil] at hr; subst hr
  obtain ⟨a, items, rfl, _, hl, he⟩ := V_lst.mp hv
  have hlen : items.size = xs.length := by simpa using he.length
  refine toR (PyProof.Rows.len_list hl (by omega) (hQ _ _ (Gr.toks _) ?_))
  rw [hlen]; exact V.int _ _
theorem CallOk.len_bytes {l : List UInt8} (h : l.length ≤ 1099511627776) : CallOk Γ k (.builtin "len") [.bytes l] (.int l.length) := by
  intro A n D s vals Q E _ _ _ _ hvs _ hQ
  rw [Vs_cons] at hvs
  obtain ⟨v, r, rfl, hv, hr⟩ := hvs
  rw [Vs_nil] at hr; subst hr
  obtain ⟨t, rfl⟩ := V_bytes.mp hv
  exact toR <| PySem.W.len_bytes (by simpa using h) (hQ _ _ (Gr.toks _) (by simpa using V.int _ _))
theorem CallOk.range1 {b : Int} : CallOk Γ k (.type "range") [.int b] (.rng 0 b 1) := by
  intro A n D s vals Q E _ _ _ _ hvs _ hQ
  rw [Vs_cons] at hvs
  obtain ⟨v, r, rfl, hv, hr⟩ := hvs
  rw [Vs_nil] at hr; subst hr
  obtain ⟨t, rfl⟩ := V_int.mp hv
  exact toR <| PySem.call_range_1 (hQ _ _ (Gr.heap _ (Kp.push _ _)) (V_rng.mpr ⟨_, _, _, _, rfl, Heap.get?_push_size _ rfl⟩))
theorem CallOk.range2 {a b : Int} : CallOk Γ k (.type "range") [.int a, .int b] (.rng a b 1) := by
  intro A n D s vals Q E _ _ _ _ hvs _ hQ
  rw [Vs_cons] at hvs
  obtain ⟨v, r, rfl, hv, hr⟩ := hvs
  rw [Vs_cons] at hr
  obtain ⟨v2, r2, rfl, hv2, hr2⟩ := hr
  rw [Vs_nil] at hr2; subst hr2
  obtain ⟨t, rfl⟩ := V_int.mp hv
  obtain ⟨u, rfl⟩ := V_int.mp hv2
  exact toR <| PySem.call_range_2 (hQ _ _ (Gr.heap _ (Kp.push _ _)) (V_rng.mpr ⟨_, _, _, _, rfl, Heap.get?_push_size _ rfl⟩))
end

/-! ### saying less -/
def Sub (σ : Loc) : Loc → Prop
  | [] => True
  | (x, v) :: r => σ.lookup x = some v ∧ Sub σ r
theorem Sub.to {σ : Loc} : ∀ {σ' : Loc}, Sub σ σ' → ∀ x v, σ'.lookup x = some v → σ.lookup x = some v
  | [], _, x, v, e => nomatch e
  | (y, w) :: r, h, x, v, e => by
    rw [List.lookup_cons] at e
    cases q : (x == y) with
    | true => rw [q] at e; cases e; rw [beq_iff_eq.mp q]; exact h.1
    | false => rw [q] at e; exact Sub.to h.2 x v e
theorem Wh.sub {Γ : Cx} {k : Nat} {sc : Scope} {σ σ' : Loc} {μ : Own} {P : Fl → Loc → Own → Prop} {t : Expr} {body orelse : List Stmt} (h : Sub σ σ') (hx : Wh Γ k sc σ' μ t body orelse P) : Wh Γ k sc σ μ t body orelse P := Wh.less h.to hx
theorem Fo.sub {Γ : Cx} {k : Nat} {sc : Scope} {σ σ' : Loc} {μ : Own} {P : Fl → Loc → Own → Prop} {t : Expr} {body orelse : List Stmt} {xs : List PV} (h : Sub σ σ') (hx : Fo Γ k sc σ' μ t body orelse xs P) : Fo Γ k sc σ μ t body orelse xs P := Fo.less h.to hx
theorem Xs.sub {Γ : Cx} {k : Nat} {sc : Scope} {σ σ' : Loc} {μ : Own} {P : Fl → Loc → Own → Prop} {sts : List Stmt} (h : Sub σ σ') (hx : Xs Γ k sc σ' μ sts P) : Xs Γ k sc σ μ sts P := Xs.less h.to hx

def fnAt (p : Program) (i : Nat) : Arguments × List Stmt × Scope := match p.main.body[i]? with
  | some (.FunctionDef _ a b _ _ _ s _ _ _) => (a, b, s)
  | _ => (⟨[], [], none, [], [], none, []⟩, [], default)

/-- a plain def of the text at a written address of the top's heap -/
structure DefAt (Γ : Cx) (a : Addr) (name : Str) (d : Arguments × List Stmt × Scope) : Prop where
  out : ∃ o pm cd doc, Γ.B.get? a = some o ∧ o.data = .func (docDef name d.1 d.2.1 d.2.2 pm cd doc) ∧ Γ.B.CodeRec cd name
theorem DefAt.keep {Γ : Cx} {a : Addr} {name : Str} {d} (h : DefAt Γ a name d) : KeepOk Γ (.ref a) := by
  obtain ⟨o, pm, cd, doc, h1, h2, h3⟩ := h.out
  exact KeepOk.fn h1 h2
theorem DefAt.call {Γ : Cx} {k : Nat} {a : Addr} {name : Str} {params : Arguments} {body : List Stmt} {scope : Scope} {args : List PV} {r : PV} (h : DefAt Γ a name (params, body, scope))
    (hbody : Xs Γ k scope ((params.args.map (·.arg)).zip args) [] body (fun fl _ μ' => fl = .ret r))
    (hbind : ∀ (pm cd doc : Value) (vals : List Value), vals.length = args.length → bindArgs (docDef name params body scope pm cd doc) ⟨vals, []⟩ = pure ((params.args.map (·.arg)).zip vals))
    (hnd : (params.args.map (·.arg)).Nodup := by decide +kernel)
    (hloc : (params.args.map (·.arg)).all (fun x => decide (scope.names.lookup x = some .local)) = true := by decide +kernel)
    (hco : scope.isCoroutine = false := by kernel_rfl) (hgen : scope.isGenerator = false := by kernel_rfl) (hk : scope.kind = .function := by kernel_rfl)
    (hcell : (scope.names.all fun x => decide (x.2 ≠ .cell)) = true := by decide +kernel) : CallOk Γ (k + 1) (.ref a) args r := by
  obtain ⟨o, pm, cd, doc, h1, h2, h3⟩ := h.out
  exact CallOk.fn h1 h2 h3 (hbind pm cd doc) hbody hnd hloc hco hgen hk hcell
theorem CallOk.mono {Γ : Cx} {k k' : Nat} {f : Value} {args : List PV} {r : PV} (h : CallOk Γ k f args r) (hk : k ≤ k') : CallOk Γ k' f args r :=
  fun A n D s vals Q E hn => h A n D s vals Q E (by omega)
/-- a statement, by the state behind it -/
theorem Xs.cut {Γ : Cx} {k : Nat} {sc : Scope} {σ : Loc} {μ : Own} {P : Fl → Loc → Own → Prop} {st : Stmt} {rest : List Stmt} (σ₁ : Loc) (μ₁ : Own)
    (h : X1 Γ k sc σ μ st (fun fl σ' μ' => fl = .next ∧ Sub σ' σ₁ ∧ μ' = μ₁)) (hr : Xs Γ k sc σ₁ μ₁ rest P) : Xs Γ k sc σ μ (st :: rest) P := by
  refine Xs.cons (h.mono fun fl σ' μ' hh => ?_)
  obtain ⟨rfl, h1, rfl⟩ := hh
  exact hr.sub h1

/-! ### from the head -/
theorem DefAt.of {p : Program} {loose : List Str} {mean : ExcName → Option Value} {mg mb : Str → Option Value} {B : Heap} (T : Top p loose mean mg mb B) (i j : Nat) (name : Str) (pgm : Program)
    (hd : ((recsOf p)[i]?.map fun d => (d.name, d.params, d.body, d.scope)) = some (name, fnAt pgm j)) : ∃ a, mg name = some (.ref a) ∧ ∀ Γ : Cx, Γ.B = B → DefAt Γ a name (fnAt pgm j) := by
  cases hr : (recsOf p)[i]? with
  | none => rw [hr] at hd; cases hd
  | some d =>
    rw [hr] at hd
    obtain ⟨a, o, pm, cd, doc, h1, h2, h3, h4⟩ := T.fn d (List.mem_of_getElem? hr)
    simp only [Option.map_some, Option.some.injEq, Prod.mk.injEq] at hd
    obtain ⟨e1, e2⟩ := hd
    subst e1
    refine ⟨a, h1, fun Γ hB => ⟨o, pm, cd, doc, by rw [hB]; exact h2, ?_, by rw [hB]; exact h4⟩⟩
    rw [← e2]
    exact h3
theorem GloV.fn {p : Program} {loose : List Str} {mean : ExcName → Option Value} {mg mb : Str → Option Value} {B : Heap} (T : Top p loose mean mg mb B) {x : Str} {v : Value} (h : mg x = some v) : GloV B x v := ⟨mg, T.g, .inl h⟩
theorem GloV.bi {p : Program} {loose : List Str} {mean : ExcName → Option Value} {mg mb : Str → Option Value} {B : Heap} (T : Top p loose mean mg mb B) {K : Frag} (X : K.In B) {x : Str} {v : Value} (e : nsIn K mainGlobals x = some none) (hv : bootBuiltins x = some v) (hn : x ≠ "__name__") : GloV B x v :=
  ⟨mg, T.g, .inr ⟨mg_none_of X T.g e, mb, T.b, (T.builtins x hn).trans hv⟩⟩
theorem GloV.top {p : Program} {loose : List Str} {mean : ExcName → Option Value} {mg mb : Str → Option Value} {B : Heap} (T : Top p loose mean mg mb B) {K : Frag} (X : K.In B) {x : Str} {v : Value} (e : nsIn K mainGlobals x = some (some v)) : GloV B x v := ⟨mg, T.g, .inl (mg_of X T.g e)⟩

def GlOk (B : Heap) : List (Str × PV) → Prop
  | [] => True
  | (x, p) :: r => (∃ v, GloV B x v ∧ ∀ D h, V D h p v) ∧ GlOk B r
theorem GlOk.to {B : Heap} : ∀ {l : List (Str × PV)}, GlOk B l → ∀ x p, l.lookup x = some p → ∃ v, GloV B x v ∧ ∀ D h, V D h p v
  | [], _, _, _, e => nomatch e
  | (y, q) :: r, h, x, p, e => by
    rw [List.lookup_cons] at e
    cases c : (x == y) with
    | true => rw [c] at e; cases e; rw [beq_iff_eq.mp c]; exact h.1
    | false => rw [c] at e; exact GlOk.to h.2 x p e
theorem GlOk.one {B : Heap} {x : Str} {v : Value} (h : GloV B x v) : ∃ v', GloV B x v' ∧ ∀ D h, V D h (.obj v) v' := ⟨v, h, fun _ _ => V_obj.mpr rfl⟩
theorem GlOk.bytes {B : Heap} {x : Str} {l : List UInt8} {t : Tok} (h : GloV B x (.bytes l.toArray t)) : ∃ v', GloV B x v' ∧ ∀ D h, V D h (.bytes l) v' := ⟨_, h, fun _ _ => V.bytes _ _⟩

theorem IterOk.upTo {Γ : Cx} {b : Int} {n : Nat} (h0 : b = (n : Int)) (h1 : n < 2 ^ 62) : IterOk Γ (.rng 0 b 1) (rngItems ((0 : Nat) : Int) 1 n) := by
  subst h0
  refine IterOk.rng (small_one (by decide) (by decide) (by omega) (by omega)) n ?_
  rw [rangeSize_one]; split <;> omega
end Mine

set_option maxRecDepth 100000
namespace Mine

/-! ## built-ins that touch bytearrays, over quiet contexts -/

section
variable {prog : Program} {w : World} {A : Around} {s : Shared} {R : Result → Shared → Prop}

theorem codeR_builtin {id : String} {args : Args} {b : Builtin} (hq : QuietC (.builtin id args) = true) (hb : entryFor table id = some b)
    (h : wpR (model prog w) (A.under (.builtin id args)) (b args)
      (fun fin s' => match fin with | .done f => R (.ok f) s' | .again c' => c'.quiet = true ∧ codeR (model prog w) A c' R s') (fun e s' => R (.error e) s') s) :
    codeR (model prog w) A (.builtin id args) R s := by
  refine codeR_of_tree hq ?_
  show wpR _ _ (match entryFor table id with | some b => b args | none => unsupported ((withoutEnding? id "#data").getD id)) _ _ s
  rw [hb]; exact h

theorem codeR_call_builtin {id : String} {args : Args} {b : Builtin} (hqc : QuietC (.builtin id args) = true) (hq : plainId id = true) (hb : entryFor table id = some b)
    (h : wpAny (model prog w) A.in1 (checkBuiltinCall id args) (fun _ s₁ => wpR (model prog w) A.in1 (b args)
      (fun fin s' => match fin with | .done f => R (.ok f) s' | .again c' => c'.quiet = true ∧ codeR (model prog w) A c' R s') (fun e s' => R (.error e) s') s₁)
      (fun e s' => R (.error e) s') s) : codeR (model prog w) A (.call (.builtin id) args) R s := by
  refine codeR_of_tree rfl ?_
  show wpR _ A.in1 (do checkBuiltinCall id args; again (.builtin id args)) _ _ s
  refine wpR_bind (toR (wpAny_mono h (fun _ s₁ h₁ => wpR_pure (And.intro (plainId_quiet hq args) (codeR_builtin hqc hb ?_))) fun _ _ h' => h'))
  rw [Around.under_plainId hq args]; exact h₁

theorem wpR_callSpecial?_slot {M : Model} {E : Value → Shared → Prop} {self : Value} {T : String} {name : Str} {id : String} {args : List Value} {kw : List (Str × Value)}
    {Q : Option Value → Shared → Prop} (hT : s.TypeIs self T) (h : Slot T name id)
    (hc : wpR M A (call (.builtin id) (self :: args) kw) (fun v => Q (some v)) E s) : wpR M A (callSpecial? self name args kw) Q E s := by
  simp only [callSpecial?]
  refine wpR_bind (toR (wpAny_specialOf hT h.lookup ?_))
  simp only [h.bind]
  exact wpR_holding (wpR_bind (wpR_pure (wpR_bind (wpR_mono hc (fun v s' h' => wpR_pure h') fun _ _ h' => h'))))

/-- making an object of a type: new, then init -/
theorem callTypeR {E : Value → Shared → Prop} {T newId initId : String} {Bi : Builtin} {args : List Value} {Q Q₁ : Value → Shared → Prop} (ft : TypeCalled T newId initId)
    (hct : checkTypeCall T ⟨args, []⟩ = pure ()) (entryI : entryFor table initId = some Bi) (hqi : ∀ as, QuietC (.builtin initId as) = true)
    (hnew : codeR (model prog w) A.in1 (.call (.builtin newId) ⟨.type T :: args, []⟩) (wants Q₁ E) s)
    (hnext : ∀ obj s₁, Q₁ obj s₁ → s₁.TypeIs obj T ∧ argsOk initId ⟨obj :: args, []⟩ ∧
      wpR (model prog w) A.in1.in1 (Bi ⟨obj :: args, []⟩)
        (fun fin s' => match fin with | .done f => wants (fun r s₂ => r = .none ∧ Q obj s₂) E (.ok f) s' | .again c' => c'.quiet = true ∧ codeR (model prog w) A.in1 c' (wants (fun r s₂ => r = .none ∧ Q obj s₂) E) s')
        (fun e s' => wants (fun r s₂ => r = .none ∧ Q obj s₂) E (.error e) s') s₁) :
    wpR (model prog w) A (call (.type T) args) Q E s := by
  obtain ⟨c, tl, hmro⟩ := ft.mro
  have hmade := ft.made
  have hsub := ft.sub
  refine wpR_call (codeR_of_tree rfl ?_)
  show wpR _ _ (callAny (.type T) _) _ _ _
  refine wpR_pure ⟨Code.quiet_builtin _ (by decide +kernel), codeR_builtin (by kernel_rfl) F.entry_type_call ?_⟩
  rw [Around.under_plain (weight_type_call_type T args []) rfl]
  have h1 := ft.notType
  have h2 := ft.canCreate
  unfold Builtin.«type.__call__»
  dsimp only
  simp only [h1, Bool.false_eq_true, if_false, h2]
  refine wpR_bind (toR (wpAny_of_eq hct ?_))
  refine wpR_bind (toR (wpAny_of_eq hmro ?_))
  simp only [List.isEmpty_cons, Bool.false_eq_true, if_false]
  refine wpR_bind (toR (wpAny_of_eq hmade ?_))
  refine wpR_bind (wpR_pure ?_)
  refine wpR_bind (wpR_holding (wpR_call (codeR_mono hnew fun r s₁ hr => ?_)))
  cases r with
  | error e => exact hr
  | ok fl =>
    cases fl with
    | ret obj =>
      obtain ⟨hT, hok, hsi⟩ := hnext _ _ hr
      refine wpR_bind (toR (wpAny_isInstance hT hsub ?_))
      simp only [Bool.not_true, Bool.false_eq_true, if_false]
      refine wpR_bind (wpR_holding (wpR_callSpecial?_slot hT ft.init (wpR_call (codeR_mono (codeR_call_builtin (hqi _) ft.init.plain entryI (ft.init.check _ _ _ _ _ _ _ _ hT hok hsi)) fun r₂ s₂ hr₂ => ?_))))
      cases r₂ with
      | error e => exact hr₂
      | ok fl₂ =>
        cases fl₂ with
        | ret r =>
          obtain ⟨rfl, hq⟩ := hr₂
          exact wpR_pure hq
        | _ => exact hr₂.elim
    | _ => exact hr.elim
end

namespace F
theorem ba_mro : mroOf (.type "bytearray") = pure [.type "bytearray", .type "object"] := by rw [mroOf_type]; kernel_rfl
theorem ba_lookup_new : typeLookup (.type "bytearray") "__new__" = pure (some (.builtin "bytearray.__new__")) := by rw [typeLookup_type, builtinLookup_eq_fast]; kernel_rfl
theorem ba_slot_init : Slot "bytearray" "__init__" "bytearray.__init__" :=
  .of (owner := "bytearray") (n := "__init__") (by rw [typeLookup_type, builtinLookup_eq_fast]; kernel_rfl) (by decide +kernel) (by decide +kernel) (by decide +kernel)
    (by first | exact .inl (by decide +kernel) | exact .inr (by decide +kernel)) (by rw [isSubtype_type]; kernel_rfl)
theorem ba_called : TypeCalled "bytearray" "bytearray.__new__" "bytearray.__init__" :=
  ⟨by decide +kernel, by decide +kernel, ⟨_, _, ba_mro⟩, madeBy_type ba_mro ba_lookup_new (by decide +kernel), by decide +kernel, by rw [isSubtype_type]; kernel_rfl, ba_slot_init⟩
theorem ba_typeCall : checkTypeCall "bytearray" ⟨[], []⟩ = pure () := by kernel_rfl
theorem ba_newCall : checkBuiltinCall "bytearray.__new__" ⟨[.type "bytearray"], []⟩ = pure () := by kernel_rfl
theorem ba_plain_new : plainId "bytearray.__new__" = true := by decide +kernel
theorem ba_entry_new : entryFor table "bytearray.__new__" = some Builtin.«list.__new__» :=
  entryFor_alias (id' := "list.__new__") (by kernel_rfl) (by first | rfl | decide +kernel) (by decide +kernel) (by kernel_rfl)
theorem ba_entry_init : entryFor table "bytearray.__init__" = some Builtin.«bytearray.__init__» := by first | exact entryFor_of_fast (by kernel_rfl) | exact entryFor_of_tree (by kernel_rfl)
theorem ba_entry_append : entryFor table "bytearray.append" = some Builtin.«bytearray.append» := by first | exact entryFor_of_fast (by kernel_rfl) | exact entryFor_of_tree (by kernel_rfl)
theorem ba_entry_extend : entryFor table "bytearray.extend" = some Builtin.«bytearray.extend» := by first | exact entryFor_of_fast (by kernel_rfl) | exact entryFor_of_tree (by kernel_rfl)
theorem ba_slot_append : Slot "bytearray" "append" "bytearray.append" :=
  .of (owner := "bytearray") (n := "append") (by rw [typeLookup_type, builtinLookup_eq_fast]; kernel_rfl) (by decide +kernel) (by decide +kernel) (by decide +kernel)
    (by first | exact .inl (by decide +kernel) | exact .inr (by decide +kernel)) (by rw [isSubtype_type]; kernel_rfl)
theorem ba_slot_extend : Slot "bytearray" "extend" "bytearray.extend" :=
  .of (owner := "bytearray") (n := "extend") (by rw [typeLookup_type, builtinLookup_eq_fast]; kernel_rfl) (by decide +kernel) (by decide +kernel) (by decide +kernel)
    (by first | exact .inl (by decide +kernel) | exact .inr (by decide +kernel)) (by rw [isSubtype_type]; kernel_rfl)
theorem ba_plainAttrs : PlainAttrs "bytearray" :=
  ⟨⟨"bytearray.__getattribute__", by rw [typeLookup_type, builtinLookup_eq_fast]; kernel_rfl, by decide +kernel⟩, by rw [typeLookup_type, builtinLookup_eq_fast]; kernel_rfl⟩
theorem ba_type_append : typeOf (.builtin "bytearray.append") = pure (.type "method_descriptor") := by show builtinType _ = _; rw [builtinType_eq_fast]; kernel_rfl
theorem ba_type_extend : typeOf (.builtin "bytearray.extend") = pure (.type "method_descriptor") := by show builtinType _ = _; rw [builtinType_eq_fast]; kernel_rfl
theorem ba_owner : Manifest.owners.lookup (String.ofList ['y', 'a', 'r', 'r', 'a', 'e', 't', 'y', 'b'].reverse) = some Manifest.sig_bytearray := by kernel_rfl
theorem ba_args_init (a : Value) : argsOk "bytearray.__init__" ⟨[a], []⟩ := by
  unfold argsOk; rw [signature?_of (id := "bytearray.__init__") (n := ['_', '_', 't', 'i', 'n', 'i', '_', '_']) (o := ['y', 'a', 'r', 'r', 'a', 'e', 't', 'y', 'b']) (by kernel_rfl) ba_owner]; kernel_rfl
theorem ba_args_append (a b : Value) : argsOk "bytearray.append" ⟨[a, b], []⟩ := by
  unfold argsOk; rw [signature?_of (id := "bytearray.append") (n := ['d', 'n', 'e', 'p', 'p', 'a']) (o := ['y', 'a', 'r', 'r', 'a', 'e', 't', 'y', 'b']) (by kernel_rfl) ba_owner]; kernel_rfl
theorem ba_args_extend (a b : Value) : argsOk "bytearray.extend" ⟨[a, b], []⟩ := by
  unfold argsOk; rw [signature?_of (id := "bytearray.extend") (n := ['d', 'n', 'e', 't', 'x', 'e']) (o := ['y', 'a', 'r', 'r', 'a', 'e', 't', 'y', 'b']) (by kernel_rfl) ba_owner]; kernel_rfl
theorem ba_release : typeLookup (.type "bytearray") "__release_buffer__" = pure (some (.builtin "bytearray.__release_buffer__")) := by rw [typeLookup_type, builtinLookup_eq_fast]; kernel_rfl
theorem ba_buffer : typeLookup (.type "bytearray") "__buffer__" = pure (some (.builtin "bytearray.__buffer__")) := by rw [typeLookup_type, builtinLookup_eq_fast]; kernel_rfl
theorem ba_no_bytes : typeLookup (.type "bytearray") "__bytes__" = pure none := by rw [typeLookup_type, builtinLookup_eq_fast]; kernel_rfl
theorem ba_no_index : typeLookup (.type "bytearray") "__index__" = pure none := by rw [typeLookup_type, builtinLookup_eq_fast]; kernel_rfl
theorem ba_sub : isSubtype (.type "bytearray") (.type "bytearray") = pure true := by rw [isSubtype_type]; kernel_rfl
theorem ba_bind : Builtin.Bytes.bindOptional "bytearray.__init__" "bytearray" ["source", "encoding", "errors"] [] [] = pure [none, none, none] := by kernel_rfl
theorem b_release : typeLookup (.type "bytes") "__release_buffer__" = pure none := by rw [typeLookup_type, builtinLookup_eq_fast]; kernel_rfl
theorem b_buffer : typeLookup (.type "bytes") "__buffer__" = pure (some (.builtin "bytes.__buffer__")) := by rw [typeLookup_type, builtinLookup_eq_fast]; kernel_rfl
end F
set_option maxRecDepth 1000000 in
set_option maxHeartbeats 4000000 in
theorem owner_ba_new : ("bytearray.__new__".splitOn ".__new__").headD "" = "bytearray" := by simp +decide [String.splitOn, String.splitOnAux]

abbrev baObj (l : List UInt8) : Obj := { cls := .type "bytearray", data := .bytearray l.toArray }

section
variable {prog : Program} {w : World} {A : Around} {E : Value → Shared → Prop} {s : Shared}

theorem typeIs_ba {a : Addr} {l : List UInt8} (h : s.heap.get? a = some (baObj l)) : s.TypeIs (.ref a) "bytearray" := ⟨_, h, rfl⟩

theorem wpAny_slotIsOwn {v : Value} {T : String} {name id : String} {Q : Bool → Shared → Prop} {M : Model} (hT : s.TypeIs v T) (hl : typeLookup (.type T) (Str.ofString name) = pure (some (.builtin id)))
    (he : id.endsWith ("." ++ name) = true) (hsub : isSubtype (.type T) (.type (id.dropRight (name.length + 1))) = pure true) (h : Q true s) : wpAny M A (Builtin.Bytes.slotIsOwn v name) Q E s := by
  unfold Builtin.Bytes.slotIsOwn
  refine wpAny_bind (wpAny_specialOf hT hl ?_)
  simp only [he, Bool.not_true, Bool.false_eq_true, if_false]
  exact wpAny_isInstance hT hsub h
theorem wpAny_slotIsOwn_none {v : Value} {T : String} {name : String} {Q : Bool → Shared → Prop} {M : Model} (hT : s.TypeIs v T) (hl : typeLookup (.type T) (Str.ofString name) = pure none)
    (h : Q true s) : wpAny M A (Builtin.Bytes.slotIsOwn v name) Q E s := by
  unfold Builtin.Bytes.slotIsOwn
  exact wpAny_bind (wpAny_specialOf hT hl (wpAny_pure h))
theorem wpAny_ownRelease_ba {M : Model} {v : Value} {Q : Bool → Shared → Prop} (hT : s.TypeIs v "bytearray") (h : Q false s) : wpAny M A (Builtin.Bytes.ownRelease v) Q E s := by
  unfold Builtin.Bytes.ownRelease
  exact wpAny_bind (wpAny_slotIsOwn hT F.ba_release (by decide +kernel) (by rw [isSubtype_type]; kernel_rfl) (wpAny_pure h))
theorem wpAny_ownRelease_b {M : Model} {v : Value} {Q : Bool → Shared → Prop} (hT : s.TypeIs v "bytes") (h : Q false s) : wpAny M A (Builtin.Bytes.ownRelease v) Q E s := by
  unfold Builtin.Bytes.ownRelease
  exact wpAny_bind (wpAny_slotIsOwn_none hT F.b_release (wpAny_pure h))
theorem wpAny_payload_ba {M : Model} {a : Addr} {l : List UInt8} {Q : Array UInt8 → Shared → Prop} (ha : s.heap.get? a = some (baObj l)) (h : Q l.toArray s) : wpAny M A (Builtin.Bytes.payload (.ref a)) Q E s := by
  unfold Builtin.Bytes.payload Builtin.Bytes.payload?
  refine wpAny_bind (wpAny_bind (wpAny_load ha ?_))
  exact wpAny_pure (wpAny_pure h)
theorem wpAny_write {M : Model} {a : Addr} {l l' : List UInt8} {f : Array UInt8 → Array UInt8} {Q : Unit → Shared → Prop} (ha : s.heap.get? a = some (baObj l)) (hf : f l.toArray = l'.toArray) (hz : l'.length ≤ sizeLine)
    (h : ∀ h', Heap.SameBut a s.heap h' → h'.get? a = some (baObj l') → Q () { s with heap := h' }) : wpAny M A (Builtin.Bytes.write (.ref a) f) Q E s := by
  show wpAny _ _ (updateBytearray a f) _ _ _
  unfold updateBytearray
  refine wpAny_bind (wpAny_load ha ?_)
  show wpAny _ _ (update a (Obj.mapBytearray f) >>= fun _ => lookBehind a) _ _ _
  refine wpAny_bind (wpAny_update ha ?_)
  have h2 : (s.heap.update a (Obj.mapBytearray f)).get? a = some (baObj l') := by
    have := Heap.get?_update_self (Obj.mapBytearray f) ha rfl
    rw [this]
    show some ({ cls := .type "bytearray", data := .bytearray (f l.toArray) } : Obj) = _
    rw [hf]
  refine wpAny_lookBehind h2 ?_ (h _ (Heap.SameBut.update ..) h2)
  show (if l'.toArray.size > sizeLine then some "bytearray:memory" else none) = none
  rw [if_neg]
  rw [List.size_toArray]; omega
theorem wpR_checkNone {M : Model} {a : Addr} {l : List UInt8} {Q : Bool → Shared → Prop} (hg : A.guards = some []) (ha : s.heap.get? a = some (baObj l)) (h : Q false s) :
    wpR M A (Builtin.Bytes.exported (.ref a) <||> (do return (← Builtin.Bytes.exportsOf (.ref a)) > 0)) Q E s := by
  refine wpR_bind (wpR_exported hg rfl ?_)
  show wpR M A (Builtin.Bytes.exportsOf (.ref a) >>= _) Q E s
  refine wpR_bind ?_
  unfold Builtin.Bytes.exportsOf
  refine wpR_bind (toR (wpAny_load ha ?_))
  exact wpR_pure (wpR_pure h)
theorem wpR_checkResize {M : Model} {a : Addr} {l : List UInt8} {Q : Unit → Shared → Prop} (hg : A.guards = some []) (ha : s.heap.get? a = some (baObj l)) (h : Q () s) : wpR M A (Builtin.Bytes.checkResize (.ref a)) Q E s := by
  unfold Builtin.Bytes.checkResize
  refine wpR_bind (wpR_checkNone hg ha ?_)
  exact wpR_pure h

theorem code_ba_new {Q₁ : Value → Shared → Prop}
    (h : Q₁ (.ref s.heap.objs.size) { s with heap := s.heap.push (baObj []) }) :
    codeAny (model prog w) A (.call (.builtin "bytearray.__new__") ⟨[.type "bytearray"], []⟩) (wants Q₁ E) s := by
  refine codeAny_of_tree ?_
  show wpAny _ A.in1 (do checkBuiltinCall "bytearray.__new__" ⟨[.type "bytearray"], []⟩; again (.builtin "bytearray.__new__" ⟨[.type "bytearray"], []⟩)) _ _ s
  refine wpAny_bind (wpAny_of_eq F.ba_newCall (wpAny_pure ⟨plainId_quiet F.ba_plain_new _, codeAny_builtin_stack F.ba_entry_new rfl fun p st => ?_⟩))
  rw [Around.under_plainId F.ba_plain_new _]
  have hsub := F.ba_sub
  have hown := owner_ba_new
  obtain ⟨hp, g, d, tk, os⟩ := s
  simp only [hown]
  wp_walk
  exact h

theorem wpR_ifF {α : Type} {M : Model} {c : Prop} [Decidable c] {x y : Sem α} {Q : α → Shared → Prop} (hc : ¬ c) (h : wpR M A y Q E s) : wpR M A (if c then x else y) Q E s := by rw [if_neg hc]; exact h
theorem ba_init {a : Addr} {Q : Fin → Shared → Prop} (hg : A.guards = some []) (ha : s.heap.get? a = some (baObj []))
    (h : ∀ h', Heap.SameBut a s.heap h' → h'.get? a = some (baObj []) → Q (.done (.ret .none)) { s with heap := h' }) : wpR (model prog w) A (Builtin.«bytearray.__init__» ⟨[.ref a], []⟩) Q E s := by
  unfold Builtin.«bytearray.__init__»
  refine wpR_bind (toR (wpAny_ownRelease_ba (typeIs_ba ha) ?_))
  refine wpR_ifF (by decide) ?_
  refine wpR_bind (toR (wpAny_of_eq F.ba_bind ?_))
  refine wpR_bind (toR (wpAny_of_eq (a := ()) rfl ?_))
  refine wpR_bind (toR (wpAny_of_eq (a := ()) rfl ?_))
  refine wpR_bind (wpR_checkNone hg ha ?_)
  refine wpR_ifF (by decide) ?_
  refine wpR_bind (toR (wpAny_write (l' := []) ha rfl (Nat.zero_le _) fun h' hs ha' => ?_))
  exact wpR_bind (wpR_pure (wpR_pure (h h' hs ha')))

/-- bytearray() -/
theorem call_ba {Q : Value → Shared → Prop} (hg : A.guards = some []) (h : ∀ h', Kp s.heap h' → h'.get? s.heap.objs.size = some (baObj []) → Q (.ref s.heap.objs.size) { s with heap := h' }) : wpR (model prog w) A (call (.type "bytearray") []) Q E s := by
  refine callTypeR (Q₁ := fun obj s₁ => obj = .ref s.heap.objs.size ∧ s₁ = { s with heap := s.heap.push (baObj []) }) F.ba_called F.ba_typeCall F.ba_entry_init (fun as => by kernel_rfl) (codeToR (code_ba_new ⟨rfl, rfl⟩)) fun obj s₁ h₁ => ?_
  obtain ⟨rfl, rfl⟩ := h₁
  have ha : (s.heap.push (baObj [])).get? s.heap.objs.size = some (baObj []) := Heap.get?_push_size _ rfl
  refine ⟨typeIs_ba (s := { s with heap := s.heap.push (baObj []) }) ha, F.ba_args_init _, ba_init (s := { s with heap := s.heap.push (baObj []) }) hg ha fun h' hs ha' => ⟨rfl, h h' (fun b o e => (hs.2 b (Nat.ne_of_lt (Heap.lt_size e))).trans (Kp.push _ _ b o e)) ha'⟩⟩
end
end Mine

set_option maxRecDepth 100000
namespace Mine

/-! ## owned objects -/

section
variable {Γ : Cx} {k : Nat} {sc : Scope} {σ : Loc} {μ μ₁ μ₂ : Own} {pos : Pos} {P : Fl → Loc → Own → Prop} {A : Around} {F : Fm} {h₀ : Heap} {s : Shared} {a : Addr} {o o' : PO}

/-- a new object comes under the frame -/
theorem Sx.own' {s' : Shared} {cs : Scope} (X : Sx Γ h₀ sc F σ μ s cs) (g : Gr s s') (ha : s.heap.get? a = none) (ho : POat (Dm F ((a, o) :: μ)) s'.heap a o) : Sx Γ h₀ sc F σ ((a, o) :: μ) s' cs ∧ Sp F μ ((a, o) :: μ) s s' := by
  have hD : ∀ b o', s.heap.get? b = some o' → Dm F ((a, o) :: μ) b → Dm F μ b := by
    intro b o' hb d
    rcases d with d | d
    · exact .inl d
    · rw [List.map_cons, List.mem_cons] at d
      rcases d with d | d
      · dsimp only at d; subst d; rw [ha] at hb; cases hb
      · exact .inr d
  have hv : ∀ {x v}, V (Dm F μ) s.heap x v → V (Dm F ((a, o) :: μ)) s'.heap x v := fun e => e.move (fun b o hb _ => g.keep b o hb) hD
  have hvs : ∀ {x v}, Vs (Dm F μ) s.heap x v → Vs (Dm F ((a, o) :: μ)) s'.heap x v := fun e => e.move (fun b o hb _ => g.keep b o hb) hD
  have hnot : a ∉ μ.map (·.1) := fun d => by have := X.toSt.dom a (.inr d); rw [ha] at this; cases this
  refine ⟨⟨⟨X.ok, X.base.trans g.keep, ?_, fun x v p q => ?_, fun b q hm => ?_, fun b hb => g.keep.alive b (X.dal b hb)⟩, X.keep.trans g.keep, X.baseh, X.newL, fun y e => let ⟨c, v, p, q, d⟩ := X.cells y e; ⟨c, v, p, q, d.keeps g.keep⟩,
    fun y c e => let ⟨v, d⟩ := X.cellsAll y c e; ⟨v, d.keeps g.keep⟩, X.cellsApart, fun b hb => ?_, X.dold, ?_⟩, fun b o' e _ _ _ => g.keep b o' e, fun b e => g.keep.alive b e, fun b e d => ?_, g.gens, g.os⟩
  · obtain ⟨m, hn, hm⟩ := X.ns
    exact ⟨m, hn.keeps g.keep, fun x v p q => let ⟨val, e1, e2⟩ := hm x v p q; ⟨val, e1, hv e2⟩⟩
  · obtain ⟨c, val, e1, e2, e3⟩ := X.cel x v p q
    exact ⟨c, val, e1, e2.keeps g.keep, hv e3⟩
  · rcases List.mem_cons.mp hm with hm | hm
    · cases hm; exact ho
    · have := X.own b q hm
      cases q with
      | list xs => obtain ⟨items, n, ho, e⟩ := this; exact ⟨items, n, g.keep _ _ ho, hvs e⟩
      | barr l => exact g.keep _ _ this
  · rw [List.map_cons, List.mem_cons] at hb
    rcases hb with hb | hb
    · dsimp only at hb; subst hb
      cases q : h₀.get? b with
      | none => rfl
      | some o' => have := X.keep b o' q; rw [ha] at this; cases this
    · exact X.ownNew b hb
  · rw [List.map_cons, List.nodup_cons]; exact ⟨hnot, X.apart⟩
  · obtain ⟨o', ho'⟩ := Option.isSome_iff_exists.mp e
    exact hD b o' ho' d

theorem mem_own (o' : PO) (b : Addr) : b ∈ (μ₁ ++ (a, o') :: μ₂).map (·.1) ↔ b ∈ (μ₁ ++ (a, o) :: μ₂).map (·.1) := by simp
theorem Dm_own : Dm F (μ₁ ++ (a, o') :: μ₂) = Dm F (μ₁ ++ (a, o) :: μ₂) := by
  funext b; unfold Dm; rw [propext (mem_own (o := o) o' b)]

/-- an owned object is changed -/
theorem Sx.upd {h' : Heap} {tk : Nat} {cs : Scope} (X : Sx Γ h₀ sc F σ (μ₁ ++ (a, o) :: μ₂) s cs) (hs : Heap.SameBut a s.heap h') (ho : POat (Dm F (μ₁ ++ (a, o) :: μ₂)) h' a o') :
    Sx Γ h₀ sc F σ (μ₁ ++ (a, o') :: μ₂) { s with heap := h', toks := tk } cs ∧ Sp F (μ₁ ++ (a, o) :: μ₂) (μ₁ ++ (a, o') :: μ₂) s { s with heap := h', toks := tk } := by
  have hDa : Dm F (μ₁ ++ (a, o) :: μ₂) a := .inr (by simp)
  have hao := X.own a o (by simp)
  obtain ⟨oa, hoa, hda⟩ : ∃ oa, s.heap.get? a = some oa ∧ ((∃ xs n, oa.data = .seq xs n ∧ oa.cls = .type "list") ∨ ∃ l n, oa.data = .bytearray l n) := by
    cases o with
    | list xs => obtain ⟨items, n, h, _⟩ := hao; exact ⟨_, h, .inl ⟨_, _, rfl, rfl⟩⟩
    | barr l => exact ⟨_, hao, .inr ⟨_, _, rfl⟩⟩
  have hnode : ∀ b o', s.heap.get? b = some o' → Node (Dm F (μ₁ ++ (a, o) :: μ₂)) b o' → h'.get? b = some o' := fun b o' hb hn => (hs.2 b (fun q => by
    subst q
    rw [hoa] at hb; cases hb
    rcases hn with ⟨_, _, hn, hn'⟩ | ⟨hn, _, hn'⟩
    · rcases hn' with hn' | hn'
      · exact hn' hDa
      · rcases hda with ⟨_, _, _, hc⟩ | ⟨_, _, hd⟩
        · rw [hc] at hn'; exact absurd hn' (by decide)
        · rw [hd] at hn; cases hn
    · rcases hda with ⟨_, _, hd, _⟩ | ⟨_, _, hd⟩ <;> (rw [hd] at hn'; cases hn'))).trans hb
  have hv : ∀ {x v}, V (Dm F (μ₁ ++ (a, o) :: μ₂)) s.heap x v → V (Dm F (μ₁ ++ (a, o) :: μ₂)) h' x v := fun e => e.move hnode fun _ _ _ d => d
  have hvs : ∀ {x v}, Vs (Dm F (μ₁ ++ (a, o) :: μ₂)) s.heap x v → Vs (Dm F (μ₁ ++ (a, o) :: μ₂)) h' x v := fun e => e.move hnode fun _ _ _ d => d
  have hnew := X.ownNew a (by simp)
  have hold : ∀ b o', h₀.get? b = some o' → h'.get? b = some o' := fun b o' e => (hs.2 b (fun q => by subst q; rw [hnew] at e; cases e)).trans (X.keep b o' e)
  have hcell : ∀ c v, s.heap.IsCell c v → h'.IsCell c v := fun c v ⟨oc, hoc, hd⟩ => ⟨oc, (hs.2 c (fun q => by
    subst q; rw [hoa] at hoc; cases hoc
    rcases hda with ⟨_, _, hd', _⟩ | ⟨_, _, hd'⟩ <;> (rw [hd'] at hd; cases hd))).trans hoc, hd⟩
  have hnd : (μ₁ ++ (a, o) :: μ₂).map (·.1) = (μ₁ ++ (a, o') :: μ₂).map (·.1) := by simp
  have halive : ∀ b, (s.heap.get? b).isSome → (h'.get? b).isSome := fun b e => by
    by_cases q : b = a
    · subst q
      cases o' with
      | list xs => obtain ⟨items, n, h, _⟩ := ho; rw [h]; rfl
      | barr l => have h : h'.get? b = some (baObj l) := ho; rw [h]; rfl
    · rw [hs.2 b q]; exact e
  have hEq := Dm_own (F := F) (μ₁ := μ₁) (μ₂ := μ₂) (a := a) (o := o) (o' := o')
  have ap := X.apart
  refine ⟨⟨⟨X.ok, fun b o' e => hold b o' (X.baseh b o' e), ?_, fun x v p q => ?_, fun b q hm => ?_, fun b hb => halive b (X.dal b hb)⟩, hold, X.baseh, X.newL, fun x e => let ⟨c, v, a1, a2, a3⟩ := X.cells x e; ⟨c, v, a1, a2, hcell _ _ a3⟩,
    fun x c e => let ⟨v, a3⟩ := X.cellsAll x c e; ⟨v, hcell _ _ a3⟩, X.cellsApart, fun b hb => X.ownNew b (by rw [hnd]; exact hb), X.dold, by rw [← hnd]; exact ap⟩, fun b o' e _ _ h3 => ?_, halive, fun b _ d => by rw [hEq] at d; exact d, rfl, rfl⟩
  · obtain ⟨m, hn, hm⟩ := X.ns
    rw [hEq]
    refine ⟨m, ?_, fun x v p q => let ⟨val, e1, e2⟩ := hm x v p q; ⟨val, e1, hv e2⟩⟩
    obtain ⟨oL, es, ep, hoL, hdL, r⟩ := hn
    refine ⟨oL, es, ep, (hs.2 _ (fun q => ?_)).trans hoL, hdL, r⟩
    rw [q, hoa] at hoL; cases hoL
    rcases hda with ⟨_, _, hd', _⟩ | ⟨_, _, hd'⟩ <;> (rw [hd'] at hdL; cases hdL)
  · obtain ⟨c, val, e1, e2, e3⟩ := X.cel x v p q
    rw [hEq]
    exact ⟨c, val, e1, hcell _ _ e2, hv e3⟩
  · rw [hEq]
    have hother : b ≠ a → (b, q) ∈ μ₁ ++ (a, o) :: μ₂ → POat (Dm F (μ₁ ++ (a, o) :: μ₂)) h' b q := fun hba hm => by
      have := X.own b q hm
      cases q with
      | list xs => obtain ⟨items, n, h, e⟩ := this; exact ⟨items, n, (hs.2 b hba).trans h, hvs e⟩
      | barr l => exact (hs.2 b hba).trans this
    have ap' : (List.map (·.1) μ₁ ++ a :: List.map (·.1) μ₂).Nodup := by simpa using ap
    rw [List.nodup_append] at ap'
    obtain ⟨n1, n2, n3⟩ := ap'
    rw [List.nodup_cons] at n2
    rcases List.mem_append.mp hm with hm | hm
    · have hb1 : b ∈ List.map (·.1) μ₁ := List.mem_map.mpr ⟨_, hm, rfl⟩
      exact hother (fun q => n3 b hb1 a List.mem_cons_self q) (List.mem_append.mpr (.inl hm))
    · rcases List.mem_cons.mp hm with hm | hm
      · cases hm; exact ho
      · have hb2 : b ∈ List.map (·.1) μ₂ := List.mem_map.mpr ⟨_, hm, rfl⟩
        exact hother (fun q => n2.1 (q ▸ hb2)) (List.mem_append.mpr (.inr (List.mem_cons_of_mem _ hm)))
  · exact (hs.2 b (fun q => h3 (q ▸ hDa))).trans e

/-- an owned list is done with: it is a plain value -/
theorem Dm_less (b : Addr) (d : Dm F (μ₁ ++ μ₂) b) : Dm F (μ₁ ++ (a, o) :: μ₂) b := by
  rcases d with d | d
  · exact .inl d
  · refine .inr ?_
    simp only [List.map_append, List.mem_append, List.map_cons, List.mem_cons] at d ⊢
    rcases d with d | d
    · exact .inl d
    · exact .inr (.inr d)
theorem Sx.notOwn (X : Sx Γ h₀ sc F σ (μ₁ ++ (a, o) :: μ₂) s) : ¬ Dm F (μ₁ ++ μ₂) a := by
  rintro (d | d)
  · have := X.dold a d; rw [X.ownNew a (by simp)] at this; cases this
  · have ap' : (List.map (·.1) μ₁ ++ a :: List.map (·.1) μ₂).Nodup := by simpa using X.apart
    rw [List.nodup_append] at ap'
    obtain ⟨n1, n2, n3⟩ := ap'
    rw [List.nodup_cons] at n2
    rw [List.map_append, List.mem_append] at d
    rcases d with d | d
    · exact n3 a d a List.mem_cons_self rfl
    · exact n2.1 d
theorem Sx.drop (X : Sx Γ h₀ sc F σ (μ₁ ++ (a, o) :: μ₂) s) : Sx Γ h₀ sc F σ (μ₁ ++ μ₂) s where
  ok := X.ok
  base := X.base
  ns := let ⟨m, hn, hm⟩ := X.ns; ⟨m, hn, fun x v p q => let ⟨val, e1, e2⟩ := hm x v p q; ⟨val, e1, e2.less fun b _ _ d => Dm_less b d⟩⟩
  cel := fun x v p q => let ⟨c, val, e1, e2, e3⟩ := X.cel x v p q; ⟨c, val, e1, e2, e3.less fun b _ _ d => Dm_less b d⟩
  own := fun b q hm => by
    have := X.own b q (by rcases List.mem_append.mp hm with hm | hm <;> simp [hm])
    cases q with
    | list xs => obtain ⟨items, n, h, e⟩ := this; exact ⟨items, n, h, e.less fun b _ _ d => Dm_less b d⟩
    | barr l => exact this
  dal := X.dal
  keep := X.keep
  baseh := X.baseh
  newL := X.newL
  cells := X.cells
  cellsAll := X.cellsAll
  cellsApart := X.cellsApart
  ownNew := fun b hb => X.ownNew b (by simp only [List.map_append, List.mem_append, List.map_cons, List.mem_cons] at hb ⊢; rcases hb with hb | hb <;> simp [hb])
  dold := X.dold
  apart := by
    have ap' : (List.map (·.1) μ₁ ++ a :: List.map (·.1) μ₂).Nodup := by simpa using X.apart
    rw [List.map_append]
    exact ap'.sublist (List.Sublist.append (List.Sublist.refl _) (List.sublist_cons_self _ _))
theorem Sp.drop : Sp F (μ₁ ++ (a, o) :: μ₂) (μ₁ ++ μ₂) s s := ⟨fun _ _ e _ _ _ => e, fun _ e => e, fun b _ d => Dm_less b d, rfl, rfl⟩

theorem Sx.set {x : Str} {v : PV} (X : Sx Γ h₀ sc F σ μ s)
    (h1 : sc.names.lookup x = some .local → ∀ m, s.heap.Ns F.L m → (∀ y w, σ.lookup y = some w → sc.names.lookup y = some .local → ∃ val, m y = some val ∧ V (Dm F μ) s.heap w val) → ∃ val, m x = some val ∧ V (Dm F μ) s.heap v val)
    (h2 : (sc.names.lookup x = some .cell ∨ sc.names.lookup x = some .free) → ∃ c val, F.cl.lookup x = some c ∧ s.heap.IsCell c (some val) ∧ V (Dm F μ) s.heap v val) : Sx Γ h₀ sc F ((x, v) :: σ) μ s :=
  { X with
    ns := by
      obtain ⟨m, hn, hm⟩ := X.ns
      refine ⟨m, hn, fun y w p q => ?_⟩
      by_cases e : y = x
      · subst e; rw [lookup_cons_self] at p; cases p; exact h1 q m hn hm
      · rw [lookup_cons_ne e] at p; exact hm y w p q
    cel := fun y w p q => by
      by_cases e : y = x
      · subst e; rw [lookup_cons_self] at p; cases p; exact h2 q
      · rw [lookup_cons_ne e] at p; exact X.cel y w p q }
theorem Sx.freeze {x : Str} {xs : List PV} (X : Sx Γ h₀ sc F σ (μ₁ ++ (a, .list xs) :: μ₂) s) (hx : σ.lookup x = some (.ref a)) : Sx Γ h₀ sc F ((x, .lst xs) :: σ) (μ₁ ++ μ₂) s := by
  have hv : V (Dm F (μ₁ ++ μ₂)) s.heap (.lst xs) (.ref a) := by
    obtain ⟨items, n, h, e⟩ := X.own a (.list xs) (by simp)
    exact V_lst.mpr ⟨a, items, rfl, X.notOwn, ⟨_, h, rfl, n, rfl⟩, e.less fun b _ _ d => Dm_less b d⟩
  refine X.drop.set (fun hl m hn hm => ?_) (fun hl => ?_)
  · obtain ⟨val, e1, e2⟩ := hm x _ hx hl
    rw [V_ref] at e2; subst e2
    exact ⟨_, e1, hv⟩
  · obtain ⟨c, val, e1, e2, e3⟩ := X.drop.cel x _ hx hl
    rw [V_ref] at e3; subst e3
    exact ⟨c, _, e1, e2, hv⟩
theorem Xs.freeze {x : Str} {xs : List PV} {sts : List Stmt} (hx : σ.lookup x = some (.ref a)) (h : Xs Γ k sc ((x, .lst xs) :: σ) (μ₁ ++ μ₂) sts P) : Xs Γ k sc σ (μ₁ ++ (a, .list xs) :: μ₂) sts P :=
  fun A n F h₀ s Q E hn hA X hQ => h A n F h₀ s Q E hn hA (X.freeze hx) fun fl σ' μ' f s' hP X' sp hf => hQ fl σ' μ' f s' hP X' (Sp.drop.trans sp) hf
theorem Xs.freeze0 {x : Str} {xs : List PV} {sts : List Stmt} (hx : σ.lookup x = some (.ref a)) (h : Xs Γ k sc ((x, .lst xs) :: σ) μ₂ sts P) : Xs Γ k sc σ ((a, .list xs) :: μ₂) sts P :=
  Xs.freeze (μ₁ := []) hx h

/-- a fresh object -/
def EvN (Γ : Cx) (k : Nat) (sc : Scope) (σ : Loc) (μ : Own) (e : Expr) (o : PO) : Prop :=
  ∀ (A : Around) (n : Nat) (F : Fm) (s : Shared) (Q : Value → Shared → Prop) (E : Value → Shared → Prop), n + k ≤ 8 → Lv n A → St Γ sc F σ μ s →
    (∀ a s', Gr s s' → s.heap.get? a = none → POat (Dm F ((a, o) :: μ)) s'.heap a o → Q (.ref a) s') → wpR Γ.M A (eval e (F.env sc)) Q E s

theorem X1.own {x : Str} {p' : Pos} {e : Expr} {o : PO} (he : EvN Γ k sc σ μ e o) (h : ∀ a, a ∉ μ.map (·.1) → P .next ((x, .ref a) :: σ) ((a, o) :: μ)) (hl : isPlace (sc.names.lookup x) = true := by decide +kernel) (hk : sc.kind = .function := by kernel_rfl)
    (hs : ∀ F : Fm, swapsWith e (some (.Name x p')) pos.line (F.env sc) = pure false := by intro _; kernel_rfl) : X1 Γ k sc σ μ (.Assign [.Name x p'] e pos) P := by
  intro A n F h₀ s Q E hn hA X hQ
  refine wpR_Assign_Name (he A n F s _ _ hn hA X.toSt fun a s₁ g ha ho => ?_) (hs F)
  obtain ⟨X₁, sp₁⟩ := X.own' g ha ho
  have hnot : a ∉ μ.map (·.1) := fun d => by have := X.toSt.dom a (.inr d); rw [ha] at this; cases this
  exact toR (X₁.store (V_ref.mpr rfl) hl hk fun s₂ X₂ sp₂ _ => hQ .next _ _ _ s₂ (h a hnot) X₂ (sp₁.trans sp₂) rfl)

theorem Vs.ownPush {h h' : Heap} {xs : List PV} {vs : List Value} (e : Vs (Dm F μ) h xs vs) (ha : h.get? a = none) (hk : Kp h h') : Vs (Dm F ((a, o) :: μ)) h' xs vs :=
  e.move (fun b o hb _ => hk b o hb) fun b o' hb d => by
    rcases d with d | d
    · exact .inl d
    · rw [List.map_cons, List.mem_cons] at d
      rcases d with d | d
      · dsimp only at d; subst d; rw [ha] at hb; cases hb
      · exact .inr d
theorem EvN.list {es : List Expr} {vs : List PV} (h : Es Γ k sc σ μ pos es vs) (hs : vs.length ≤ 1000) : EvN Γ k sc σ μ (.List es pos) (.list vs) := by
  intro A n F s Q E hn hA st hQ
  refine wpR_List (h A n F s _ _ hn hA st fun vals s₁ g₁ hv => ⟨?_, hQ _ _ (g₁.trans (Gr.heap _ (Kp.push _ _))) ?_ ?_⟩)
  · have := hv.length; rw [sizeLine_eq]; omega
  · cases q : s.heap.get? s₁.heap.objs.size with
    | none => rfl
    | some o => have := g₁.keep _ _ q; rw [fresh_addr] at this; cases this
  · exact ⟨vals.toArray, _, Heap.get?_push_size _ rfl, by simpa using hv.ownPush (fresh_addr _) (Kp.push _ _)⟩

/-- a call that makes an object -/
def CallN (Γ : Cx) (f : Value) (args : List PV) (o : PO) : Prop :=
  ∀ (A : Around) (n : Nat) (D : Addr → Prop) (s : Shared) (vals : List Value) (Q : Value → Shared → Prop) (E : Value → Shared → Prop), n ≤ 8 → Lv n A → Γ.Ok → Kp Γ.B s.heap →
    Vs D s.heap args vals → (∀ b, D b → (s.heap.get? b).isSome) → (∀ a s', Gr s s' → s.heap.get? a = none → (∀ D' : Addr → Prop, (∀ b, D' b → D b ∨ b = a) → POat D' s'.heap a o) → Q (.ref a) s') → wpR Γ.M A (call f vals) Q E s
theorem EvN.call {x : Str} {p : Pos} {args : List Expr} {f : Value} {vs : List PV} {o : PO} (hf : Ev Γ k sc σ μ (.Name x p) (.obj f)) (hkp : KeepOk Γ f) (ha : Es Γ k sc σ μ pos args vs) (hc : CallN Γ f vs o)
    (hp : args.any isStarred = false := by kernel_rfl) : EvN Γ k sc σ μ (.Call (.Name x p) args [] pos) o := by
  intro A n F s Q E hn hA st hQ
  refine wpR_CallName (hf A n F s _ _ hn hA st fun fv s₁ g₁ hfv => ?_)
  rw [V_obj] at hfv; subst hfv
  refine wpR_callWith (P := fun h => Kp Γ.B h) (starEach_plain_any args hp) hkp ?_
  refine wpR_evalArgs hp (ha A n F s₁ _ _ hn hA (st.grow g₁) fun vals s₂ g₂ hvs => ?_)
  have st₂ := (st.grow g₁).grow g₂
  refine ⟨st₂.base, ?_⟩
  show wpR _ _ (PySem.call fv ([] ++ vals) []) Q E s₂
  refine hc A n (Dm F μ) s₂ vals Q E (by omega) hA st.ok st₂.base hvs st₂.dom fun a s₃ g₃ ha hv => hQ a s₃ ((g₁.trans g₂).trans g₃) ?_ (hv _ fun b d => ?_)
  · cases q : s.heap.get? a with
    | none => rfl
    | some o => have := (g₁.trans g₂).keep _ _ q; rw [ha] at this; cases this
  · rcases d with d | d
    · exact .inl (.inl d)
    · rw [List.map_cons, List.mem_cons] at d
      rcases d with d | d
      · exact .inr d
      · exact .inl (.inr d)
theorem CallN.bytearray : CallN Γ (.type "bytearray") [] (.barr []) := by
  intro A n D s vals Q E _ hA ok hB hv hD hQ
  rw [Vs_nil] at hv; subst hv
  exact call_ba hA.guards fun h' hk ha => hQ _ _ (Gr.heap _ hk) (fresh_addr _) fun D' _ => ha

/-! ### methods that change an owned object -/
def POt : PO → String
  | .list _ => "list"
  | .barr _ => "bytearray"
def MethOk (Γ : Cx) (id : String) (o : PO) (args : List PV) (o' : PO) : Prop :=
  ∀ (A : Around) (n : Nat) (D : Addr → Prop) (s : Shared) (a : Addr) (vals : List Value) (Q : Value → Shared → Prop) (E : Value → Shared → Prop), n ≤ 8 → Lv n A → Γ.Ok → Kp Γ.B s.heap →
    POat D s.heap a o → D a → Vs D s.heap args vals → (∀ b, D b → (s.heap.get? b).isSome) →
    (∀ h' tk, Heap.SameBut a s.heap h' → POat D h' a o' → Q .none { s with heap := h', toks := tk }) → wpR Γ.M A (call (.builtin id) (.ref a :: vals)) Q E s
theorem POat.typeIs {D : Addr → Prop} (h : POat D s.heap a o) : s.TypeIs (.ref a) (POt o) ∧ ∃ ob, s.heap.get? a = some ob ∧ ob.dict = none := by
  cases o with
  | list xs => obtain ⟨items, n, h, _⟩ := h; exact ⟨⟨_, h, rfl⟩, _, h, rfl⟩
  | barr l => exact ⟨⟨_, h, rfl⟩, _, h, rfl⟩

theorem wpR_Call_method {prog : Program} {w : World} {E : Value → Shared → Prop} {env : Env} {o : Expr} {name : Str} {apos pos : Pos} {args : List Expr} {T id : String} {Q : Value → Shared → Prop}
    (hbase : attributeBase o name env (eval o env) = eval o env)
    (hform : methodCallForm (args.length + ([] : List Keyword).length) (backTo pos (starEach args env)) (backToKw pos (keywordEach [] env)) = true)
    (hline : methodCallPos true o env apos pos = pure pos)
    (pa : PlainAttrs T) (slot : Slot T name id) (hty : typeOf (.builtin id) = pure (.type "method_descriptor"))
    (h : wpR (model prog w) A (eval o env) (fun ov s₁ => s₁.TypeIs ov T ∧ (∀ a, ov = .ref a → ∃ ob, s₁.heap.get? a = some ob ∧ ob.dict = none) ∧
      wpR (model prog w) A (callWith pos (.builtin id) [ov] (backTo pos (starEach args env)) []) Q E s₁) E s) :
    wpR (model prog w) A (eval (.Call (.Attribute o name apos) args [] pos) env) Q E s := by
  rw [arm_eval_Call, hbase]
  refine wpR_bind (wpR_mono h (fun ov s₁ h₁ => ?_) fun _ _ e => e)
  obtain ⟨hT, hd, hc⟩ := h₁
  refine wpR_bind (wpR_standAt ?_)
  unfold methodCall
  rw [hform]
  refine wpR_bind (wpR_holding (toR (getMethod_builtin hT pa slot hty hd ?_)))
  exact wpR_bind (toR (wpAny_of_eq hline hc))
theorem form_plain {env : Env} {pos : Pos} {args : List Expr} (hp : args.any isStarred = false) (hn : args.length < 30) :
    methodCallForm (args.length + ([] : List Keyword).length) (backTo pos (starEach args env)) (backToKw pos (keywordEach [] env)) = true := by
  unfold methodCallForm
  have h1 := starEach_plain_any (env := env) (pos := pos) args hp
  have h2 : (backTo pos (starEach args env)).all (fun x => !x.1) = true := by
    rw [List.all_eq_true]
    intro x hx
    have := List.any_eq_false.mp h1 x hx
    simpa using this
  rw [h2]
  show (true && true && decide (args.length + 0 + 0 < 30)) = true
  simp [hn]

theorem X1.meth {x name : Str} {p ap ep : Pos} {args : List Expr} {vs : List PV} {id : String} (hx : σ.lookup x = some (.ref a)) (ha : Es Γ k sc σ (μ₁ ++ (a, o) :: μ₂) pos args vs) (hc : MethOk Γ id o vs o')
    (pa : PlainAttrs (POt o)) (slot : Slot (POt o) name id) (hty : typeOf (.builtin id) = pure (.type "method_descriptor")) (h : P .next σ (μ₁ ++ (a, o') :: μ₂))
    (hl : isVar (sc.names.lookup x) = true := by decide +kernel) (hk : sc.kind = .function := by kernel_rfl) (hd : (x == ("__debug__" : Str)) = false := by decide +kernel) (hcd : (x == ("__classdict__" : Str)) = false := by decide +kernel)
    (hp : args.any isStarred = false := by kernel_rfl) (hn30 : args.length < 30 := by decide +kernel)
    (hline : ∀ F : Fm, methodCallPos true (.Name x p) (F.env sc) ap pos = pure pos := by intro _; kernel_rfl)
    (hi : ∀ F : Fm, interactive (F.env sc) = false := by intro _; kernel_rfl)
    (hs : ∀ F : Fm, swapsWith (.Call (.Attribute (.Name x p) name ap) args [] pos) none ep.line (F.env sc) = pure false := by intro _; kernel_rfl) :
    X1 Γ k sc σ (μ₁ ++ (a, o) :: μ₂) (.Expr (.Call (.Attribute (.Name x p) name ap) args [] pos) ep) P := by
  intro A n F h₀ s Q E hn hA X hQ
  rw [exec_Expr _ _ _ (hi F) (hs F)]
  refine wpR_bind (wpR_standAt (wpR_bind (wpR_Call_method rfl (form_plain hp hn30) (hline F) pa slot hty ?_)))
  refine Ev.name (k := k) hx hl hk hd hcd A n F s _ _ hn hA X.toSt fun ov s₁ g₁ hov => ?_
  rw [V_ref] at hov; subst hov
  have X₁ := X.grow g₁
  have ho₁ := X₁.own a o (by simp)
  refine ⟨(POat.typeIs ho₁).1, fun b e => by cases e; exact (POat.typeIs ho₁).2, ?_⟩
  refine wpR_callWith (P := fun h => Kp Γ.B h) (starEach_plain_any args hp) (KeepOk.builtin) ?_
  refine wpR_evalArgs hp (ha A n F s₁ _ _ hn hA X₁.toSt fun vals s₂ g₂ hvs => ?_)
  have X₂ := X₁.grow g₂
  refine ⟨X₂.base, ?_⟩
  show wpR _ _ (PySem.call (.builtin id) ([.ref a] ++ vals) []) _ E s₂
  refine hc A n _ s₂ a vals _ E (by omega) hA X.ok X₂.base (X₂.own a o (by simp)) (.inr (by simp)) hvs X₂.toSt.dom fun h' tk hs' ho' => ?_
  obtain ⟨X₃, sp₃⟩ := X₂.upd (tk := tk) hs' ho'
  exact toR (wpAny_dropValue (hQ .next σ _ _ _ h X₃ ((Sp.gr (g₁.trans g₂)).trans sp₃) rfl))

theorem MethOk.ba_append {l : List UInt8} {i : Int} (h0 : 0 ≤ i) (h1 : i < 256) (hz : l.length < 2 ^ 20) : MethOk Γ "bytearray.append" (.barr l) [.int i] (.barr (l ++ [i.toNat.toUInt8])) := by
  intro A n D s a vals Q E _ hA ok hB ha hDa hv hD hQ
  rw [Vs_cons] at hv
  obtain ⟨v, r, rfl, hv, hr⟩ := hv
  rw [Vs_nil] at hr; subst hr
  obtain ⟨t, rfl⟩ := V_int.mp hv
  have ha' : s.heap.get? a = some (baObj l) := ha
  refine wpR_call (codeR_call_builtin (by kernel_rfl) F.ba_slot_append.plain F.ba_entry_append (F.ba_slot_append.check _ _ _ _ _ _ _ _ (typeIs_ba ha') (F.ba_args_append _ _) ?_))
  show wpR _ _ (Builtin.Bytes.byteValue (.int i t) >>= fun c => Builtin.Bytes.checkResize (.ref a) >>= fun _ => Builtin.Bytes.write (.ref a) (·.push c) >>= fun _ => ret .none) _ _ _
  have hb : Builtin.Bytes.byteValue (.int i t) = pure i.toNat.toUInt8 := by
    show (do
      if i < 0 || i ≥ 256 then rule "bytes.byte-out-of-range"; raiseError "ValueError" "byte must be in range(0, 256)"
      return i.toNat.toUInt8) = _
    have : (decide (i < 0) || decide (i ≥ 256)) = false := by simp; omega
    rw [this]; rfl
  refine wpR_bind (toR (wpAny_of_eq hb ?_))
  refine wpR_bind (wpR_checkResize hA.guards ha' ?_)
  refine wpR_bind (toR (wpAny_write (l' := l ++ [i.toNat.toUInt8]) ha' (by simp) (by rw [sizeLine_eq]; simp; omega) fun h' hs' ha2 => ?_))
  exact wpR_pure (hQ h' s.toks hs' ha2)
theorem MethOk.list_append {xs : List PV} {v : PV} (hz : xs.length < 2 ^ 20) : MethOk Γ "list.append" (.list xs) [v] (.list (xs ++ [v])) := by
  intro A n D s a vals Q E _ hA ok hB ha hDa hv hD hQ
  rw [Vs_cons] at hv
  obtain ⟨val, r, rfl, hv, hr⟩ := hv
  rw [Vs_nil] at hr; subst hr
  obtain ⟨items, m, ho, e⟩ := ha
  have hlen : items.size = xs.length := by simpa using e.length
  have hnode : ∀ (h' : Heap), Heap.SameBut a s.heap h' → ∀ b o', s.heap.get? b = some o' → Node D b o' → h'.get? b = some o' := fun h' hs b o' hb hn => (hs.2 b (fun q => by
    subst q; rw [ho] at hb; cases hb
    rcases hn with ⟨_, _, _, hn | hn⟩ | ⟨hn, _⟩
    · exact hn hDa
    · exact absurd hn (by show Value.type "list" ≠ Value.type "tuple"; decide)
    · exact absurd hn (by show Value.type "list" ≠ Value.type "range"; decide))).trans hb
  refine toR (wpAny_call_entry slot_list_append ⟨_, ho, rfl⟩ entry_list_append ?_ (args_list_append _ _))
  show wpAny _ _ (updateSeq a (·.push val) >>= fun _ => ret .none) _ _ s
  refine wpAny_bind (wpAny_updateSeq (hz := by rw [hlen, sizeLine_eq]; omega) ho rfl (wpAny_pure ⟨.none, rfl, ?_⟩))
  have hs : Heap.SameBut a s.heap (s.heap.update a (Obj.mapSeq (·.push val))) := Heap.SameBut.update ..
  refine hQ _ s.toks hs ⟨items.push val, _, Heap.get?_update_self _ ho rfl, ?_⟩
  rw [Array.toList_push]
  exact (e.move (hnode _ hs) fun _ _ _ d => d).append (Vs_cons.mpr ⟨val, [], rfl, hv.move (hnode _ hs) (fun _ _ _ d => d), Vs_nil.mpr rfl⟩)

/-! ### bytes of a bytearray -/
theorem wpAny_slotIsOwn_ba {M : Model} {E : Value → Shared → Prop} {Q : Bool → Shared → Prop} {v : Value} (hT : s.TypeIs v "bytearray") (h : Q true s) : wpAny M A (Builtin.Bytes.slotIsOwn v "__buffer__") Q E s :=
  wpAny_slotIsOwn hT F.ba_buffer (by decide +kernel) (by rw [isSubtype_type]; kernel_rfl) h
theorem wpAny_slotIsOwn_b {M : Model} {E : Value → Shared → Prop} {Q : Bool → Shared → Prop} {v : Value} (hT : s.TypeIs v "bytes") (h : Q true s) : wpAny M A (Builtin.Bytes.slotIsOwn v "__buffer__") Q E s :=
  wpAny_slotIsOwn hT F.b_buffer (by decide +kernel) (by rw [isSubtype_type]; kernel_rfl) h
theorem wpAny_buffer_ba {M : Model} {E : Value → Shared → Prop} {id : String} {full : Bool} {l : List UInt8} {Q : Option (Array UInt8) → Shared → Prop} (ha : s.heap.get? a = some (baObj l)) (h : Q (some l.toArray) s) : wpAny M A (Builtin.Bytes.buffer? id (.ref a) full) Q E s := by
  unfold Builtin.Bytes.buffer?
  refine wpAny_bind (wpAny_specialOf (typeIs_ba ha) F.ba_buffer ?_)
  dsimp only
  refine wpAny_bind (wpAny_slotIsOwn_ba (typeIs_ba ha) ?_)
  simp only [Bool.not_true, Bool.false_eq_true, if_false]
  refine wpAny_bind (wpAny_specialOf (typeIs_ba ha) F.ba_buffer ?_)
  refine wpAny_bind (wpAny_ownRelease_ba (typeIs_ba ha) ?_)
  simp only [Bool.false_eq_true, if_false]
  exact wpAny_bind (wpAny_payload_ba ha (wpAny_pure h))
theorem wpAny_buffer_b {M : Model} {E : Value → Shared → Prop} {id : String} {full : Bool} {b : Array UInt8} {t : Tok} {Q : Option (Array UInt8) → Shared → Prop} (h : Q (some b) s) : wpAny M A (Builtin.Bytes.buffer? id (.bytes b t) full) Q E s := by
  unfold Builtin.Bytes.buffer?
  refine wpAny_bind (wpAny_specialOf (typeIs_bytes s b t) F.b_buffer ?_)
  dsimp only
  refine wpAny_bind (wpAny_slotIsOwn_b (typeIs_bytes s b t) ?_)
  simp only [Bool.not_true, Bool.false_eq_true, if_false]
  refine wpAny_bind (wpAny_specialOf (typeIs_bytes s b t) F.b_buffer ?_)
  refine wpAny_bind (wpAny_ownRelease_b (typeIs_bytes s b t) ?_)
  simp only [Bool.false_eq_true, if_false]
  exact wpAny_bind (wpAny_pure (wpAny_pure h))

theorem bm_new_ba {prog : Program} {w : World} {E : Value → Shared → Prop} {l : List UInt8} {Q : Value → Shared → Prop} (ha : s.heap.get? a = some (baObj l)) (hz : l.length ≤ sizeLine)
    (hQ : ∀ t k, Q (.bytes l.toArray t) { s with toks := k }) :
    codeAny (model prog w) A (.call (.builtin "bytes.__new__") ⟨[.type "bytes", .ref a], []⟩) (wants Q E) s := by
  refine codeAny_of_tree ?_
  show wpAny _ A.in1 (do checkBuiltinCall "bytes.__new__" ⟨[.type "bytes", .ref a], []⟩; again (.builtin "bytes.__new__" ⟨[.type "bytes", .ref a], []⟩)) _ _ s
  refine wpAny_bind (wpAny_of_eq (PySem.F.bm_newCall _) (wpAny_pure ⟨plainId_quiet PySem.F.bm_plain _, codeAny_builtin PySem.F.bm_entry ?_⟩))
  rw [Around.under_plainId PySem.F.bm_plain _]
  have hT := typeIs_ba ha
  unfold Builtin.«bytes.__new__»
  refine wpAny_bind (wpAny_of_eq (a := true) rfl ?_)
  refine bm_if_false rfl ?_
  refine wpAny_bind (wpAny_of_eq PySem.F.bm_sub ?_)
  refine bm_if_false rfl ?_
  refine wpAny_bind (wpAny_of_eq (PySem.F.bm_bind _) ?_)
  refine wpAny_bind (wpAny_of_eq (a := ()) rfl ?_)
  refine wpAny_bind (wpAny_of_eq (a := ()) rfl ?_)
  refine bm_if_false rfl ?_
  refine wpAny_bind (wpAny_specialOf hT F.ba_no_bytes ?_)
  refine wpAny_bind (wpAny_bind ?_)
  show wpAny _ _ (load a >>= _) _ _ _
  refine wpAny_bind (wpAny_load ha ?_)
  refine wpAny_pure (wpAny_pure ?_)
  refine bm_if_false rfl ?_
  refine wpAny_bind (wpAny_specialOf hT F.ba_no_index ?_)
  refine bm_if_true rfl ?_
  first
    | refine wpAny_bind (wpAny_buffer_ba ha ?_)
    | refine wpAny_bind (wpAny_bind (wpAny_buffer_ba ha ?_))
  refine wpAny_bind (wpAny_rule ?_)
  refine wpAny_bind (wpAny_mkBytes ?_ (by simpa using hz))
  show wpAny _ _ (if (Value.type "bytes" == Value.type "bytes") = true then _ else _) _ _ _
  refine bm_if_true (by decide) ?_
  exact wpAny_pure (hQ _ _)
theorem call_bytes_ba {prog : Program} {w : World} {E : Value → Shared → Prop} {l : List UInt8} {Q : Value → Shared → Prop} (ha : s.heap.get? a = some (baObj l)) (hz : l.length ≤ sizeLine)
    (hQ : ∀ t k, Q (.bytes l.toArray t) { s with toks := k }) : wpAny (model prog w) A (call (.type "bytes") [.ref a]) Q E s := by
  refine callType_codes (Q₁ := fun obj s₁ => s₁.TypeIs obj "bytes" ∧ Q obj s₁) PySem.F.bm_called (PySem.F.bm_typeCall _) PySem.F.entry_object_init
    (bm_new_ba ha hz fun t k => ⟨PySem.W.typeIs_bytes _ _ _, hQ t k⟩) fun obj s₁ h₁ => ?_
  exact ⟨h₁.1, PySem.F.args_object_init_2 obj _, object_init_meets PySem.F.bm_called.init.lookup PySem.F.bm_called.made (by decide) prog w A.in1 _ s₁ ⟨h₁.1, rfl, h₁.2⟩⟩

/-- bytes(x) of an owned bytearray -/
theorem Ev.bytesOf {x y : Str} {p p' : Pos} {l : List UInt8} (hf : Ev Γ k sc σ (μ₁ ++ (a, .barr l) :: μ₂) (.Name x p) (.obj (.type "bytes"))) (hy : σ.lookup y = some (.ref a)) (hz : l.length < 2 ^ 20)
    (hl : isVar (sc.names.lookup y) = true := by decide +kernel) (hk : sc.kind = .function := by kernel_rfl) (hd : (y == ("__debug__" : Str)) = false := by decide +kernel) (hcd : (y == ("__classdict__" : Str)) = false := by decide +kernel) :
    Ev Γ k sc σ (μ₁ ++ (a, .barr l) :: μ₂) (.Call (.Name x p) [.Name y p'] [] pos) (.bytes l) := by
  intro A n F s Q E hn hA st hQ
  refine wpR_CallName (hf A n F s _ _ hn hA st fun fv s₁ g₁ hfv => ?_)
  rw [V_obj] at hfv; subst hfv
  refine wpR_callWith (P := fun h => Kp Γ.B h) (starEach_plain_any _ rfl) KeepOk.type ?_
  refine wpR_evalArgs rfl (Es.cons (Ev.name (k := k) hy hl hk hd hcd) Es.nil (fun _ => rfl) A n F s₁ _ _ hn hA (st.grow g₁) fun vals s₂ g₂ hvs => ?_)
  have st₂ := (st.grow g₁).grow g₂
  refine ⟨st₂.base, ?_⟩
  rw [Vs_cons] at hvs
  obtain ⟨v, r, rfl, hv, hr⟩ := hvs
  rw [Vs_nil] at hr; subst hr
  rw [V_ref] at hv; subst hv
  show wpR _ _ (PySem.call (.type "bytes") [.ref a] []) Q E s₂
  exact toR (call_bytes_ba (st₂.own a (.barr l) (by simp)) (by rw [sizeLine_eq]; omega) fun t tk => hQ _ _ ((g₁.trans g₂).trans (Gr.toks tk)) (V.bytes _ _))
theorem Op2.itemB {l : List UInt8} {i : Int} (h0 : 0 ≤ i) (h1 : i < l.length) (hz : l.length < 2 ^ 20) : Op2 Γ getItem (.bytes l) (.int i) (.int (l.getD i.toNat 0).toNat) := by
  intro A n D s x y Q E _ _ _ _ hv hy _ hQ
  obtain ⟨t, rfl⟩ := V_bytes.mp hv
  obtain ⟨u, rfl⟩ := V_int.mp hy
  exact getItem_bytes (by omega) h0 h1 (hQ _ _ (Gr.toks _) (V.int _ _))
theorem Truth.int {i : Int} : Truth Γ (.int i) (i != 0) := by
  intro A n D s x Q E _ _ _ hx hQ
  obtain ⟨t, rfl⟩ := V_int.mp hx
  exact PyProof.Rows.truthy_int (hQ s (Gr.refl s))
end
end Mine

set_option maxRecDepth 100000
namespace Mine

section
variable {Γ : Cx} {k : Nat} {sc : Scope} {σ : Loc} {μ : Own} {pos : Pos}

/-! ### slices -/
def cutL {α : Type} (l : List α) (lo hi : Option Int) : List α := (l.drop (lo.elim 0 (clipAt l.length))).take (hi.elim l.length (clipAt l.length) - lo.elim 0 (clipAt l.length))
/-! ### equality of bytes, and membership -/
end
end Mine

set_option maxRecDepth 100000
namespace Mine

/-! ## list comprehensions -/

def inSc (sc cs : Scope) : Scope := { cs with names := cs.names.map fun (n, k) => if k == .free && sc.kind == .function && sc.names.lookup n == some .cell then (n, .cell) else (n, k) }

def closL (cells : List (Str × Addr)) : List (Str × NameKind) → List (Str × Addr) → List (Str × Addr)
  | [], acc => acc
  | (n, k) :: r, acc => closL cells r (if k == .free then (n, (cells.lookup n).getD 0) :: acc else acc)

theorem closureFor_eq {scope : Scope} {env : Env} (h : ∀ x ∈ scope.names, x.2 = .free → (env.cells.lookup x.1).isSome) : closureFor scope env = pure (closL env.cells scope.names []) := by
  have key : ∀ (l : List (Str × NameKind)) (acc : List (Str × Addr)), (∀ x ∈ l, x.2 = .free → (env.cells.lookup x.1).isSome) →
      (forIn l acc fun x r => if (x.2 == .free) = true then do let c ← cellOf env x.1; pure (ForInStep.yield ((x.1, c) :: r)) else pure (ForInStep.yield r) : Sem (List (Str × Addr))) = pure (closL env.cells l acc) := by
    intro l
    induction l with
    | nil => intro acc _; rfl
    | cons x l ih =>
      intro acc hx
      obtain ⟨n, k⟩ := x
      rw [List.forIn_cons]
      have ih' := fun acc => ih acc fun x hm => hx x (List.mem_cons_of_mem _ hm)
      by_cases hk : k = .free
      · subst hk
        obtain ⟨c, hc⟩ := Option.isSome_iff_exists.mp (hx (n, .free) List.mem_cons_self rfl)
        have : cellOf env n = pure c := by unfold cellOf; rw [hc]
        simp only [beq_self_eq_true, if_true, this]
        simp only [closL, beq_self_eq_true, if_true, hc, Option.getD_some]
        exact ih' _
      · have hb : (k == NameKind.free) = false := by simpa using hk
        simp only [hb, Bool.false_eq_true, if_false, closL]
        exact ih' _
  have := key scope.names [] h
  unfold closureFor
  simp only [bind_pure]
  exact this

theorem closL_has (cells : List (Str × Addr)) : ∀ (l : List (Str × NameKind)) (acc : List (Str × Addr)) (n : Str), ((n, NameKind.free) ∈ l ∨ acc.lookup n = some ((cells.lookup n).getD 0)) → (closL cells l acc).lookup n = some ((cells.lookup n).getD 0)
  | [], acc, n, h => by
    rcases h with h | h
    · cases h
    · exact h
  | (m, k) :: r, acc, n, h => by
    rw [closL]
    refine closL_has cells r _ n ?_
    by_cases hk : k = .free
    · subst hk
      simp only [beq_self_eq_true, if_true]
      by_cases hm : n = m
      · subst hm; right; rw [List.lookup_cons]; simp
      · have : (n == m) = false := beq_eq_false_iff_ne.mpr hm
        rw [List.lookup_cons, this]
        rcases h with h | h
        · rcases List.mem_cons.mp h with h | h
          · cases h; exact absurd rfl hm
          · exact .inl h
        · exact .inr h
    · have hb : (k == NameKind.free) = false := by simpa using hk
      simp only [hb, Bool.false_eq_true, if_false]
      rcases h with h | h
      · rcases List.mem_cons.mp h with h | h
        · cases h; exact absurd rfl hk
        · exact .inl h
      · exact .inr h
theorem closL_only (cells : List (Str × Addr)) : ∀ (l : List (Str × NameKind)) (acc : List (Str × Addr)) (n : Str) (c : Addr), (closL cells l acc).lookup n = some c → ((n, NameKind.free) ∈ l ∧ c = (cells.lookup n).getD 0) ∨ acc.lookup n = some c
  | [], acc, n, c, h => .inr h
  | (m, k) :: r, acc, n, c, h => by
    rw [closL] at h
    rcases closL_only cells r _ n c h with h' | h'
    · exact .inl ⟨List.mem_cons_of_mem _ h'.1, h'.2⟩
    · by_cases hk : k = .free
      · subst hk
        simp only [beq_self_eq_true, if_true] at h'
        rw [List.lookup_cons] at h'
        cases hm : (n == m) with
        | true =>
          rw [hm] at h'; simp at h'
          have hm' := beq_iff_eq.mp hm
          subst hm'
          exact .inl ⟨List.mem_cons_self, h'.symm⟩
        | false => rw [hm] at h'; exact .inr h'
      · have hb : (k == NameKind.free) = false := by simpa using hk
        simp only [hb, Bool.false_eq_true, if_false] at h'
        exact .inr h'

theorem lookup_mapk (g : Str → NameKind → NameKind) (n : Str) : ∀ l : List (Str × NameKind), (l.map fun p => (p.1, g p.1 p.2)).lookup n = (l.lookup n).map (g n)
  | [] => rfl
  | (m, k) :: l => by
    rw [List.map_cons, List.lookup_cons, List.lookup_cons]
    cases h : (n == m) with
    | true => have hm := beq_iff_eq.mp h; subst hm; rfl
    | false => exact lookup_mapk g n l
theorem lookup_inSc (sc cs : Scope) (n : Str) : (inSc sc cs).names.lookup n = (cs.names.lookup n).map fun k => if k == .free && sc.kind == .function && sc.names.lookup n == some .cell then .cell else k := by
  rw [← lookup_mapk (fun n k => if k == .free && sc.kind == .function && sc.names.lookup n == some .cell then .cell else k)]
  show (List.map _ cs.names).lookup n = _
  congr 2
  funext p
  obtain ⟨m, k⟩ := p
  dsimp only
  split <;> rfl

section
variable {M : Model} {A : Around} {E : Value → Shared → Prop} {s : Shared} {env : Env}
theorem wpR_standIf {α : Type} {c : Prop} [Decidable c] {pos : Pos} {k : PUnit → Sem α} {Q : α → Shared → Prop} (h : wpR M A (k ()) Q E s) :
    wpR M A (if c then (standAt pos >>= k) else k ()) Q E s := by
  split
  · exact wpR_bind (wpR_standAt h)
  · exact h

/-- what is asked at a comprehension's end -/
def compEnd (M : Model) (A : Around) (E : Value → Shared → Prop) (Q : Value → Shared → Prop) (L : Addr) (acc : Value) : Option (Value → Sem Unit) → Shared → Prop
  | none, s' => ∃ m, s'.heap.Ns L m ∧ ∀ h', Heap.SameBut L s'.heap h' → Q acc { s' with heap := h' }
  | some u, s' => wpR M A (u acc) (fun _ s'' => ∃ m, s''.heap.Ns L m ∧ ∀ h', Heap.SameBut L s''.heap h' → Q .none { s'' with heap := h' }) E s'

theorem wpR_comprehension {e : Expr} {cs : Scope} {pos : Pos} {newAcc first : Sem Value} {g : Comprehension} {gs : List Comprehension} {use : Option (Value → Sem Unit)} {Q : Value → Shared → Prop}
    (hcl : clausesOf e = g :: gs) (hs : ∀ x, foldedSetIterable g.iter env x = pure x) (hkind : cs.kind = .function) (hfree : ∀ x ∈ cs.names, x.2 = .free → (env.cells.lookup x.1).isSome)
    (hnames : ∀ x ∈ cs.names, x.2 = .local → cs.names.lookup x.1 = some .local)
    (h : wpR M A first (fun x s₁ => wpR M A (pyIter x) (fun it s₂ => wpR M A newAcc (fun acc s₃ =>
      wpR M A (newFunctionEnv cs env.globals (closL env.cells cs.names []) [] env.qual none .none (some env)) (fun cenv s₄ =>
        codeR M A (.compStart e 0 it acc { cenv with scope := inSc env.scope cs }) (fun r s' => match r with | .ok _ => compEnd M A E Q cenv.locals acc use s' | .error x => False) s₄) E s₃) E s₂) E s₁) E s) :
    wpR M A (comprehension e cs env pos newAcc false first use) Q E s := by
  unfold comprehension
  rw [closureFor_eq hfree, hcl]
  refine wpR_bind (wpR_mono h (fun x s₁ h₁ => wpR_bind (wpR_standAt (wpR_bind (toR (wpAny_of_eq (hs x) (wpR_bind (wpR_holding (wpR_mono h₁ (fun it s₂ h₂ =>
    wpR_standIf (wpR_bind (wpR_mono h₂ (fun acc s₃ h₃ => wpR_bind (wpR_pure (wpR_bind (wpR_mono h₃ (fun cenv s₄ h₄ => ?_) fun _ _ h' => h')))) fun _ _ h' => h')))
      fun _ _ h' => h')))))))) fun _ _ h' => h')
  dsimp only
  have hv : ∀ x : Str × NameKind, x ∈ (cs.names.filter fun x => (x.2 == .local || x.2 == .cell) && x.1 != (".0" : Str)) → x.2 = .local →
      Env.kindOf { cenv with scope := inSc env.scope cs } x.1 = some .local := fun x hx hl => by
    show (inSc env.scope cs).names.lookup x.1 = some .local
    rw [lookup_inSc, hnames x (List.mem_filter.mp hx).1 hl]; rfl
  refine wpR_holding (wpR_bind (wpR_attempt (wpR_holding (wpR_run (codeR_mono h₄ fun r s' hr => ?_)))))
  cases r with
  | error x => exact hr.elim
  | ok f =>
    cases use with
    | none =>
      obtain ⟨m, hn, hr⟩ := hr
      exact wpR_bind (wpR_holding (toR (wpAny_comp_letGo (cenv := { cenv with scope := inSc env.scope cs }) hkind _ s' m (fun x hx => hv x (List.mem_reverse.mp hx)) hn fun h' m' _ hs' => wpR_pure (hr h' hs'))))
    | some u =>
      refine wpR_bind (wpR_rule (wpR_bind (wpR_holding (wpR_mono hr (fun _ s'' hr' => ?_) fun _ _ h' => h'))))
      obtain ⟨m, hn, hr'⟩ := hr'
      refine wpR_bind (toR (wpAny_comp_letGo (cenv := { cenv with scope := inSc env.scope cs }) hkind _ s'' m (fun x hx => ?_) hn fun h' m' _ hs' => wpR_pure (hr' h' hs')))
      refine hv x (List.mem_reverse.mp ?_)
      rcases List.mem_append.mp hx with hx | hx
      · exact List.mem_of_mem_drop hx
      · exact List.mem_of_mem_take hx
end

section
variable {prog : Program} {w : World} {A : Around} {R : Result → Shared → Prop} {s : Shared} {env : Env}
theorem wpR_notedAt {α : Type} {M : Model} {m : Sem α} {pos : Pos} {Q : α → Shared → Prop} {E : Value → Shared → Prop} (h : wpR M A m Q (noted M A env E) s) :
    wpR M A (m.onRaise fun x => do noteFrame x env; standAt pos) Q E s :=
  wpR_onRaise (wpR_mono h (fun _ _ q => q) fun _ _ hx => wpR_bind (wpR_mono hx (fun _ _ e => wpR_standAt e) fun _ _ e => e))
theorem codeR_compStart {elt target iter : Expr} {ifs : List Expr} {rest : List Comprehension} {scope : Scope} {pos : Pos} {it acc : Value}
    (h0 : codeR (model prog w) A (.compLoop (.ListComp elt (⟨target, iter, ifs, 0⟩ :: rest) scope pos) 0 it acc env) R s)
    (h : wpR (model prog w) A (pyIter it) (fun it' s' => codeR (model prog w) A (.compLoop (.ListComp elt (⟨target, iter, ifs, 0⟩ :: rest) scope pos) 0 it' acc env) R s')
      (noted (model prog w) A env fun x s' => R (.error x) s') s) :
    codeR (model prog w) A (.compStart (.ListComp elt (⟨target, iter, ifs, 0⟩ :: rest) scope pos) 0 it acc env) R s := by
  refine codeR_of_tree rfl ?_
  show wpR _ _ ((compStart (.ListComp elt (⟨target, iter, ifs, 0⟩ :: rest) scope pos) 0 it acc env).onRaise (fun x => do noteFrame x env; standAt theWindowsPlace)) _ _ s
  refine wpR_notedAt ?_
  unfold compStart
  show wpR _ _ (ask >>= _) _ _ s
  refine wpR_bind (toR (wpAny_askSetting ?_))
  split
  · exact wpR_pure (And.intro rfl h0)
  · refine wpR_bind (wpR_rule ?_)
    show wpR _ _ (standAt iter.pos >>= _) _ _ s
    exact wpR_bind (wpR_standAt (wpR_bind (wpR_mono h (fun it' s' h' => wpR_pure (And.intro rfl h')) fun _ _ x => x)))

def compIfs (ifs : List Expr) (env : Env) : Sem Bool :=
  forIn ifs true fun c r => if r = true then do let ok ← isTrue c env (eval c env); pure (ForInStep.yield ok) else pure (ForInStep.yield r)
theorem codeR_compLoop1 {elt target iter : Expr} {ifs : List Expr} {scope : Scope} {pos : Pos} {it acc : Value}
    (h : wpR (model prog w) A (pyNext it) (fun r s₁ => match r with
      | none => R (.ok .next) s₁
      | some v => wpR (model prog w) A (letOwnedTupleGo target it v) (fun _ s₁' => wpR (model prog w) A (assign target env v) (fun _ s₂ => wpR (model prog w) A (compIfs ifs env) (fun ok s₃ =>
            if ok = true then wpR (model prog w) A (eval elt env) (fun x s₄ =>
              wpR (model prog w) A (call (.builtin "list.append") [acc, x]) (fun _ s₅ => codeR (model prog w) A (.compLoop (.ListComp elt [⟨target, iter, ifs, 0⟩] scope pos) 0 it acc env) R s₅) (noted (model prog w) A env fun e s' => R (.error e) s') s₄) (noted (model prog w) A env fun e s' => R (.error e) s') s₃
            else codeR (model prog w) A (.compLoop (.ListComp elt [⟨target, iter, ifs, 0⟩] scope pos) 0 it acc env) R s₃) (noted (model prog w) A env fun e s' => R (.error e) s') s₂)
              (noted (model prog w) A env fun e s' => R (.error e) s') s₁') (noted (model prog w) A env fun e s' => R (.error e) s') s₁) (noted (model prog w) A env fun e s' => R (.error e) s') s) :
    codeR (model prog w) A (.compLoop (.ListComp elt [⟨target, iter, ifs, 0⟩] scope pos) 0 it acc env) R s := by
  refine codeR_of_tree rfl ?_
  show wpR _ A ((compTurn (.ListComp elt [⟨target, iter, ifs, 0⟩] scope pos) 0 it acc env).onRaise (fun x => do noteFrame x env; theTreesLotGoes x)) _ _ s
  refine wpR_noted ?_
  rw [compTurn_list]
  refine wpR_bind (wpR_standAt (wpR_bind (wpR_mono h (fun r s₁ h₁ => ?_) fun _ _ h' => h')))
  cases r with
  | none => exact wpR_pure h₁
  | some v =>
    refine wpR_bind (wpR_mono h₁ (fun _ s₁' h₁' => ?_) fun _ _ h' => h')
    refine wpR_bind (wpR_mono h₁' (fun _ s₂ h₂ => wpR_bind (wpR_mono h₂ (fun ok s₃ h₃ => ?_) fun _ _ h' => h')) fun _ _ h' => h')
    cases ok with
    | false => exact wpR_pure ⟨rfl, h₃⟩
    | true =>
      exact wpR_bind (wpR_bind (wpR_mono h₃ (fun x s₄ h₄ => wpR_bind (wpR_mono h₄ (fun _ s₅ h₅ => wpR_pure (wpR_pure ⟨rfl, h₅⟩)) fun _ _ h' => h')) fun _ _ h' => h'))
end

section
variable {Γ : Cx} {k : Nat} {sc cs : Scope} {σ σf : Loc} {μ : Own} {pos : Pos}

/-- the tests of a comprehension -/
def CIf (Γ : Cx) (k : Nat) (sc : Scope) (σ : Loc) (μ : Own) : List Expr → Bool → Prop
  | [], b => b = true
  | [c], b => Tr Γ k sc σ μ c b
  | _, _ => False
/-- a turn of a comprehension: an item gives a value, or none -/
def Turn (Γ : Cx) (k : Nat) (sc cs : Scope) (σf : Loc) (target : Expr) (ifs : List Expr) (elt : Expr) (x : PV) (r : Option PV) : Prop :=
  ∃ σ₁ b, (∀ μ, As Γ k sc σf μ target x σ₁ cs) ∧ (∀ y v, σf.lookup y = some v → σ₁.lookup y = some v) ∧ (∀ μ, CIf Γ k sc σ₁ μ ifs b) ∧
    (b = true → ∃ v, r = some v ∧ ∀ μ, Ev Γ k sc σ₁ μ elt v) ∧ (b = false → r = none)
theorem Turn.all {target elt : Expr} {x v : PV} {σ₁ : Loc} (ha : ∀ μ, As Γ k sc σf μ target x σ₁ cs) (hs : Sub σ₁ σf) (he : ∀ μ, Ev Γ k sc σ₁ μ elt v) : Turn Γ k sc cs σf target [] elt x (some v) :=
  ⟨σ₁, true, ha, hs.to, fun _ => rfl, fun _ => ⟨v, rfl, he⟩, fun h => nomatch h⟩
theorem Turn.if {target elt c : Expr} {x v : PV} {σ₁ : Loc} {b : Bool} (ha : ∀ μ, As Γ k sc σf μ target x σ₁ cs) (hs : Sub σ₁ σf) (hc : ∀ μ, Tr Γ k sc σ₁ μ c b) (he : b = true → ∀ μ, Ev Γ k sc σ₁ μ elt v) :
    Turn Γ k sc cs σf target [c] elt x (if b then some v else none) :=
  ⟨σ₁, b, ha, hs.to, hc, fun h => ⟨v, by rw [h]; rfl, he h⟩, fun h => by rw [h]; rfl⟩

theorem CIf.run {A : Around} {n : Nat} {F : Fm} {s : Shared} {ifs : List Expr} {b : Bool} {Q : Bool → Shared → Prop} {E : Value → Shared → Prop} (h : CIf Γ k sc σ μ ifs b) (hn : n + k ≤ 8) (hA : Lv n A) (st : St Γ sc F σ μ s)
    (hQ : ∀ s', Gr s s' → Q b s') : wpR Γ.M A (compIfs ifs (F.env sc)) Q E s := by
  match ifs, h with
  | [], h => subst h; exact wpR_pure (hQ s (Gr.refl s))
  | [c], h =>
    unfold compIfs
    simp only [List.forIn_cons, List.forIn_nil, if_true]
    have h' : Tr Γ k sc σ μ c b := h
    exact wpR_bind (wpR_bind (h' A n F s _ E hn hA st fun s' g => wpR_pure (wpR_pure (hQ s' g))))
  | _ :: _ :: _, h => exact h.elim

/-- the loop of a comprehension -/
theorem comp_loop {elt target iter : Expr} {ifs : List Expr} {A : Around} {n : Nat} {F : Fm} {h₁ : Heap} {acc it : Addr} {wr : List Addr} {J : (Addr → Prop) → List PV → Heap → Prop} {R : Result → Shared → Prop} {s₀ : Shared}
    {nd : Bool} (hn : n + k ≤ 8) (hA : Lv n A) (hI : Iter Γ A it wr J nd) (hnd : nd = true → isTupE target = true) (hw : ∀ b ∈ wr, h₁.get? b = none) : ∀ {xs : List PV} {rs : List (Option PV)}, Paired (Turn Γ k sc cs σf target ifs elt) xs rs → ∀ (ys : List PV) (σ' : Loc) (s : Shared), ys.length + xs.length < 2 ^ 20 →
      Sx Γ h₁ sc F σ' [(acc, .list ys)] s cs → (∀ y v, σf.lookup y = some v → σ'.lookup y = some v) → J (Dm F [(acc, .list ys)]) xs s.heap → s.gens = s₀.gens → s.os = s₀.os →
      (∀ σ'' s', Sx Γ h₁ sc F σ'' [(acc, .list (ys ++ rs.filterMap id))] s' cs → s'.gens = s₀.gens → s'.os = s₀.os → R (.ok .next) s') →
      codeR Γ.M A (.compLoop (.ListComp elt [⟨target, iter, ifs, 0⟩] cs pos) 0 (.ref it) (.ref acc) (F.env sc)) R s := by
  intro xs rs hp
  induction hp with
  | nil =>
    intro ys σ' s hz X hσ hJ hg ho hR
    refine codeR_compLoop1 (toR (wpAny_mono (hI.done _ s (fun s₁ => R (.ok .next) s₁) _ hJ fun h' tk hk => ?_) (fun r s₁ hr => ?_) fun _ _ e => e))
    · exact hR σ' _ (by simpa using X.wr (tk := tk) hk (hI.wrs _ _ _ hJ) hw) hg ho
    · obtain ⟨rfl, hr⟩ := hr; exact hr
  | @cons x r xs rs ht _ ih =>
    intro ys σ' s hz X hσ hJ hg ho hR
    obtain ⟨σ₁, b, hAs, hsub, hif, hyes, hno⟩ := ht
    have hz' : ys.length + (xs.length + 1) < 2 ^ 20 := hz
    refine codeR_compLoop1 (toR (wpAny_mono (hI.item _ x xs s target (fun v s₁ => wpR Γ.M A (assign target (F.env sc) v) (fun _ s₂ => wpR Γ.M A (compIfs ifs (F.env sc)) (fun ok s₃ =>
            if ok = true then wpR Γ.M A (eval elt (F.env sc)) (fun x s₄ =>
              wpR Γ.M A (PySem.call (.builtin "list.append") [.ref acc, x]) (fun _ s₅ => codeR Γ.M A (.compLoop (.ListComp elt [⟨target, iter, ifs, 0⟩] cs pos) 0 (.ref it) (.ref acc) (F.env sc)) R s₅) (noted Γ.M A (F.env sc) fun e s' => R (.error e) s') s₄) (noted Γ.M A (F.env sc) fun e s' => R (.error e) s') s₃
            else codeR Γ.M A (.compLoop (.ListComp elt [⟨target, iter, ifs, 0⟩] cs pos) 0 (.ref it) (.ref acc) (F.env sc)) R s₃) (noted Γ.M A (F.env sc) fun e s' => R (.error e) s') s₂)
              (noted Γ.M A (F.env sc) fun e s' => R (.error e) s') s₁) _ hJ X.toSt.dom hnd fun v h' tk hv hJ' hk => ?_) (fun r s₁ hr => ?_) fun _ _ e => e))
    · have X' := (X.wr (tk := tk) hk (hI.wrs _ _ _ hJ) hw).less hσ
      refine toR (hAs _ A n F h₁ _ v _ _ hn hA X' hv fun s₂ X₂ sp₂ => ?_)
      refine CIf.run (hif _) hn hA X₂.toSt fun s₃ g₃ => ?_
      have X₃ := X₂.grow g₃
      have sp₃ := sp₂.trans (Sp.gr (F := F) (μ := [(acc, .list ys)]) g₃)
      cases b with
      | false =>
        have := hno rfl
        subst this
        simp only [Bool.false_eq_true, if_false]
        refine ih ys σ₁ s₃ (by omega) X₃ hsub (hI.move _ _ _ _ _ (X'.hk X₃ sp₃) (fun b o hb d => sp₃.dom b (by rw [hb]; rfl) d) hJ') (sp₃.gens.trans hg) (sp₃.os.trans ho) fun σ'' s' Y => hR σ'' s' (by simpa using Y)
      | true =>
        obtain ⟨v', rfl, hev⟩ := hyes rfl
        simp only [if_true]
        refine hev _ A n F s₃ _ _ hn hA X₃.toSt fun val s₄ g₄ hval => ?_
        have X₄ := X₃.grow g₄
        refine MethOk.list_append (Γ := Γ) (xs := ys) (v := v') (by omega) A n _ s₄ acc [val] _ _ (by omega) hA X.ok X₄.base (X₄.own acc (.list ys) (by simp)) (.inr (by simp)) (Vs_cons.mpr ⟨val, [], rfl, hval, Vs_nil.mpr rfl⟩) X₄.toSt.dom fun h5 tk5 hs5 ho5 => ?_
        obtain ⟨X₅, sp₅⟩ := Sx.upd (μ₁ := []) (μ₂ := []) (o' := .list (ys ++ [v'])) (tk := tk5) X₄ hs5 ho5
        have sp₆ := (sp₃.trans (Sp.gr (F := F) (μ := [(acc, .list ys)]) g₄)).trans sp₅
        have hk6 : ∀ b o, h'.get? b = some o → DataOk o.data → (¬ Dm F [(acc, .list ys)] b ∨ o.cls = .type "tuple" ∨ o.cls = .type "range") → h5.get? b = some o := X'.hk X₅ sp₆
        refine ih (ys ++ [v']) σ₁ _ (by simp; omega) X₅ hsub (hI.move _ _ _ _ _ hk6 (fun b o hb d => sp₆.dom b (by rw [hb]; rfl) d) hJ') (sp₆.gens.trans hg) (sp₆.os.trans ho) fun σ'' s' Y => hR σ'' s' (by simpa using Y)
    · cases r with
      | none => exact hr.elim
      | some v => exact toR (wpAny_mono hr (fun _ _ e => e) fun _ _ e => e)

def isCF : Option NameKind → Bool
  | some .cell | some .free => true
  | _ => false
def freeOk (sc cs : Scope) (σ : Loc) : Bool := cs.names.all fun x => x.2 != .free || ((σ.lookup x.1).isSome && isCF (sc.names.lookup x.1))
def freeIn (cs : Scope) (σf : Loc) : Bool := σf.all fun p => cs.names.lookup p.1 == some .free
def cleanSc (cs : Scope) : Bool := (cs.kind == .function) && cs.names.all fun x => x.2 != .cell && (x.2 != .local || cs.names.lookup x.1 == some .local)

theorem freeOk.at {F : Fm} {s : Shared} (h : freeOk sc cs σ = true) (st : St Γ sc F σ μ s) : ∀ n, (n, NameKind.free) ∈ cs.names → ∃ v c val, σ.lookup n = some v ∧ F.cl.lookup n = some c ∧ s.heap.IsCell c (some val) ∧ V (Dm F μ) s.heap v val := by
  intro n hn
  have := List.all_eq_true.mp h _ hn
  simp only [bne_self_eq_false, Bool.false_or, Bool.and_eq_true] at this
  obtain ⟨h1, h2⟩ := this
  obtain ⟨v, hv⟩ := Option.isSome_iff_exists.mp h1
  have : sc.names.lookup n = some .cell ∨ sc.names.lookup n = some .free := by
    unfold isCF at h2
    split at h2
    · left; assumption
    · right; assumption
    · cases h2
  obtain ⟨c, val, e1, e2, e3⟩ := st.cel n v hv this
  exact ⟨v, c, val, hv, e1, e2, e3⟩

/-- what stands when the loop of a comprehension begins -/
theorem comp_start {F : Fm} {s s₃ : Shared} {acc : Addr} {h' : Heap} {tk : Nat} (st : St Γ sc F σ μ s) (g : Gr s s₃) (hfo : freeOk sc cs σ = true) (hfi : freeIn cs σf = true) (hcl : cleanSc cs = true) (hsub : Sub σ σf)
    (hacc0 : s.heap.get? acc = none) (hacc : s₃.heap.get? acc = some { cls := .type "list", data := .seq #[] })
    (hns : h'.Ns s₃.heap.objs.size (fun x => ([] : List (Str × Value)).reverse.lookup x)) (hsb : Heap.SameBut s₃.heap.objs.size (s₃.heap.push { cls := .type "dict", data := .dict #[] }) h') :
    Sx Γ s.heap (inSc sc cs) ⟨s₃.heap.objs.size, closL F.cl cs.names [], F.q, none, F.cd, F.fr, Dm F μ⟩ σf [(acc, .list [])] { s₃ with heap := h', toks := tk } cs := by
  have hkeep3 : Kp s₃.heap h' := fun b o e => (hsb.2 b (Nat.ne_of_lt (Heap.lt_size e))).trans (Heap.get?_push_of_some _ e)
  have hkeep : Kp s.heap h' := g.keep.trans hkeep3
  have hnc : ∀ x ∈ cs.names, x.2 ≠ .cell := fun x hx q => by
    have := List.all_eq_true.mp (Bool.and_eq_true _ _ |>.mp hcl).2 x hx
    rw [q] at this; simp at this
  have hlookFree : ∀ x v, σf.lookup x = some v → cs.names.lookup x = some .free := by
    intro x v hx
    obtain ⟨p, hp, hpx⟩ := List.lookup_isSome_iff.mp (show (σf.lookup x).isSome from by rw [hx]; rfl)
    have h1 := beq_iff_eq.mp (List.all_eq_true.mp hfi p hp)
    rw [beq_iff_eq.mp hpx]; exact h1
  have hmemFree : ∀ x v, σf.lookup x = some v → (x, NameKind.free) ∈ cs.names := by
    intro x v hx
    obtain ⟨l₁, l₂, he, _⟩ := List.lookup_eq_some_iff.mp (hlookFree x v hx)
    rw [he]; simp
  refine ⟨⟨st.ok, st.base.trans hkeep, ⟨_, hns, fun x v h1 h2 => ?_⟩, fun x v h1 h2 => ?_, fun b o hm => ?_, fun b hb => hkeep.alive b (st.dom b hb)⟩, hkeep, st.base, ?_, fun x hx => ?_, fun x c hx => ?_, fun x y c hx => ?_, fun b hb => ?_, fun b hb => st.dom b hb, ?_⟩
  · exfalso
    rw [lookup_inSc, hlookFree x v h1] at h2
    simp only [Option.map_some, Option.some.injEq] at h2
    split at h2 <;> cases h2
  · have hm := hmemFree x v h1
    obtain ⟨v', c, val, e1, e2, e3, e4⟩ := hfo |> fun h => freeOk.at h st x hm
    have hv' : v' = v := by have := hsub.to x v h1; rw [e1] at this; cases this; rfl
    subst hv'
    refine ⟨c, val, ?_, e3.keeps hkeep, ?_⟩
    · have := closL_has F.cl cs.names [] x (.inl hm); rw [e2] at this; exact this
    · refine e4.move (fun b o hb _ => hkeep b o hb) fun b o hb d => ?_
      rcases d with d | d
      · exact d
      · simp at d; subst d; rw [hacc0] at hb; cases hb
  · simp only [List.mem_singleton] at hm
    cases hm
    exact ⟨#[], _, hkeep3 _ _ hacc, by simp [Vs_nil]⟩
  · cases q : s.heap.get? s₃.heap.objs.size with
    | none => rfl
    | some o => have := g.keep _ _ q; rw [fresh_addr] at this; cases this
  · exfalso
    obtain ⟨l₁, l₂, he, _⟩ := List.lookup_eq_some_iff.mp hx
    exact hnc (x, .cell) (by rw [he]; simp) rfl
  · rcases closL_only F.cl cs.names [] x c hx with ⟨hm, hc⟩ | hc
    · obtain ⟨v', c', val, e1, e2, e3, e4⟩ := freeOk.at hfo st x hm
      rw [e2] at hc
      simp only [Option.getD_some] at hc
      subst hc
      exact ⟨_, e3.keeps hkeep⟩
    · cases hc
  · exfalso
    obtain ⟨l₁, l₂, he, _⟩ := List.lookup_eq_some_iff.mp hx
    exact hnc (x, .cell) (by rw [he]; simp) rfl
  · simp at hb; subst hb; exact hacc0
  · simp

theorem cleanSc.ok (h : cleanSc cs = true) : cs.kind = .function ∧ (∀ x ∈ cs.names, x.2 ≠ .cell) ∧ ∀ x ∈ cs.names, x.2 = .local → cs.names.lookup x.1 = some .local := by
  obtain ⟨h1, h2⟩ := (Bool.and_eq_true _ _).mp h
  refine ⟨beq_iff_eq.mp h1, fun x hx q => ?_, fun x hx q => ?_⟩
  · have := List.all_eq_true.mp h2 x hx
    rw [q] at this; simp at this
  · have := List.all_eq_true.mp h2 x hx
    rw [q] at this
    simpa using this

/-- a comprehension runs: what it leaves when its loop is over -/
theorem comp_run {elt target iter : Expr} {ifs : List Expr} {cpos : Pos} {nd : Bool} {xs : List PV} {rs : List (Option PV)} {use : Option (Value → Sem Unit)} {A : Around} {n : Nat} {F : Fm} {s : Shared} {Q : Value → Shared → Prop} {E : Value → Shared → Prop}
    (hit : EvI Γ k sc σ μ iter xs nd) (hnd : nd = true → isTupE target = true) (ht : Paired (Turn Γ k (inSc sc cs) cs σf target ifs elt) xs rs) (hz : xs.length < 2 ^ 20) (hsub : Sub σ σf)
    (hfo : freeOk sc cs σ = true) (hfi : freeIn cs σf = true) (hcl : cleanSc cs = true) (hs : ∀ env x, foldedSetIterable iter env x = pure x)
    (hn : n + k ≤ 8) (hA : Lv n A) (st : St Γ sc F σ μ s)
    (hQ : ∀ acc L s' m, Gr s s' → s.heap.get? acc = none → s.heap.get? L = none → L ≠ acc → POat (Dm F ((acc, .list (rs.filterMap id)) :: μ)) s'.heap acc (.list (rs.filterMap id)) → s'.heap.Ns L m → compEnd Γ.M A E Q L (.ref acc) use s') :
    wpR Γ.M A (comprehension (.ListComp elt [⟨target, iter, ifs, 0⟩] cs pos) cs (F.env sc) cpos (newList []) false (eval iter (F.env sc)) use) Q E s := by
  obtain ⟨c1, c2, c3⟩ := cleanSc.ok hcl
  refine wpR_comprehension rfl (hs _) c1 (fun x hx hxf => ?_) c3 (hit A n F s _ E hn hA st fun it wr J s₂ hI hJ g₂ hw => ?_)
  · obtain ⟨x1, x2⟩ := x
    simp only at hxf; subst hxf
    obtain ⟨v', c, val, e1, e2, e3, e4⟩ := freeOk.at hfo st x1 hx
    show (F.cl.lookup x1).isSome = true
    rw [e2]; rfl
  refine toR (wpAny_newObj_type ?_ (Nat.zero_le _))
  have g₃ : Gr s { s₂ with heap := s₂.heap.push { cls := .type "list", data := .seq #[] } } := g₂.trans (Gr.heap _ (Kp.push _ _))
  have hacc0 : s.heap.get? s₂.heap.objs.size = none := by
    cases q : s.heap.get? s₂.heap.objs.size with
    | none => rfl
    | some o => have := g₂.keep _ _ q; rw [fresh_addr] at this; cases this
  refine toR (wpAny_newFunctionEnv c2 (fun x hx => nomatch hx) (fun h' hns hsb => ?_) c1)
  have X := comp_start (tk := s₂.toks + 0) (s₃ := { s₂ with heap := s₂.heap.push { cls := .type "list", data := .seq #[] } }) st g₃ hfo hfi hcl hsub hacc0 (Heap.get?_push_size _ rfl) hns hsb
  have hkeep3 : Kp (s₂.heap.push { cls := .type "list", data := .seq #[] }) h' := fun b o e => (hsb.2 b (Nat.ne_of_lt (Heap.lt_size e))).trans (Heap.get?_push_of_some _ e)
  have hLacc : (s₂.heap.push { cls := .type "list", data := .seq #[] }).objs.size ≠ s₂.heap.objs.size := by rw [Heap.size_push]; exact Nat.succ_ne_self _
  have hJ' : J (Dm (⟨(s₂.heap.push { cls := .type "list", data := .seq #[] }).objs.size, closL F.cl cs.names [], F.q, none, F.cd, F.fr, Dm F μ⟩ : Fm) [(s₂.heap.objs.size, .list [])]) xs h' :=
    hI.move _ _ _ _ _ (fun b o hb _ _ => hkeep3 b o (Kp.push _ _ b o hb)) (fun b o hb d => by
      rcases d with d | d
      · exact d
      · simp at d; subst d; rw [fresh_addr] at hb; cases hb) hJ
  have fin : ∀ σ'' s', Sx Γ s.heap (inSc sc cs) (⟨(s₂.heap.push { cls := .type "list", data := .seq #[] }).objs.size, closL F.cl cs.names [], F.q, none, F.cd, F.fr, Dm F μ⟩ : Fm) σ'' [(s₂.heap.objs.size, .list ([] ++ rs.filterMap id))] s' cs → s'.gens = s.gens → s'.os = s.os →
      compEnd Γ.M A E Q (s₂.heap.push { cls := .type "list", data := .seq #[] }).objs.size (.ref s₂.heap.objs.size) use s' := by
    intro σ'' s' Y hg ho
    obtain ⟨m, hm, _⟩ := Y.ns
    refine hQ _ _ s' m ⟨Y.keep, hg, ho⟩ hacc0 Y.newL hLacc ?_ hm
    have := Y.own s₂.heap.objs.size (.list ([] ++ rs.filterMap id)) (by simp)
    obtain ⟨items, nn, e1, e2⟩ := this
    refine ⟨items, nn, e1, e2.less fun b _ _ d => ?_⟩
    rcases d with d | d
    · exact .inl (.inl d)
    · rw [List.map_cons, List.mem_cons] at d
      rcases d with d | d
      · exact .inr (by simp at d; simp [d])
      · exact .inl (.inr d)
  have hgen : s₂.gens = s.gens := g₂.gens
  have hos : s₂.os = s.os := g₂.os
  have loop : ∀ s4 : Shared, s4 = { s₂ with heap := h', toks := s₂.toks + 0 } → codeR Γ.M A (.compLoop (.ListComp elt [⟨target, iter, ifs, 0⟩] cs pos) 0 (.ref it) (.ref s₂.heap.objs.size)
      (Fm.env (⟨(s₂.heap.push { cls := .type "list", data := .seq #[] }).objs.size, closL F.cl cs.names [], F.q, none, F.cd, F.fr, Dm F μ⟩ : Fm) (inSc sc cs)))
      (fun r s' => match r with | .ok _ => compEnd Γ.M A E Q (s₂.heap.push { cls := .type "list", data := .seq #[] }).objs.size (.ref s₂.heap.objs.size) use s' | .error x => False) s4 := by
    intro s4 e4
    subst e4
    exact comp_loop (s₀ := s) (h₁ := s.heap) hn hA hI hnd hw ht [] σf _ (by simpa using hz) X (fun _ _ e => e) hJ' hgen hos fun σ'' s' Y hg ho => fin σ'' s' Y hg ho
  refine codeR_compStart (loop _ rfl) (toR (hI.self _ _ _ _ _ hJ' (loop _ rfl)))

theorem EvN.compI {elt target iter : Expr} {ifs : List Expr} {nd : Bool} {xs : List PV} {rs : List (Option PV)}
    (hit : EvI Γ k sc σ μ iter xs nd) (ht : Paired (Turn Γ k (inSc sc cs) cs σf target ifs elt) xs rs) (hz : xs.length < 2 ^ 20) (hsub : Sub σ σf)
    (hnd : nd = true → isTupE target = true := by first | exact (fun h => nomatch h) | exact (fun _ => rfl))
    (hfo : freeOk sc cs σ = true := by kernel_rfl) (hfi : freeIn cs σf = true := by kernel_rfl) (hcl : cleanSc cs = true := by kernel_rfl) (hs : ∀ env x, foldedSetIterable iter env x = pure x := by intro _ _; kernel_rfl) :
    EvN Γ k sc σ μ (.ListComp elt [⟨target, iter, ifs, 0⟩] cs pos) (.list (rs.filterMap id)) := by
  intro A n F s Q E hn hA st hQ
  rw [eval_ListComp]
  refine comp_run hit hnd ht hz hsub hfo hfi hcl hs hn hA st fun acc L s' m g ha hL hne ho hm => ⟨m, hm, fun h' hs' => ?_⟩
  obtain ⟨oL, es, ep, hoL, hdL, _⟩ := id hm
  refine hQ acc _ ⟨fun b o e => (hs'.2 b (fun q => by rw [q, hL] at e; cases e)).trans (g.keep b o e), g.gens, g.os⟩ ha (ho.same hs' hoL (by rw [hdL]; exact id) (by rw [hdL]; intro _ _ q; cases q))
theorem EvN.comp {elt target iter : Expr} {ifs : List Expr} {p : PV} {xs : List PV} {rs : List (Option PV)}
    (hit : Ev Γ k sc σ μ iter p) (hi : IterOk Γ p xs) (ht : Paired (Turn Γ k (inSc sc cs) cs σf target ifs elt) xs rs) (hz : xs.length < 2 ^ 20) (hsub : Sub σ σf)
    (hfo : freeOk sc cs σ = true := by kernel_rfl) (hfi : freeIn cs σf = true := by kernel_rfl) (hcl : cleanSc cs = true := by kernel_rfl) (hs : ∀ env x, foldedSetIterable iter env x = pure x := by intro _ _; kernel_rfl) :
    EvN Γ k sc σ μ (.ListComp elt [⟨target, iter, ifs, 0⟩] cs pos) (.list (rs.filterMap id)) :=
  EvN.compI (EvI.of hit hi) ht hz hsub (fun h => nomatch h) hfo hfi hcl hs
theorem EvN.ev {e : Expr} {ys : List PV} (h : EvN Γ k sc σ μ e (.list ys)) : Ev Γ k sc σ μ e (.lst ys) := by
  intro A n F s Q E hn hA st hQ
  refine h A n F s Q E hn hA st fun a s' g ha ho => hQ _ s' g ?_
  obtain ⟨items, m, e1, e2⟩ := ho
  refine V_lst.mpr ⟨a, items, rfl, (fun d => by have := st.dom a d; rw [ha] at this; cases this), ⟨_, e1, rfl, m, rfl⟩, e2.less fun b _ _ d => ?_⟩
  rcases d with d | d
  · exact .inl d
  · exact .inr (by simp [d])

variable {P : Fl → Loc → Own → Prop}
end
end Mine

set_option maxRecDepth 100000
namespace Mine

section
variable {Γ : Cx} {k : Nat} {sc : Scope} {σ : Loc} {μ : Own} {pos : Pos}

theorem intsOf {vs : List Value} {ns : List Int} (hi : IntsAre vs ns) : ∃ xs : Array (Int × Tok), vs.toArray = intItems xs ∧ xs.toList.map (·.1) = ns := by
  obtain ⟨xs, hx⟩ := (hi.allInts).items
  refine ⟨xs, hx, ?_⟩
  rw [← hi.numsOf, ← nums_intItems, ← hx]
theorem CallOk.sum {ns : List Int} : CallOk Γ k (.builtin "sum") [.lst (ns.map .int)] (.int ns.sum) := by
  intro A n D s vals Q E _ hA _ _ hvs _ hQ
  rw [Vs_cons] at hvs
  obtain ⟨v, r, rfl, hv, hr⟩ := hvs
  rw [Vs_nil] at hr; subst hr
  obtain ⟨a, items, rfl, _, hl, he⟩ := V_lst.mp hv
  obtain ⟨xs, hx, hn⟩ := intsOf he.ints
  have : items = intItems xs := by rw [← hx]
  subst this
  refine toR (sum_intListG hA.handled hl fun h' tk t' hk => hQ _ _ (Gr.heap _ hk) ?_)
  rw [preSum_eq, List.take_of_length_le (by simp), hn]
  exact V.int _ _
/-! ### bytes as items -/
/-! ### slices of lists -/
theorem slicePick_cut (items : Array Value) (lo hi : Option Int) : slicePick items lo hi none = (cutL items.toList lo hi).toArray := by
  unfold slicePick cutL
  rw [sliceBounds_plain]
  simp only [sliceRange_one, pick_run]
  simp
theorem Vs.cut {D : Addr → Prop} {h : Heap} {xs : List PV} {vs : List Value} {lo hi : Option Int} (e : Vs D h xs vs) : Vs D h (cutL xs lo hi) (cutL vs lo hi) := by
  unfold cutL
  rw [e.length]
  exact (e.drop _).take _
theorem SliceOk.lst {xs : List PV} {lo hi : Option Int} (hz : xs.length < 2 ^ 20) : SliceOk Γ (.lst xs) lo hi none (.lst (cutL xs lo hi)) := by
  intro A n D s x sl vl vu vs Q E _ _ hv hD hs pl pu ps hQ
  obtain ⟨a, items, rfl, _, hl, he⟩ := V_lst.mp hv
  have hlen : items.size = xs.length := by simpa using he.length
  refine wpAny_getItem_list_slice (hsz := by rw [sizeLine_eq]; omega) hl hs pl pu ps (fun q => nomatch q) ?_
  cases ps
  rw [slicePick_cut]
  exact hQ _ _ (Gr.heap _ (Kp.push _ _)) (V.newList hD he.cut)

/-! ### bytes of a list of ints -/
end
end Mine

set_option maxRecDepth 100000
namespace Mine

/-! ## calls of defs whose names are held in cells -/
theorem cellsFrom_has : ∀ (names : List (Str × NameKind)) (n : Nat) (acc : List (Str × Addr)) (x : Str), ((x, NameKind.cell) ∈ names ∨ (acc.lookup x).isSome) → ((cellsFrom n names acc).lookup x).isSome
  | [], n, acc, x, h => by
    rcases h with h | h
    · cases h
    · exact h
  | (m, k) :: r, n, acc, x, h => by
    unfold cellsFrom
    split
    · rename_i hk
      refine cellsFrom_has r (n + 1) _ x ?_
      rcases h with h | h
      · rcases List.mem_cons.mp h with h | h
        · cases h; right; rw [List.lookup_cons]; simp
        · exact .inl h
      · right
        rw [List.lookup_cons]
        split
        · rfl
        · exact h
    · rename_i hk
      refine cellsFrom_has r n _ x ?_
      rcases h with h | h
      · rcases List.mem_cons.mp h with h | h
        · cases h; exact absurd rfl hk
        · exact .inl h
      · exact .inr h

theorem bindL_other (K : Str → Option NameKind) : ∀ (binds : List (Str × Value)) (m : Str → Option Value) (x : Str), x ∉ binds.map (·.1) → bindL K binds m x = m x
  | [], m, x, _ => rfl
  | (n, v) :: r, m, x, h => by
    rw [List.map_cons, List.mem_cons, not_or] at h
    rw [bindL, bindL_other K r _ x h.2]
    split
    · show (if x = n then some v else m x) = m x
      rw [if_neg h.1]
    · rfl
theorem bindC_other (K : Str → Option NameKind) : ∀ (binds : List (Str × Value)) (m : Str → Option Value) (x : Str), x ∉ binds.map (·.1) → bindC K binds m x = m x
  | [], m, x, _ => rfl
  | (n, v) :: r, m, x, h => by
    rw [List.map_cons, List.mem_cons, not_or] at h
    rw [bindC, bindC_other K r _ x h.2]
    split
    · rfl
    · show (if x = n then some v else m x) = m x
      rw [if_neg h.1]
theorem bindL_at (K : Str → Option NameKind) : ∀ (binds : List (Str × Value)) (m : Str → Option Value) (x : Str) (v : Value), (binds.map (·.1)).Nodup → K x = some .local → binds.lookup x = some v → bindL K binds m x = some v
  | [], m, x, v, _, _, h => nomatch h
  | (n, w) :: r, m, x, v, hn, hk, h => by
    rw [List.map_cons, List.nodup_cons] at hn
    rw [List.lookup_cons] at h
    cases hx : (x == n) with
    | true =>
      rw [hx] at h; cases h
      have := beq_iff_eq.mp hx; subst this
      rw [bindL, bindL_other K r _ x hn.1, if_pos hk]
      show (if x = x then some w else m x) = some w
      rw [if_pos rfl]
    | false => rw [hx] at h; rw [bindL]; exact bindL_at K r _ x v hn.2 hk h
theorem bindC_at (K : Str → Option NameKind) : ∀ (binds : List (Str × Value)) (m : Str → Option Value) (x : Str) (v : Value), (binds.map (·.1)).Nodup → K x ≠ some .local → binds.lookup x = some v → bindC K binds m x = some v
  | [], m, x, v, _, _, h => nomatch h
  | (n, w) :: r, m, x, v, hn, hk, h => by
    rw [List.map_cons, List.nodup_cons] at hn
    rw [List.lookup_cons] at h
    cases hx : (x == n) with
    | true =>
      rw [hx] at h; cases h
      have := beq_iff_eq.mp hx; subst this
      rw [bindC, bindC_other K r _ x hn.1, if_neg hk]
      show (if x = x then some w else m x) = some w
      rw [if_pos rfl]
    | false => rw [hx] at h; rw [bindC]; exact bindC_at K r _ x v hn.2 hk h
theorem zip_keys (ns : List Str) (vs : List Value) : ((ns.zip vs).map (·.1)).Sublist ns := by
  induction ns generalizing vs with
  | nil => simp
  | cons n ns ih =>
    cases vs with
    | nil => simp
    | cons v vs => simpa using ih vs
theorem lookup_zip_V' {D : Addr → Prop} {h : Heap} {x : Str} {v : PV} : ∀ (names : List Str) (args : List PV) (vals : List Value), Vs D h args vals → (names.zip args).lookup x = some v → ∃ val, (names.zip vals).lookup x = some val ∧ V D h v val := by
  intro names
  induction names with
  | nil => intro args vals _ hl; simp at hl
  | cons y ys ih =>
    intro args vals hvs hl
    cases args with
    | nil => simp at hl
    | cons a as =>
      rw [Vs_cons] at hvs
      obtain ⟨w, r, rfl, h1, h2⟩ := hvs
      rw [List.zip_cons_cons, List.lookup_cons] at hl ⊢
      cases hxy : (x == y) with
      | true => rw [hxy] at hl; simp at hl; subst hl; exact ⟨w, rfl, h1⟩
      | false => rw [hxy] at hl; exact ih as r h2 hl

section
variable {Γ : Cx} {k : Nat}
/-- a call of a def of the text, its names local or in cells -/
theorem CallOk.fnC {a : Addr} {o : Obj} {name : Str} {params : Arguments} {body : List Stmt} {scope : Scope} {pm cd doc : Value} {args : List PV} {r : PV}
    (ho : Γ.B.get? a = some o) (hd : o.data = .func (docDef name params body scope pm cd doc)) (hcd : Γ.B.CodeRec cd name)
    (hbind : ∀ vals : List Value, vals.length = args.length → bindArgs (docDef name params body scope pm cd doc) ⟨vals, []⟩ = pure ((params.args.map (·.arg)).zip vals))
    (hbody : Xs Γ k scope ((params.args.map (·.arg)).zip args) [] body (fun fl _ μ' => fl = .ret r))
    (hnd : (params.args.map (·.arg)).Nodup := by decide +kernel)
    (hloc : (params.args.map (·.arg)).all (fun x => isPlace (scope.names.lookup x)) = true := by decide +kernel)
    (hco : scope.isCoroutine = false := by kernel_rfl) (hgen : scope.isGenerator = false := by kernel_rfl) (hk : scope.kind = .function := by kernel_rfl) : CallOk Γ (k + 1) (.ref a) args r := by
  intro A n D s vals Q E hn hA ok hB hvs hD hQ
  have hlen := hvs.length
  have hmem : ∀ x kd, scope.names.lookup x = some kd → (x, kd) ∈ scope.names := fun x kd h => mem_of_lookup h
  refine wpR_call (codeR_call_function (by have := hA.depth; show _ < 1000; omega) (hB a o ho) hd hco hgen rfl (hcd.keeps hB) ?_)
  rw [hbind vals hlen]
  refine wpR_pure (toR (wpAny_newFunctionEnv_cells hk (fun x hx => ?_) fun env henv s' C => ⟨(ok.nolimit.keeps hB).keeps C.toInCall.keep, ?_⟩))
  · have h1 := (List.of_mem_zip hx).1
    have h2 := List.all_eq_true.mp hloc x.1 h1
    cases hq : scope.names.lookup x.1 with
    | none => rw [hq] at h2; cases h2
    | some kd =>
      rw [hq] at h2
      cases kd with
      | «local» => exact .inl hq
      | cell => exact .inr ⟨hq, cellsFrom_has _ _ _ _ (.inl (hmem _ _ hq))⟩
      | _ => cases h2
  · let F : Fm := ⟨s.heap.objs.size, cellsFrom (s.heap.objs.size + 1) scope.names [], name ++ ".<locals>.", some a, cd, some s.heap.objs.size, D⟩
    have eenv : env = F.env scope := henv
    subst eenv
    have hkeep : Kp s.heap s'.heap := C.toInCall.keep
    have habove : ∀ x c, (cellsFrom (s.heap.objs.size + 1) scope.names []).lookup x = some c → s.heap.get? c = none := fun x c hc => by
      have := C.above x c (mem_of_lookup hc)
      cases q : s.heap.get? c with
      | none => rfl
      | some o' => exact absurd (Heap.lt_size q) (Nat.lt_asymm this)
    have hkeys : (((params.args.map (·.arg)).zip vals).map (·.1)).Nodup := hnd.sublist (zip_keys _ _)
    have hvs' : Vs (Dm F []) s'.heap args vals := (hvs.grow hkeep).less fun b o _ hb => by
      rcases hb with hb | hb
      · exact hb
      · simp at hb
    have X : Sx Γ s.heap scope F ((params.args.map (·.arg)).zip args) [] s' := by
      refine ⟨⟨ok, hB.trans hkeep, ⟨_, C.toInCall.ns, fun x v h1 h2 => ?_⟩, fun x v h1 h2 => ?_, fun _ _ hm => (nomatch hm), fun b hb => hkeep.alive b (hD b hb)⟩,
        hkeep, hB, fresh_addr _, fun x hx => ?_, fun x c h1 => ⟨_, C.cell x c h1⟩, fun x y c _ h1 h2 => name_of_addr C.apart (mem_of_lookup h2) (mem_of_lookup h1), fun b hb => (nomatch hb), hD, List.nodup_nil⟩
      · obtain ⟨val, e1, e2⟩ := lookup_zip_V' _ _ _ hvs' h1
        exact ⟨val, bindL_at _ _ _ x val hkeys h2 e1, e2⟩
      · obtain ⟨val, e1, e2⟩ := lookup_zip_V' _ _ _ hvs' h1
        have hnl : scope.names.lookup x ≠ some .local := by rcases h2 with h2 | h2 <;> (rw [h2]; decide)
        have hx : x ∈ (params.args.map (·.arg)) := by
          have := (zip_keys (params.args.map (·.arg)) vals).subset (List.mem_map.mpr ⟨(x, val), mem_of_lookup e1, rfl⟩)
          exact this
        have hp := List.all_eq_true.mp hloc x hx
        have hcell : scope.names.lookup x = some .cell := by
          rcases h2 with h2 | h2
          · exact h2
          · rw [h2] at hp; cases hp
        obtain ⟨c, hc⟩ := Option.isSome_iff_exists.mp (cellsFrom_has scope.names (s.heap.objs.size + 1) [] x (.inl (hmem _ _ hcell)))
        refine ⟨c, val, hc, ?_, e2⟩
        have := C.cell x c hc
        rw [bindC_at _ _ _ x val hkeys hnl e1] at this
        exact this
      · obtain ⟨c, hc⟩ := Option.isSome_iff_exists.mp (cellsFrom_has scope.names (s.heap.objs.size + 1) [] x (.inl (hmem _ _ hx)))
        exact ⟨c, _, hc, habove x c hc, C.cell x c hc⟩
    refine codeR_func (hbody (A.deeper (F.env scope)) (n + 1) F s.heap _ _ _ (by omega) hA.deeper X fun fl σ' μ' f s'' hP X' sp hf => ?_)
    subst hP
    obtain ⟨val, rfl, hv⟩ := hf
    obtain ⟨h2, tk2, e2⟩ := C.toInCall.same
    refine hQ val s'' ⟨X'.keep, sp.gens.trans (by rw [e2]), sp.os.trans (by rw [e2])⟩ (hv.less fun b o _ hb => .inl hb)

theorem DefAt.callC {a : Addr} {name : Str} {params : Arguments} {body : List Stmt} {scope : Scope} {args : List PV} {r : PV} (h : DefAt Γ a name (params, body, scope))
    (hbody : Xs Γ k scope ((params.args.map (·.arg)).zip args) [] body (fun fl _ μ' => fl = .ret r))
    (hbind : ∀ (pm cd doc : Value) (vals : List Value), vals.length = args.length → bindArgs (docDef name params body scope pm cd doc) ⟨vals, []⟩ = pure ((params.args.map (·.arg)).zip vals))
    (hnd : (params.args.map (·.arg)).Nodup := by decide +kernel)
    (hloc : (params.args.map (·.arg)).all (fun x => isPlace (scope.names.lookup x)) = true := by decide +kernel)
    (hco : scope.isCoroutine = false := by kernel_rfl) (hgen : scope.isGenerator = false := by kernel_rfl) (hk : scope.kind = .function := by kernel_rfl) : CallOk Γ (k + 1) (.ref a) args r := by
  obtain ⟨o, pm, cd, doc, h1, h2, h3⟩ := h.out
  exact CallOk.fnC h1 h2 h3 (hbind pm cd doc) hbody hnd hloc hco hgen hk
end
end Mine

set_option maxRecDepth 100000
namespace Mine

section
variable {Γ : Cx} {k : Nat} {sc cs : Scope} {σ σ₁ σ₂ σ₃ : Loc} {μ : Own} {pos : Pos} {P : Fl → Loc → Own → Prop}

/-! ### targets that are tuples -/
theorem As.grown {target : Expr} {v : PV} (h : As Γ k sc σ μ target v σ₁ cs) {A : Around} {n : Nat} {F : Fm} {h₀ : Heap} {s s' : Shared} {val : Value} {Q : Unit → Shared → Prop} {E : Value → Shared → Prop}
    (hn : n + k ≤ 8) (hA : Lv n A) (X : Sx Γ h₀ sc F σ μ s cs) (hv : V (Dm F μ) s.heap v val) (g : Gr s s') (hQ : ∀ s'', Sx Γ h₀ sc F σ₁ μ s'' cs → Sp F μ μ s s'' → Q () s'') : wpAny Γ.M A (assign target (F.env sc) val) Q E s' :=
  h A n F h₀ s' val Q E hn hA (X.grow g) (hv.grow g.keep) fun s'' X' sp => hQ s'' X' ((Sp.gr g).trans sp)
def plainT : Expr → Bool
  | .Starred _ _ => false
  | _ => true
theorem assignEach1 {t : Expr} {ts : List Expr} {env : Env} (h : plainT t = true) : assignEach (t :: ts) env = (false, assign t env) :: assignEach ts env := by
  cases t <;> first | (cases h; done) | rfl
theorem assignEach2 {t1 t2 : Expr} {env : Env} (h1 : plainT t1 = true) (h2 : plainT t2 = true) : assignEach [t1, t2] env = [(false, assign t1 env), (false, assign t2 env)] := by
  rw [assignEach1 h1, assignEach1 h2]; rfl
theorem As.tuple2 {t1 t2 : Expr} {kd : Nat} {v1 v2 : PV} (h1 : As Γ k sc σ μ t1 v1 σ₁ cs) (h2 : As Γ k sc σ₁ μ t2 v2 σ₂ cs) (p1 : plainT t1 = true := by rfl) (p2 : plainT t2 = true := by rfl) : As Γ k sc σ μ (.Tuple [t1, t2] kd pos) (.tup [v1, v2]) σ₂ cs := by
  intro A n F h₀ s val Q E hn hA X hv hQ
  obtain ⟨a, items, rfl, hT, hvs⟩ := V_tup.mp hv
  rw [Vs_cons] at hvs
  obtain ⟨x1, r1, e1, hx1, hr1⟩ := hvs
  rw [Vs_cons] at hr1
  obtain ⟨x2, r2, e2, hx2, hr2⟩ := hr1
  rw [Vs_nil] at hr2
  subst hr2; subst e2
  have hi : items.size = 2 := by rw [← Array.length_toList, e1]; rfl
  refine wpAny_assign_Tuple hA.handled hT (by rw [assignEach2 p1 p2, hi]; rfl) (by rw [assignEach2 p1 p2]; rfl) fun h' hx => ?_
  rw [assignEach2 p1 p2, e1]
  have g : Gr s { s with heap := h' } := ⟨fun b o e => hx b o (Nat.ne_of_lt (Heap.lt_size e)) e, rfl, rfl⟩
  show wpAny _ _ (holding [x2] (assign t1 (F.env sc) x1) >>= fun _ => holding [] (assign t2 (F.env sc) x2) >>= fun _ => pure ()) _ _ _
  refine wpAny_bind (wpAny_holding (As.grown h1 hn hA X hx1 g fun s₂ X₂ sp₂ => ?_))
  refine wpAny_bind (wpAny_holding (h2 A n F h₀ s₂ x2 _ _ hn hA X₂ (X.step X₂ sp₂ hx2) fun s₃ X₃ sp₃ => wpAny_pure (hQ s₃ X₃ (sp₂.trans sp₃))))

/-! ### bytes -/
/-! ### zip of two lists (its own tuple is written again and again: no tuple may be known meanwhile) -/

end
end Mine

set_option maxRecDepth 100000
namespace Mine

section
variable {Γ : Cx} {k : Nat} {sc cs : Scope} {σ σ₁ σ₂ σ₃ : Loc} {μ μ₁ μ₂ : Own} {pos : Pos} {P : Fl → Loc → Own → Prop}

/-! ### enumerate -/
def enumL : Int → List PV → List PV
  | _, [] => []
  | i, x :: xs => .tup [.int i, x] :: enumL (i + 1) xs
def JEnum (it : Addr) (i1 : Addr) (D : Addr → Prop) (zs : List PV) (h : Heap) : Prop :=
  ∃ l i items xs old, ¬ D it ∧ ¬ D i1 ∧ ¬ D l ∧ it ≠ i1 ∧ l ≠ i1 ∧ l ≠ it ∧ IsEnum h it i1 ((i : Nat) : Int) old ∧ h.IsListIter i1 l i ∧ h.IsList l items ∧ Vs D h xs (items.toList.drop i) ∧ zs = enumL (i : Int) xs
theorem Iter.enum {A : Around} (hh : A.handled = none) (it i1 : Addr) : Iter Γ A it [it, i1] (JEnum it i1) true where
  move := by
    rintro D D' zs h h' hk hD ⟨l, i, items, xs, old, a1, a2, a3, a4, a5, a6, a7, ⟨o1, e1, c1, d1⟩, ⟨o2, e2, c2, m2, d2⟩, a10, a11⟩
    exact ⟨l, i, items, xs, old, fun d => a1 (hD _ _ a7 d), fun d => a2 (hD _ _ e1 d), fun d => a3 (hD _ _ e2 d), a4, a5, a6, hk _ _ a7 trivial (.inl a1), ⟨o1, hk _ _ e1 (by rw [d1]; trivial) (.inl a2), c1, d1⟩, ⟨o2, hk _ _ e2 (by rw [d2]; trivial) (.inl a3), c2, m2, d2⟩, a10.move' hk hD, a11⟩
  wrs := by
    rintro D zs h ⟨l, i, items, xs, old, a1, a2, a3, a4, a5, a6, a7, ⟨o1, e1, c1, d1⟩, a9, a10, a11⟩ b hb
    simp only [List.mem_cons, List.not_mem_nil, or_false] at hb
    rcases hb with rfl | rfl
    · exact ⟨a1, _, _, a7, rfl, by show Value.type "enumerate" ≠ Value.type "range"; decide⟩
    · exact ⟨a2, o1, _, e1, d1, by rw [c1]; decide⟩
  item := by
    rintro D x zs s target Q E ⟨l, i, items, xs, old, a1, a2, a3, a4, a5, a6, a7, a8, a9, a10, a11⟩ hal hnd hQ
    cases xs with
    | nil => cases a11
    | cons y ys =>
      simp only [enumL, List.cons.injEq] at a11
      obtain ⟨rfl, rfl⟩ := a11
      obtain ⟨v, ev, hv, hvs⟩ := dropStep a10
      have ht := hnd rfl
      cases target with
      | Tuple elts kd tp =>
        refine wpAny_pyNext_enum_item a7 a8 a9 ev a4 fun h₁ q1 q2 q3 q4 hk₁ => ?_
        refine wpAny_letOwnedTupleGo_enum q1 fun h₂ r1 hs₂ => ?_
        have hs₂' : Heap.SameBut it h₁ h₂ := hs₂
        have hk : ∀ b o, b ∉ [it, i1] → s.heap.get? b = some o → h₂.get? b = some o := fun b o hb e => (hs₂'.2 b (fun q => hb (by simp [q]))).trans (hk₁ b o (fun q => hb (by simp [q])) (fun q => hb (by simp [q])) e)
        obtain ⟨o1, e1, c1, d1⟩ := id a8
        have hnode : ∀ b o, s.heap.get? b = some o → Node D b o → h₂.get? b = some o := fun b o hb hn => hk b o (fun q => by
          simp only [List.mem_cons, List.not_mem_nil, or_false] at q
          rcases q with rfl | rfl
          · rw [a7] at hb; cases hb
            rcases hn with ⟨_, _, hn, _⟩ | ⟨hn, _⟩
            · cases hn
            · exact absurd hn (by show Value.type "enumerate" ≠ Value.type "range"; decide)
          · rw [e1] at hb; cases hb
            rcases hn with ⟨_, _, hn, _⟩ | ⟨hn, _⟩
            · rw [d1] at hn; cases hn
            · rw [c1] at hn; exact absurd hn (by decide)) hb
        have lt : ∀ {c o}, s.heap.get? c = some o → s.heap.objs.size ≠ c := fun e => Nat.ne_of_gt (Heap.lt_size e)
        refine hQ _ h₂ _ ?_ ⟨l, i + 1, items, ys, v, a1, a2, a3, a4, a5, a6, ?_, ?_, ?_, hvs.move hnode (fun _ _ _ d => d), ?_⟩ hk
        · refine V_tup.mpr ⟨_, #[.int i s.toks, v], rfl, ⟨_, (hs₂'.2 _ (lt a7)).trans q3, rfl, _, rfl⟩, ?_⟩
          show Vs _ _ [.int (i : Int), y] [.int i s.toks, v]
          exact Vs_cons.mpr ⟨_, _, rfl, V.int _ _, Vs_cons.mpr ⟨v, [], rfl, hv.move hnode (fun _ _ _ d => d), Vs_nil.mpr rfl⟩⟩
        · exact r1
        · exact q2.extBut hs₂'.extBut (Ne.symm a4)
        · obtain ⟨o, ho, r⟩ := a9; exact ⟨o, hk _ _ (by simp [a5, a6]) ho, r⟩
        · congr 1
      | _ => cases ht
  done := by
    rintro D s Q E ⟨l, i, items, xs, old, a1, a2, a3, a4, a5, a6, a7, a8, a9, a10, a11⟩ hQ
    cases xs with
    | cons y ys => cases a11
    | nil => exact wpAny_pyNext_enum_end hh a7 a8 a9 (dropEnd a10) fun h' he => ⟨rfl, hQ h' _ fun b o hb e => he b o (fun q => hb (by simp [q])) e⟩
  self := by
    rintro D xs s Q E ⟨l, i, items, xs', old, a1, a2, a3, a4, a5, a6, a7, a8, a9, a10, a11⟩ hQ
    have hT : s.TypeIs (.ref it) "enumerate" := ⟨_, a7, rfl⟩
    refine wpAny_pyIter_slot hT PySem.F.slot_enumerate_iter (wpAny_call_entry PySem.F.slot_enumerate_iter hT PySem.F.entry_enumerate_iter ?_ (PySem.F.args_enumerate_iter_1 _))
    show wpAny _ _ (ret (.ref it)) _ _ s
    exact wpAny_pure ⟨_, rfl, "enumerate", _, hT, PySem.F.slot_enumerate_next.lookup, hQ⟩
theorem EvI.enum {x : Str} {xp cp : Pos} {args : List Expr} {us : List PV} (hf : Ev Γ k sc σ μ (.Name x xp) (.obj (.type "enumerate"))) (ha : Es Γ k sc σ μ cp args [.lst us]) (hp : args.any isStarred = false := by kernel_rfl) :
    EvI Γ k sc σ μ (.Call (.Name x xp) args [] cp) (enumL 0 us) true := by
  intro A n F s Q E hn hA st hQ
  refine wpR_CallName (hf A n F s _ _ hn hA st fun fv s₁ g₁ hfv => ?_)
  rw [V_obj] at hfv; subst hfv
  refine wpR_callWith (P := fun h => Kp Γ.B h) (starEach_plain_any args hp) KeepOk.type ?_
  refine wpR_evalArgs hp (ha A n F s₁ _ _ hn hA (st.grow g₁) fun vals s₂ g₂ hvs => ?_)
  have st₂ := (st.grow g₁).grow g₂
  refine ⟨st₂.base, ?_⟩
  rw [Vs_cons] at hvs
  obtain ⟨v1, r1, rfl, hv1, hr1⟩ := hvs
  rw [Vs_nil] at hr1; subst hr1
  obtain ⟨l, xs, rfl, n1, m1, e1⟩ := V_lst.mp hv1
  show wpR _ _ (PySem.call (.type "enumerate") [.ref l] []) _ E s₂
  refine toR (call_enumerate_list m1 fun h' z1 z2 z3 hk => ?_)
  have lt1 : l < s₂.heap.objs.size := by obtain ⟨o, ho, _⟩ := m1; exact Heap.lt_size ho
  have nD : ∀ j, ¬ Dm F μ (s₂.heap.objs.size + j) := fun j d => by
    obtain ⟨o, ho⟩ := Option.isSome_iff_exists.mp (st₂.dom _ d)
    exact absurd (Heap.lt_size ho) (Nat.not_lt.mpr (Nat.le_add_right _ _))
  have J : JEnum (s₂.heap.objs.size + 1) s₂.heap.objs.size (Dm F μ) (enumL 0 us) h' :=
    ⟨l, 0, xs, us, .none, nD 1, nD 0, n1, Nat.succ_ne_self _, Nat.ne_of_lt lt1, Nat.ne_of_lt (Nat.lt_succ_of_lt lt1), z1, z2, (by obtain ⟨o, ho, r⟩ := m1; exact ⟨o, hk _ _ ho, r⟩), by simpa using e1.grow hk, rfl⟩
  have hT : ({ s₂ with heap := h' } : Shared).TypeIs (.ref (s₂.heap.objs.size + 1)) "enumerate" := ⟨_, z1, rfl⟩
  refine toR ((Iter.enum (Γ := Γ) hA.handled _ _).self _ _ { s₂ with heap := h' } _ _ J (hQ _ _ _ _ (Iter.enum hA.handled _ _) J ((g₁.trans g₂).trans (Gr.heap _ hk)) fun b hb => ?_))
  simp only [List.mem_cons, List.not_mem_nil, or_false] at hb
  cases q : s.heap.get? b with
  | none => rfl
  | some o =>
    have := Heap.lt_size ((g₁.trans g₂).keep _ _ q)
    rcases hb with rfl | rfl
    · exact absurd this (Nat.not_lt.mpr (Nat.le_succ _))
    · exact absurd this (Nat.lt_irrefl _)

/-! ### bytearray.extend of bytes -/
theorem MethOk.ba_extend {l m : List UInt8} (hz : l.length + m.length < 2 ^ 20) : MethOk Γ "bytearray.extend" (.barr l) [.bytes m] (.barr (l ++ m)) := by
  intro A n D s a vals Q E _ hA ok hB ha hDa hv hD hQ
  rw [Vs_cons] at hv
  obtain ⟨v, r, rfl, hv, hr⟩ := hv
  rw [Vs_nil] at hr; subst hr
  obtain ⟨t, rfl⟩ := V_bytes.mp hv
  have ha' : s.heap.get? a = some (baObj l) := ha
  have hTb := typeIs_bytes s m.toArray t
  refine wpR_call (codeR_call_builtin (by kernel_rfl) F.ba_slot_extend.plain F.ba_entry_extend (F.ba_slot_extend.check _ _ _ _ _ _ _ _ (typeIs_ba ha') (F.ba_args_extend _ _) ?_))
  unfold Builtin.«bytearray.extend»
  refine wpR_bind (wpR_pure ?_)
  dsimp only
  refine wpR_bind (toR (wpAny_specialOf hTb F.b_buffer ?_))
  simp only [Option.isSome_some, if_true]
  refine wpR_bind (wpR_rule ?_)
  refine wpR_bind (toR (wpAny_payload_ba ha' ?_))
  refine wpR_bind ?_
  unfold Builtin.Bytes.takeBufferQuiet?
  refine wpR_bind (wpR_attempt ?_)
  unfold Builtin.Bytes.takeBuffer?
  refine wpR_bind (toR (wpAny_specialOf hTb F.b_buffer ?_))
  dsimp only
  refine wpR_bind (toR (wpAny_slotIsOwn_b hTb ?_))
  simp only [Bool.not_true, Bool.false_eq_true, if_false]
  refine wpR_bind (toR (wpAny_specialOf hTb F.b_buffer ?_))
  refine wpR_bind (toR (wpAny_buffer_b ?_))
  refine wpR_pure (wpR_pure ?_)
  show wpR _ _ (if (!m.toArray.isEmpty) = true then (Builtin.Bytes.checkResize (.ref a) >>= fun _ => Builtin.Bytes.write (.ref a) (· ++ m.toArray) >>= fun _ => ret .none) else (Builtin.Bytes.write (.ref a) (· ++ m.toArray) >>= fun _ => ret .none)) _ _ _
  have fin : wpR (model Γ.prog Γ.w) A.in1 (Builtin.Bytes.write (.ref a) (· ++ m.toArray) >>= fun _ => ret .none) (fun fin s' => match fin with | .done f => (match Except.ok f with | Except.ok (.ret v) => Q v s' | Except.ok _ => False | Except.error e => E e s') | .again c' => c'.quiet = true ∧ codeR (model Γ.prog Γ.w) A c' (fun r s' => match r with | .ok (.ret v) => Q v s' | .ok _ => False | .error e => E e s') s') (fun e s' => E e s') s := by
    refine wpR_bind (toR (wpAny_write (l' := l ++ m) ha' (by simp) (by rw [sizeLine_eq]; simp; omega) fun h' hs' ha2 => ?_))
    exact wpR_pure (hQ h' s.toks hs' ha2)
  split
  · exact wpR_bind (wpR_checkResize hA.guards ha' fin)
  · exact fin
end
end Mine

set_option maxRecDepth 100000
namespace Mine

section
variable {Γ : Cx} {k : Nat} {sc cs : Scope} {σ σ₁ σ₂ : Loc} {μ μ₁ μ₂ : Own} {pos : Pos} {P : Fl → Loc → Own → Prop} {a : Addr}

/-! ### lists: +, * -/
theorem Op2.addL {xs ys : List PV} (h : xs.length + ys.length < 2 ^ 20) : Op2 Γ (binaryOp .Add) (.lst xs) (.lst ys) (.lst (xs ++ ys)) := by
  intro A n D s x y Q E _ _ _ _ hx hy hD hQ
  obtain ⟨l, items, rfl, _, ⟨⟨cls, dd, data, sl⟩, ho, hc, m, hd⟩, e1⟩ := V_lst.mp hx
  obtain ⟨l2, items2, rfl, _, ⟨⟨cls2, dd2, data2, sl2⟩, ho2, hc2, m2, hd2⟩, e2⟩ := V_lst.mp hy
  simp only at hc hd hc2 hd2
  subst hc hd hc2 hd2
  have h1 : items.size = xs.length := by simpa using e1.length
  have h2 : items2.size = ys.length := by simpa using e2.length
  refine concat_meets ⟨_, ho, rfl⟩ ⟨_, ho2, rfl⟩ noFill_list_add seq_list_add PySem.F.slot_list_add PySem.F.entry_list_add (PySem.F.args_list_add_2 _ _) (list_addW l l2 items items2 m m2 dd dd2 sl sl2 (by rw [sizeLine_eq]; omega)) ⟨ho, ho2, ?_⟩
  have hv := V.newList hD (e1.append e2)
  have e : (items.toList ++ items2.toList).toArray = items ++ items2 := by simp
  rw [e] at hv
  exact hQ _ _ (Gr.heap _ (Kp.push _ _)) hv
theorem Vs.rep {D : Addr → Prop} {h : Heap} {xs : List PV} {vs : List Value} (e : Vs D h xs vs) : ∀ n : Nat, Vs D h (List.replicate n xs).flatten (List.replicate n vs).flatten
  | 0 => Vs_nil.mpr rfl
  | n + 1 => by
    rw [List.replicate_succ, List.replicate_succ, List.flatten_cons, List.flatten_cons]
    exact e.append (Vs.rep e n)
theorem Op2.mulL {xs : List PV} {i : Int} (hlo : -(2 ^ 62 : Int) ≤ i) (hhi : i < 2 ^ 62) (h : xs.length * i.toNat < 2 ^ 20) : Op2 Γ (binaryOp .Mult) (.lst xs) (.int i) (.lst (List.replicate i.toNat xs).flatten) := by
  intro A n D s x y Q E _ _ _ _ hx hy hD hQ
  obtain ⟨l, items, rfl, _, ⟨⟨cls, d, data, sl⟩, ho, hc, m, hd⟩, e1⟩ := V_lst.mp hx
  obtain ⟨u, rfl⟩ := V_int.mp hy
  simp only at hc hd
  subst hc hd
  have h1 : items.size = xs.length := by simpa using e1.length
  have hsz' : items.size * i.toNat ≤ 2 ^ 20 := by rw [h1]; omega
  refine wpAny_binaryOp_repeat_ref (T := "list") (U := "int") (by decide) ⟨_, ho, rfl⟩ (fun s' => typeIs_int s' i u) noFill_list_mul PySem.F.fills_int_mul PySem.F.slot_int_rmul repeat_list PySem.F.slot_int_index.lookup
    (call_meets PySem.F.slot_int_rmul (typeIs_int s i u) PySem.F.entry_int_rmul (PySem.F.args_int_rmul_2 _ _) (lm_int_rmul_list_any i u l items m d sl)
      ⟨ho, rfl, ⟨_, ho, rfl⟩, call_meets PySem.F.slot_list_mul ⟨_, ho, rfl⟩ PySem.F.entry_list_mul (PySem.F.args_list_mul_2 _ _)
        (lm_list_mul_any l items m d sl i u (by simp [Builtin.List.listFitsIndex]; omega) (by omega) (by simp [Builtin.List.listTooLong, sizeLine]; omega))
        ⟨ho, ?_⟩⟩)
  rw [listMul_foldl_if]
  exact hQ _ _ (Gr.heap _ (Kp.push _ _)) (V.newList hD (e1.rep _))

/-! ### list.extend, list.insert -/
/-! ### what an owned list says -/
theorem Ev.subOwn {x : Str} {p' : Pos} {slice : Expr} {xs : List PV} {i : Int} {r : PV} (hx : σ.lookup x = some (.ref a)) (hi : Ev Γ k sc σ (μ₁ ++ (a, .list xs) :: μ₂) slice (.int i))
    (hr : (0 ≤ i ∧ xs[i.toNat]? = some r) ∨ (i < 0 ∧ -(xs.length : Int) ≤ i ∧ xs[(i + xs.length).toNat]? = some r)) (hz : xs.length < 2 ^ 62)
    (hl : isVar (sc.names.lookup x) = true := by decide +kernel) (hk : sc.kind = .function := by kernel_rfl) (hd : (x == ("__debug__" : Str)) = false := by decide +kernel) (hcd : (x == ("__classdict__" : Str)) = false := by decide +kernel)
    (hs : ∀ o i, subscripted slice false o i = operate [o, i] (getItem o i) := by intro _ _; kernel_rfl) :
    Ev Γ k sc σ (μ₁ ++ (a, .list xs) :: μ₂) (.Subscript (.Name x p') slice pos) r := by
  intro A n F s Q E hn hA st hQ
  refine wpR_Subscript (Ev.name (k := k) hx hl hk hd hcd A n F s _ _ hn hA st fun o s₁ g₁ ho₁ => hi A n F s₁ _ _ hn hA (st.grow g₁) fun iv s₂ g₂ hi₂ => ?_)
  rw [V_ref] at ho₁; subst ho₁
  obtain ⟨t, rfl⟩ := V_int.mp hi₂
  have st₂ := (st.grow g₁).grow g₂
  obtain ⟨items, m, ho, e⟩ := st₂.own a (.list xs) (by simp)
  have hlen : items.size = xs.length := by simpa using e.length
  have hL : s₂.heap.IsList a items := ⟨_, ho, rfl, m, rfl⟩
  refine toR (tail_any hL.typeIs slot_list_getitem.lookup ?_ (hs _ _))
  rcases hr with ⟨h0, hr⟩ | ⟨h0, h1, hr⟩
  · obtain ⟨v, e1, e2⟩ := e.get _ hr
    have hlt : i.toNat < xs.length := (List.getElem?_eq_some_iff.mp hr).1
    exact wpAny_getItem_list hL h0 (by omega) (by simpa using e1) (hQ _ _ (g₁.trans g₂) e2)
  · obtain ⟨v, e1, e2⟩ := e.get _ hr
    exact wpAny_getItem_list_neg hL h0 (by omega) (by omega) (by rw [hlen]; simpa using e1) (hQ _ _ (g₁.trans g₂) e2)

/-! ### methods of values -/
def HasMeth (a : PV) (T : String) : Prop := ∀ (D : Addr → Prop) (s : Shared) (v : Value), V D s.heap a v → s.TypeIs v T ∧ ∀ b, v ≠ .ref b
theorem HasMeth.bytes {l : List UInt8} : HasMeth (.bytes l) "bytes" := fun D s v hv => by
  obtain ⟨t, rfl⟩ := V_bytes.mp hv
  exact ⟨typeIs_bytes s _ _, fun b q => nomatch q⟩
theorem HasMeth.str {l : List Nat} : HasMeth (.str l) "str" := fun D s v hv => by
  obtain ⟨t, rfl⟩ := V_str.mp hv
  exact ⟨typeIs_str s _ _, fun b q => nomatch q⟩
theorem Ev.meth {o : Expr} {name : Str} {ap : Pos} {args : List Expr} {T id : String} {v r : PV} {vs : List PV} (ho : Ev Γ k sc σ μ o v) (hm : HasMeth v T) (ha : Es Γ k sc σ μ pos args vs) (hc : CallOk Γ k (.builtin id) (v :: vs) r)
    (pa : PlainAttrs T) (slot : Slot T name id) (hty : typeOf (.builtin id) = pure (.type "method_descriptor"))
    (hbase : ∀ env, attributeBase o name env (eval o env) = eval o env := by intro _; kernel_rfl)
    (hp : args.any isStarred = false := by kernel_rfl) (hn30 : args.length < 30 := by decide +kernel)
    (hline : ∀ F : Fm, methodCallPos true o (F.env sc) ap pos = pure pos := by intro _; kernel_rfl) :
    Ev Γ k sc σ μ (.Call (.Attribute o name ap) args [] pos) r := by
  intro A n F s Q E hn hA st hQ
  refine wpR_Call_method (hbase _) (form_plain hp hn30) (hline F) pa slot hty ?_
  refine ho A n F s _ _ hn hA st fun ov s₁ g₁ hov => ?_
  obtain ⟨hT, hnr⟩ := hm _ _ _ hov
  refine ⟨hT, fun b e => absurd e (hnr b), ?_⟩
  refine wpR_callWith (P := fun h => Kp Γ.B h) (starEach_plain_any args hp) (KeepOk.builtin) ?_
  refine wpR_evalArgs hp (ha A n F s₁ _ _ hn hA (st.grow g₁) fun vals s₂ g₂ hvs => ?_)
  have st₂ := (st.grow g₁).grow g₂
  refine ⟨st₂.base, ?_⟩
  show wpR _ _ (PySem.call (.builtin id) ([ov] ++ vals) []) _ E s₂
  exact hc A n _ s₂ (ov :: vals) _ E (by omega) hA st.ok st₂.base (Vs_cons.mpr ⟨ov, vals, rfl, hov.grow g₂.keep, hvs⟩) st₂.dom fun v s₃ g₃ hv => hQ v s₃ ((g₁.trans g₂).trans g₃) hv

namespace F
theorem b_owner : Manifest.owners.lookup (String.ofList ['s', 'e', 't', 'y', 'b'].reverse) = some Manifest.sig_bytes := by kernel_rfl
theorem b_slot_upper : Slot "bytes" "upper" "bytes.upper" :=
  .of (owner := "bytes") (n := "upper") (by rw [typeLookup_type, builtinLookup_eq_fast]; kernel_rfl) (by decide +kernel) (by decide +kernel) (by decide +kernel)
    (by first | exact .inl (by decide +kernel) | exact .inr (by decide +kernel)) (by rw [isSubtype_type]; kernel_rfl)
theorem b_entry_upper : entryFor table "bytes.upper" = some Builtin.«bytes.upper» := by first | exact entryFor_of_fast (by kernel_rfl) | exact entryFor_of_tree (by kernel_rfl)
theorem b_args_upper (a : Value) : argsOk "bytes.upper" ⟨[a], []⟩ := by
  unfold argsOk; rw [signature?_of (id := "bytes.upper") (n := ['r', 'e', 'p', 'p', 'u']) (o := ['s', 'e', 't', 'y', 'b']) (by kernel_rfl) b_owner]; kernel_rfl
theorem b_type_upper : typeOf (.builtin "bytes.upper") = pure (.type "method_descriptor") := by show builtinType _ = _; rw [builtinType_eq_fast]; kernel_rfl
theorem b_plainAttrs : PlainAttrs "bytes" :=
  ⟨⟨"bytes.__getattribute__", by rw [typeLookup_type, builtinLookup_eq_fast]; kernel_rfl, by decide +kernel⟩, by rw [typeLookup_type, builtinLookup_eq_fast]; kernel_rfl⟩
end F
theorem meets_upper (b : Array UInt8) (t : Tok) : Meets (Builtin.«bytes.upper» ⟨[.bytes b t], []⟩) (fun _ R s => b.size ≤ sizeLine ∧ ∀ t' k, R (.ok (.ret (.bytes (b.toList.map Builtin.Bytes.toUpper).toArray t'))) { s with toks := k }) := by
  intro prog w A R s h
  show wpAny _ _ (mkBytes (b.toList.map Builtin.Bytes.toUpper).toArray >>= fun v => ret v) _ _ s
  refine wpAny_bind (wpAny_mkBytes ?_ (by simpa using h.1))
  exact wpAny_pure (h.2 _ _)
theorem CallOk.upper {l : List UInt8} (hz : l.length < 2 ^ 20) : CallOk Γ k (.builtin "bytes.upper") [.bytes l] (.bytes (l.map Builtin.Bytes.toUpper)) := by
  intro A n D s vals Q E _ _ _ _ hvs _ hQ
  rw [Vs_cons] at hvs
  obtain ⟨v, r, rfl, hv, hr⟩ := hvs
  rw [Vs_nil] at hr; subst hr
  obtain ⟨t, rfl⟩ := V_bytes.mp hv
  refine toR (call_meets F.b_slot_upper (typeIs_bytes s _ _) F.b_entry_upper (F.b_args_upper _) (meets_upper _ _) ⟨by rw [sizeLine_eq]; simp; omega, fun t' k => hQ _ _ (Gr.toks k) (V.bytes _ _)⟩)

/-! ### x, y = e -/
theorem wpR_Assign_Tuple {M : Model} {A : Around} {E : Value → Shared → Prop} {s : Shared} {env : Env} {elts k tpos value pos} {Q : Flow → Shared → Prop}
    (h : wpR M A (eval value env) (fun v s₁ => wpR M A (assign (.Tuple elts k tpos) env v) (fun _ => Q .next) E s₁) E s)
    (hs : swapsWithSole [.Tuple elts k tpos] value pos.line env = pure false)
    (hw : swappedStores [.Tuple elts k tpos] value env = pure none) :
    wpR M A (exec (.Assign [.Tuple elts k tpos] value pos) env) Q E s := by
  rw [PyProof.Rows.exec_Assign]
  refine wpR_bind (wpR_standAt ?_)
  rw [hs]
  refine wpR_bind (wpR_pure ?_)
  rw [if_neg (by decide)]
  refine wpR_bind (wpR_mono h (fun v s₁ h₁ => ?_) fun _ _ x => x)
  rw [hw]
  refine wpR_bind (wpR_pure ?_)
  show wpR M A (do assignAll v [assign (.Tuple elts k tpos) env]; pure .next) Q E s₁
  exact wpR_bind (wpR_mono h₁ (fun _ _ x => wpR_pure x) fun _ _ x => x)
theorem X1.assignT {elts : List Expr} {kd : Nat} {tp : Pos} {e : Expr} {v : PV} (he : Ev Γ k sc σ μ e v) (ha : As Γ k sc σ μ (.Tuple elts kd tp) v σ₁) (h : P .next σ₁ μ)
    (hs : ∀ F : Fm, swapsWithSole [.Tuple elts kd tp] e pos.line (F.env sc) = pure false := by intro _; kernel_rfl)
    (hw : ∀ F : Fm, swappedStores [.Tuple elts kd tp] e (F.env sc) = pure none := by intro _; kernel_rfl) : X1 Γ k sc σ μ (.Assign [.Tuple elts kd tp] e pos) P := by
  intro A n F h₀ s Q E hn hA X hQ
  refine wpR_Assign_Tuple (he A n F s _ _ hn hA X.toSt fun val s₁ g hv => ?_) (hs F) (hw F)
  exact toR (ha A n F h₀ s₁ val _ _ hn hA (X.grow g) hv fun s₂ X₂ sp₂ => hQ .next _ μ _ s₂ h X₂ ((Sp.gr g).trans sp₂) rfl)

/-! ### try, nothing raised -/
theorem wpR_tryStmt {M : Model} {A : Around} {E : Value → Shared → Prop} {s : Shared} {env : Env} {body orelse : Sem Flow} {h₀ : ExceptHandler} {hs : List ExceptHandler} {Q : Flow → Shared → Prop}
    (h : wpR M A body (fun f s₁ => match f with | .next => wpR M A orelse Q E s₁ | f => Q f s₁)
      (fun e s₁ => wpR M A (noteFrame e env) (fun _ s₂ => wpR M A (setFlight e none) (fun _ s₃ => wpR M A (handleBy e env (h₀ :: hs)) Q E s₃) E s₂) E s₁) s) :
    wpR M A (tryStmt false body (h₀ :: hs) orelse [] env) Q E s := by
  unfold tryStmt
  simp only [List.isEmpty_nil, if_true, List.isEmpty_cons, Bool.false_and, Bool.false_eq_true, if_false]
  refine wpR_bind (wpR_attempt (wpR_mono h (fun f s₁ h₁ => ?_) fun e s₁ h₁ => ?_))
  · cases f <;> first | exact h₁ | exact wpR_pure h₁
  · exact wpR_bind (wpR_mono h₁ (fun _ _ h₂ => wpR_bind h₂) fun _ _ x => x)
theorem X1.try {body orelse : List Stmt} {h₀ : ExceptHandler} {hs : List ExceptHandler} (h : Xs Γ k sc σ μ body (fun fl σ' μ' => match fl with | .next => Xs Γ k sc σ' μ' orelse P | fl => P fl σ' μ')) : X1 Γ k sc σ μ (.Try body (h₀ :: hs) orelse [] pos) P := by
  intro A n F h₀ s Q E hn hA X hQ
  rw [arm_exec_Try]
  refine wpR_bind (wpR_standAt (wpR_tryStmt (h A n F h₀ s _ _ hn hA X fun fl σ' μ' f s' hP X' sp hf => ?_)))
  cases fl with
  | next =>
    have : f = .next := hf
    subst this
    exact hP A n F h₀ s' _ _ hn hA X' fun fl2 σ2 μ2 f2 s2 hP2 X2 sp2 hf2 => hQ fl2 σ2 μ2 f2 s2 hP2 X2 (sp.trans sp2) hf2
  | brk => have : f = .brk := hf; subst this; exact hQ _ _ _ _ _ hP X' sp rfl
  | cont => have : f = .cont := hf; subst this; exact hQ _ _ _ _ _ hP X' sp rfl
  | ret v =>
    obtain ⟨val, rfl, hv⟩ := hf
    exact hQ _ _ _ _ _ hP X' sp ⟨val, rfl, hv⟩
end
end Mine

namespace Mine

/-! ## the head, for the logic over restricted contexts
The library's head asks for wpAny under the claim's caller. The run itself starts on one context, and that one holds no decoder:
so wpR under the caller is enough. -/

theorem good_caller : GoodC (⟨.builtin "claim.caller" {}, none, none, [], none⟩ : Ctx) := ⟨by decide +kernel, fun _ h => nomatch h⟩

theorem halts_of_wpR {prog : Program} {w : World} {t : Sem Fin} {s : Shared} {R : Result → Shared → Prop} (hreg : s.asleep)
    (h : wpR (model prog w) callerA t (fun fin s' => ∃ f, fin = .done f ∧ (R (.ok f) s' ∧ leftWithCleanup s'.gens = false)) (fun e s' => R (.error e) s' ∧ leftWithCleanup s'.gens = false) s) :
    ∃ n r s' s'', runN (denote table) prog w n s ⟨t, .builtin "claim.caller" {}, default, []⟩ = .halted (outcomeOf r) s' ∧
      schedN (denote table) prog w n (.single s ⟨t, .builtin "claim.caller" {}, default, []⟩) = .halted (outcomeOf r) s' ∧ s'.forget = s''.forget ∧ R r s'' := by
  have hwp : Sem.wp (model prog w) ⟨.builtin "claim.caller" {}, none, none, [], none⟩ t (Sem.finPost (model prog w) ⟨.builtin "claim.caller" {}, none, none, [], none⟩ fun r s' => R r s' ∧ leftWithCleanup s'.gens = false)
      (fun e _ s' => R (.error e) s' ∧ leftWithCleanup s'.gens = false) default s := by
    refine Sem.wp_mono _ _ t (fun fin p' s' h' => ?_) (fun _ _ _ h' => h') _ s (h _ default caller_in good_caller)
    obtain ⟨f, rfl, hf⟩ := h'
    exact hf
  obtain ⟨n, r, s₁, s₂, hs, hn, hfo, hR⟩ := wp_halts_full (M := model prog w) (R := R) hreg hwp
  exact ⟨n, r, s₂, s₁, hn, hs, hfo, hR⟩

theorem callFromR {c : ClaimW} {tree : List Value → Sem Fin} {w : World} {s : Shared} {free : Addr → Prop} {gens : Prop} {kept : Heap → Prop} (hz : s.asleep) (hgens : s.gens = #[])
    (hspec : ∀ args, c.pre args = true → WData.layableAll args = true → ∀ ord : List DictEntry → List DictEntry, (∀ l, (ord l).Perm l) →
      ∃ vs s₁, layAllW c.records (classAt s.heap) w.params ord args s = some (vs, s₁) ∧
        wpR (model c.prog w) callerA (tree vs) (fun fin s' => ∃ f, fin = .done f ∧ (c.Ends s args vs s₁ (.ok f) s' ∧ s'.os = s.os ∧ AllBare s'.gens ∧ kept s'.heap))
          (fun e s' => c.Ends s args vs s₁ (.error e) s' ∧ s'.os = s.os ∧ AllBare s'.gens ∧ kept s'.heap) s₁) :
    c.CallFrom (fun vs => ⟨tree vs, .builtin "claim.caller" {}, default, []⟩) w free gens kept s := by
  intro args hpre hlay ord hord
  obtain ⟨vs, s₁, hlaid, hcode⟩ := hspec args hpre hlay ord hord
  have hal := layAllW_rest _ _ _ hlaid
  obtain ⟨k, r, s', s'', hrun, hsched, hfo, hcase, hos, hkp⟩ := halts_of_wpR (prog := c.prog) (w := w) (t := tree vs) (s := s₁)
    (R := fun r s' => c.Ends s args vs s₁ r s' ∧ s'.os = s.os ∧ kept s'.heap) (Shared.asleep_of_life hal.2.2.2 hz)
    (wpR_mono hcode (fun fin s' ⟨f, e, h1, h2, h3, h4⟩ => ⟨f, e, ⟨h1, h2, h4⟩, leftWithCleanup_false_of_bare h3⟩) fun e s' ⟨h1, h2, h3, h4⟩ => ⟨⟨h1, h2, h4⟩, leftWithCleanup_false_of_bare h3⟩)
  obtain ⟨eh, _, _, eo, _⟩ := Shared.forget_eq hfo
  have hends := hcase.congr eh
  have hkept : kept s'.heap := by rw [eh]; exact hkp
  have hos' : s'.os = s.os := eo.trans hos
  have hlife : s'.heap.life = s.heap.life := (runN_life _ _ _ hrun).trans hal.2.2.2
  refine ⟨vs, s₁, hlaid, k, _, s', hsched, ?_, (fun _ i x hx => by rw [hgens] at hx; simp at hx), hkept, by rw [hlife], Shared.rest_eq hos'⟩
  rcases hends with ⟨v, rfl, d1, d2, d3, d4, d5⟩ | ⟨e, ob, cls, rfl, d1, d2, d3, d4, d5⟩
  · exact .inl ⟨v, rfl, d1, d2, d3, fun b o y _ => d4 b o y, d5⟩
  · exact .inr ⟨e, ob, cls, rfl, d1, d2, d3, d4, fun b o y _ => d5 b o y⟩

abbrev WalkR (q : Program) (loose : List Str) (XP : (Str → Option Value) → Heap → Prop) (YP : World → Heap → Prop) (r : RowW) (d : DefRec) (kwd : List (Str × Expr)) (run : Value → List Value → Sem Value) : Prop :=
  ∀ (w : World) (s₀ s₁ : Shared) (mg mb : Str → Option Value), Ground q loose r.records XP w s₀ mg mb s₁.heap → YP w s₁.heap → ∀ (a : Addr) (o : Obj) (pm cd doc dV kV : Value), s₁.heap.get? a = some o →
    o.data = .func { docDef d.name d.params d.body d.scope pm cd doc with defaults := dV, kwdefaults := kV } → s₁.heap.CodeRec cd d.name → Dflts mg s₁.heap d.params kwd dV kV → mg d.name = some (.ref a) → s₁.gens = #[] →
    ∀ (args : List WData) (vals : List Value) (as : List Addr), r.claim.pre args = true → WData.layableAll args = true → ReadsAllW r.records (classAt s₀.heap) s₁.heap vals args as → WellAll w.params s₁.heap vals args → (∀ a ∈ as, (a == sysModules) = false) →
      wpR (model r.prog w) callerA (run (.ref a) vals) (fun v s' => GoodWG r.claim (classAt s₀.heap) (ExcName.means s₀.heap) args s₁ (.ok (.ret v)) s')
        (fun e s' => GoodWG r.claim (classAt s₀.heap) (ExcName.means s₀.heap) args s₁ (.error e) s') s₁

theorem PySem.W.holds_open {r : OpenRow} {q : Program} {loose : List Str} {Xt : Shared → Bool} {XP : (Str → Option Value) → Heap → Prop} {α : Type} {Yf : Shared → α} {Ya : World → α} {YP : World → Heap → Prop} {d : DefRec} {kwd : List (Str × Expr)} {N : Nat}
    (left : LeftO r.prog q loose Xt Yf Ya N) (hY : ∀ w s, Yf s = Ya w → YP w s.heap) (hYk : ∀ w h h', YP w h → (∀ b o, h.get? b = some o → h'.get? b = some o) → YP w h')
    (hX : ∀ s, Xt s = true → XP (s.heap.nsMap mainGlobals) s.heap) (hXk : ∀ mg h h', XP mg h → (∀ b o, h.get? b = some o → h'.get? b = some o) → XP mg h')
    (hdef : defOf q r.name = some (d, kwd)) (hp : r.prog.theDef r.name = some (d.params, d.body, d.scope)) (hk : kwWritten? d.params.kwonlyargs d.params.kw_defaults = some kwd) (hRf : ∀ s, Xt s = true → RecFacts r.records s.heap) (hwr : (!r.writes || r.records.isEmpty) = true)
    (k1 : r.wellSaid = true) (ok : (chainsOk q && opensWell r.prog && (frees r.toRowW && r.within.isEmpty)) = true) (hb : r.prog.bare) (hw : r.toRowW.promised)
    (call : WalkR q loose XP YP r.toRowW d kwd fun f vs => PySem.call f vs) : r.Holds := by
  obtain ⟨ok, k5⟩ := Bool.and_eq_true_iff.mp ok
  obtain ⟨hch, o1⟩ := Bool.and_eq_true_iff.mp ok
  obtain ⟨k5, k6⟩ := Bool.and_eq_true_iff.mp k5
  obtain ⟨hsame, hu, ha, hap, hm⟩ := frees_parts k5
  refine ⟨k1, hw, ⟨⟨hb, o1, by show r.makers.map _ = []; rw [hm]; rfl⟩, hw.witness, fun w => ⟨(left.behind hX hch w).1, fun s' hs' => ?_⟩⟩⟩
  obtain ⟨s₀, hf, hg0, s, hT, hz, hgens, hg, G00, y⟩ := (left.behind (XP := fun mg h => XP mg h ∧ RecFacts r.records h) (fun s hs => ⟨hX s hs, hRf s hs⟩) hch w).2 s' hs'
  have G0 : Ground q loose [] XP w s (s.heap.nsMap mainGlobals) (s.heap.nsMap builtinsNs) s.heap := ⟨G00.T, G00.B, G00.D, G00.TE, G00.TD, G00.W, G00.X.1, G00.cls, G00.has, G00.apart, G00.once, G00.K⟩
  have RF := G00.X.2
  have hT' := hT
  refine ⟨s₀, hf, hg0, s, hT, (fun n hn => ?_), RF.1, RF.2.1, ?_⟩
  · obtain rfl : n = r.name := by split at hn <;> simp_all
    exact pinned_of_view hg G0 hdef hp hk
  have hgens : s.gens = #[] := Array.eq_empty_of_size_eq_zero (beq_iff_eq.mp hgens)
  have G : Ground q loose r.records XP w s _ _ s.heap := RF.ground G0
  refine callFromR (c := r.toRowW.claim) hz hgens fun args hpre hlay ord hord => ?_
  obtain ⟨⟨vs, s₁⟩, hlaid⟩ := Option.isSome_iff_exists.mp (layAllW_isSome (P := w.params) (ord := ord) G.has args r.args s (pre_splitW hpre).1)
  have keeps := layAllW_keeps _ _ _ hlaid
  have hal := layAllW_rest _ _ _ hlaid
  obtain ⟨as, hrd, hin, hold⟩ := reads_layAllW hord _ _ _ hlaid hlay s₁.heap (fun _ _ e => e)
  have L : Laid r.records w s s₁ args vs as := ⟨⟨ord, hord, hlaid⟩, hrd, hin, hold, keeps, hal.1.trans hgens, hal.2.2.1⟩
  have G₁ := G.keeps hXk keeps
  obtain ⟨a, o, pm, cd, doc, dV, kV, h1, h2, h3, h4, h5⟩ := G₁.fn hdef
  have h := call w s s₁ _ _ G₁ (hYk _ _ _ (hY w s y) keeps) a o pm cd doc dV kV h2 h3 h4 h5 (defOf_name hdef ▸ h1) L.gens args vs as hpre hlay L.reads L.well (L.low G.low)
  have hi := ident_freeW hu ha hap
  have hwi : r.toRowW.claim.within = [] := List.isEmpty_iff.mp k6
  refine ⟨vs, s₁, hlaid, ?_⟩
  refine wpR_bind (toR (wpAny_nsGet G₁.T.g ?_))
  rw [h1]
  exact wpR_bind (wpR_mono h (fun v s' g => wpR_pure ⟨_, rfl, have z := g.laid (c := r.toRowW.claim) hsame hwi hi L; ⟨z.1, z.2.1, z.2.2, fun q => ⟨namesKept_of hT' hg r.keeps keeps g.2.1.old, noTable hwr q⟩⟩⟩)
    fun e s' g => have z := g.laid (c := r.toRowW.claim) hsame hwi hi L; ⟨z.1, z.2.1, z.2.2, fun q => ⟨namesKept_of hT' hg r.keeps keeps g.2.1.old, noTable hwr q⟩⟩)

theorem Lv.top : Lv 0 callerA := ⟨rfl, by decide, by decide, rfl⟩

/-- from the contract of 'law' to what the head asks -/
theorem law_called {Γ : Cx} {k : Nat} {ns : List Int} {l fa : Addr} {vs : List Value} {s₁ : Shared} {Q : Value → Shared → Prop} {E : Value → Shared → Prop}
    (ok : Γ.Ok) (hB : Γ.B = s₁.heap) (hk : k ≤ 8) (hl : s₁.heap.IsList l vs.toArray) (hi : IntsAre vs ns)
    (hc : CallOk Γ k (.ref fa) [.lst (ns.map .int)] (.bool true))
    (hQ : ∀ s', Kp s₁.heap s'.heap → s'.gens = s₁.gens → s'.os = s₁.os → Q (.bool true) s') : wpR Γ.M callerA (PySem.call (.ref fa) [.ref l]) Q E s₁ := by
  refine hc callerA 0 (fun _ => False) s₁ [.ref l] Q E (by omega) Lv.top ok (by rw [hB]; exact fun _ _ e => e) ?_ (fun _ h => h.elim) fun val s' g hv => ?_
  · exact Vs_cons.mpr ⟨_, [], rfl, V_lst.mpr ⟨l, vs.toArray, rfl, id, hl, by simpa using Vs.of_ints hi⟩, Vs_nil.mpr rfl⟩
  · rw [V_bool] at hv; subst hv
    exact hQ s' g.keep g.gens g.os
end Mine

namespace Mine

def adLoop (delta divs : Int) : Int := if h : 455 < delta then adLoop (delta / 35) (divs + 36) else divs + 36 * delta / (delta + 38)
termination_by delta.toNat
decreasing_by omega

def adaptF (delta : Int) (first : Bool) (n : Int) : Int := adLoop ((if first then delta / 700 else delta / 2) + (if first then delta / 700 else delta / 2) / n) 0

/-! ## adapt in numbers -/
end Mine

namespace Mine

/-! ## the plain law of generate_generalized_integer -/

def tF (j bias : Int) : Int := if 36 * (j + 1) - bias < 1 then 1 else if 26 < 36 * (j + 1) - bias then 26 else 36 * (j + 1) - bias
theorem tF_ge (j bias : Int) : 1 ≤ tF j bias := by unfold tF; repeat' split <;> omega
theorem tF_le (j bias : Int) : tF j bias ≤ 26 := by unfold tF; repeat' split <;> omega

def dgs : List UInt8 := [97, 98, 99, 100, 101, 102, 103, 104, 105, 106, 107, 108, 109, 110, 111, 112, 113, 114, 115, 116, 117, 118, 119, 120, 121, 122, 48, 49, 50, 51, 52, 53, 54, 55, 56, 57]
def dB (d : Int) : UInt8 := dgs.getD d.toNat 0

theorem ediv_small {a b : Int} (h : 0 < a) (hb : 2 ≤ b) : a / b < a := by
  have := Int.ediv_lt_of_lt_mul (a := a) (b := a) (c := b) (by omega) (by
    have : a * 2 ≤ a * b := Int.mul_le_mul_of_nonneg_left hb (by omega)
    omega)
  exact this
theorem next_lt {N t : Int} (h1 : 1 ≤ t) (h2 : t ≤ 26) (h : ¬ N < t) : ((N - t) / (36 - t)).toNat < N.toNat := by
  have hb : (N - t) / (36 - t) ≤ N - t := by
    by_cases hz : N - t = 0
    · rw [hz]; simp
    · have := ediv_small (a := N - t) (b := 36 - t) (by omega) (by omega)
      omega
  omega

/-- the numeral's figures -/
def ggiD (N bias : Int) (j : Int) : List Int :=
  if h : N < tF j bias then [N]
  else (tF j bias + (N - tF j bias) % (36 - tF j bias)) :: ggiD ((N - tF j bias) / (36 - tF j bias)) bias (j + 1)
termination_by N.toNat
decreasing_by exact next_lt (tF_ge _ _) (tF_le _ _) h

def ggiB (N bias : Int) : List UInt8 := (ggiD N bias 0).map dB

theorem ggiD_length_le : ∀ (m : Nat) (N bias j : Int), N < 10 ^ m → (ggiD N bias j).length ≤ m + 1
  | 0, N, bias, j, h => by
    rw [ggiD, dif_pos (by have := tF_ge j bias; omega)]; simp
  | m + 1, N, bias, j, h => by
    rw [ggiD]
    split
    · simp
    · rename_i hn
      have h1 := tF_ge j bias
      have h2 := tF_le j bias
      have : (N - tF j bias) / (36 - tF j bias) < 10 ^ m := by
        refine Int.ediv_lt_of_lt_mul (by omega) ?_
        have h3 : (10 : Int) ^ m * 10 ≤ 10 ^ m * (36 - tF j bias) := Int.mul_le_mul_of_nonneg_left (by omega) (Int.pow_nonneg (by omega))
        rw [Int.pow_succ] at h
        omega
      have := ggiD_length_le m _ bias (j + 1) this
      simpa using this
end Mine

namespace Mine

/-! ## the plain law 04: adding numerals -/
theorem ggiD_range : ∀ (m : Nat) (N bias j : Int), N.toNat ≤ m → 0 ≤ N → ∀ d ∈ ggiD N bias j, 0 ≤ d ∧ d < 36 := by
  intro m
  induction m using Nat.strongRecOn with
  | ind m ih =>
    intro N bias j hm h0 d hd
    have h1 := tF_ge j bias
    have h2 := tF_le j bias
    rw [ggiD] at hd
    split at hd
    · simp at hd; subst hd; omega
    · rename_i hn
      rcases List.mem_cons.mp hd with rfl | hd
      · have := Int.emod_nonneg (N - tF j bias) (b := 36 - tF j bias) (by omega)
        have := Int.emod_lt_of_pos (N - tF j bias) (b := 36 - tF j bias) (by omega)
        omega
      · have := next_lt h1 h2 hn
        exact ih _ (by omega) _ bias (j + 1) (Nat.le_refl _) (Int.ediv_nonneg (by omega) (by omega)) d hd
theorem ggiD_dig {N bias : Int} (h0 : 0 ≤ N) : ∀ d ∈ ggiD N bias 0, 0 ≤ d ∧ d < 36 := ggiD_range _ N bias 0 (Nat.le_refl _) h0

end Mine

namespace Mine

/-! ## the plain law 05: a numeral, cut -/
end Mine

namespace Mine
/-! ## generate_integers in numbers -/
def giD (base : Int) : Int → Int → List Int → List Int
  | _, _, [] => []
  | p, b, d :: ds => ggiD d b 0 ++ giD base (p + 1) (adaptF d (decide (p = 0)) (base + p + 1)) ds
theorem giD_length (base : Int) : ∀ (ds : List Int) (p b : Int), (∀ d ∈ ds, d < 10 ^ 20) → (giD base p b ds).length ≤ 21 * ds.length
  | [], _, _, _ => by simp [giD]
  | d :: ds, p, b, h => by
    have h1 := ggiD_length_le 20 d b 0 (h d List.mem_cons_self)
    have h2 := giD_length base ds (p + 1) (adaptF d (decide (p = 0)) (base + p + 1)) fun x hx => h x (List.mem_cons_of_mem _ hx)
    simp only [giD, List.length_append, List.length_cons]; omega
end Mine

namespace Mine
/-! ## thresholds of a bias that adapt gives -/
/-! ## capitals -/
def upB (c : UInt8) : UInt8 := if 97 ≤ c ∧ c ≤ 122 then c - 32 else c
def dU (d : Int) : UInt8 := upB (dB d)
theorem dU_val : ∀ d : Nat, d < 36 → ((dU (d : Int)).toNat : Int) = if (d : Int) < 26 then (d : Int) + 65 else (d : Int) + 22 := by decide +kernel
theorem map_upB (ds : List Int) : (ds.map dB).map upB = ds.map dU := by rw [List.map_map]; rfl
/-! ## law 07 in numbers -/
end Mine

namespace Mine
/-! ## small helps for the walks -/
theorem Paired.maps {α β γ : Type} {R : β → γ → Prop} {f : α → β} {g : α → γ} : ∀ (l : List α), (∀ a ∈ l, R (f a) (g a)) → Paired R (l.map f) (l.map g)
  | [], _ => .nil
  | a :: l, h => .cons (h a List.mem_cons_self) (Paired.maps l fun b hb => h b (List.mem_cons_of_mem _ hb))
theorem filterMap_some {α β : Type} (f : α → β) (l : List α) : (l.map fun a => some (f a)).filterMap id = l.map f := by
  induction l with
  | nil => rfl
  | cons a l ih => simp
theorem cut_to {α : Type} (l : List α) (c : Nat) : cutL l none (some (c : Int)) = l.take c := by
  unfold cutL
  simp only [Option.elim, clipAt_nat, List.drop_zero, Nat.sub_zero]
  by_cases h : c ≤ l.length
  · rw [Nat.min_eq_left h]
  · rw [Nat.min_eq_right (by omega), List.take_of_length_le (Nat.le_refl _), List.take_of_length_le (by omega)]
theorem rngItems_map : ∀ (n : Nat) (a : Int), rngItems a 1 n = (List.range n).map fun (p : Nat) => PV.int (a + (p : Int))
  | 0, a => rfl
  | n + 1, a => by
    rw [rngItems, rngItems_map n (a + 1), List.range_succ_eq_map, List.map_cons, List.map_map]
    congr 1
    · congr 1; omega
    · refine List.map_congr_left fun p _ => ?_
      show PV.int (a + 1 + (p : Int)) = PV.int (a + ((p + 1 : Nat) : Int))
      congr 1; omega
theorem toUpper_eq : Builtin.Bytes.toUpper = upB := by
  funext c
  unfold Builtin.Bytes.toUpper upB Builtin.Bytes.isLower
  by_cases h : 97 ≤ c ∧ c ≤ 122
  · rw [if_pos h, if_pos (by simpa using h)]
  · rw [if_neg h, if_neg (by simpa using h)]
theorem len1 {α : Type} {l : List α} (h : l.length = 1) : ∃ x, l = [x] := by
  cases l with
  | nil => cases h
  | cons x l => cases l with
    | nil => exact ⟨x, rfl⟩
    | cons y l => cases h
theorem len2 {α : Type} {l : List α} (h : l.length = 2) : ∃ x y, l = [x, y] := by
  cases l with
  | nil => cases h
  | cons x l =>
    obtain ⟨y, rfl⟩ := len1 (l := l) (by simpa using h)
    exact ⟨x, y, rfl⟩
theorem len3 {α : Type} {l : List α} (h : l.length = 3) : ∃ x y z, l = [x, y, z] := by
  cases l with
  | nil => cases h
  | cons x l =>
    obtain ⟨y, z, rfl⟩ := len2 (l := l) (by simpa using h)
    exact ⟨x, y, z, rfl⟩
theorem len4 {α : Type} {l : List α} (h : l.length = 4) : ∃ x y z u, l = [x, y, z, u] := by
  cases l with
  | nil => cases h
  | cons x l =>
    obtain ⟨y, z, u, rfl⟩ := len3 (l := l) (by simpa using h)
    exact ⟨x, y, z, u, rfl⟩
end Mine

set_option maxRecDepth 100000
namespace Mine

section
variable {Γ : Cx} {k : Nat} {sc : Scope} {σ : Loc} {μ : Own} {pos : Pos}

/-! ## text -/
theorem str_len (l : List Nat) : (Str.mk l.toArray).length = l.length := by show l.toArray.size = _; simp
theorem str_app (a b : List Nat) : (Str.mk a.toArray) ++ (Str.mk b.toArray) = Str.mk (a ++ b).toArray := by
  show Str.mk (a.toArray ++ b.toArray) = _
  simp
theorem Op2.addS {a b : List Nat} (h : a.length + b.length < 2 ^ 20) : Op2 Γ (binaryOp .Add) (.str a) (.str b) (.str (a ++ b)) := by
  intro A n D s x y Q E _ _ _ _ hx hy _ hQ
  obtain ⟨t, rfl⟩ := V_str.mp hx; obtain ⟨u, rfl⟩ := V_str.mp hy
  refine PyProof.Rows.add_str (fun t' tk => hQ _ _ (Gr.toks tk) ?_) (by rw [str_len, str_len, sizeLine_eq]; omega)
  rw [str_app]; exact V.str _ _
theorem Op2.iaddS {a b : List Nat} (h : a.length + b.length < 2 ^ 20) : Op2 Γ (inplaceOp .Add) (.str a) (.str b) (.str (a ++ b)) := by
  intro A n D s x y Q E _ _ _ _ hx hy _ hQ
  obtain ⟨t, rfl⟩ := V_str.mp hx; obtain ⟨u, rfl⟩ := V_str.mp hy
  refine PyProof.Rows.iadd_str (fun t' tk => hQ _ _ (Gr.toks tk) ?_) (by rw [str_len, str_len, sizeLine_eq]; omega)
  rw [str_app]; exact V.str _ _
theorem Op2.eqS {a b : List Nat} : Op2 Γ (compareOp .Eq) (.str a) (.str b) (.bool (a == b)) := by
  intro A n D s x y Q E _ _ _ _ hx hy _ hQ
  obtain ⟨t, rfl⟩ := V_str.mp hx; obtain ⟨u, rfl⟩ := V_str.mp hy
  exact P.eq_str (hQ _ _ (Gr.refl s) (by simpa using V.bool _))
theorem Op2.neS {a b : List Nat} : Op2 Γ (compareOp .NotEq) (.str a) (.str b) (.bool (a != b)) := by
  intro A n D s x y Q E _ _ _ _ hx hy _ hQ
  obtain ⟨t, rfl⟩ := V_str.mp hx; obtain ⟨u, rfl⟩ := V_str.mp hy
  exact P.ne_str (hQ _ _ (Gr.refl s) (by simpa using V.bool _))
def isNoneP : PV → Bool
  | .none => true
  | _ => false
def noObj : PV → Bool
  | .obj _ => false
  | _ => true
theorem V.isNone {D : Addr → Prop} {h : Heap} {p : PV} {v : Value} (ho : noObj p = true) (e : V D h p v) : (v == .none) = isNoneP p := by
  cases p with
  | none => rw [V_none] at e; subst e; rfl
  | bool b => rw [V_bool] at e; subst e; rfl
  | int i => obtain ⟨t, rfl⟩ := V_int.mp e; rfl
  | str l => obtain ⟨t, rfl⟩ := V_str.mp e; rfl
  | bytes l => obtain ⟨t, rfl⟩ := V_bytes.mp e; rfl
  | obj w => cases ho
  | tup xs => obtain ⟨a, items, rfl, _⟩ := V_tup.mp e; rfl
  | lst xs => obtain ⟨a, items, rfl, _⟩ := V_lst.mp e; rfl
  | lsn xs => obtain ⟨a, items, n, rfl, _⟩ := V_lsn.mp e; rfl
  | ref a => rw [V_ref] at e; subst e; rfl
  | rng a b c => obtain ⟨r, t, u, z, rfl, _⟩ := V_rng.mp e; rfl
theorem Op2.is0 {p : PV} (ho : noObj p = true) : Op2 Γ (compareOp .Is) p .none (.bool (isNoneP p)) := by
  intro A n D s x y Q E _ _ _ _ hx hy _ hQ
  rw [V_none] at hy; subst hy
  refine is_none_gen ?_
  rw [hx.isNone ho]
  exact hQ _ _ (Gr.refl s) (V.bool _)
theorem Op2.isNot0 {p : PV} (ho : noObj p = true) : Op2 Γ (compareOp .IsNot) p .none (.bool (!isNoneP p)) := by
  intro A n D s x y Q E _ _ _ _ hx hy _ hQ
  rw [V_none] at hy; subst hy
  refine isnot_none_gen ?_
  rw [hx.isNone ho]
  exact hQ _ _ (Gr.refl s) (V.bool _)
theorem CallOk.len_str {l : List Nat} (h : l.length < 2 ^ 62) : CallOk Γ k (.builtin "len") [.str l] (.int l.length) := by
  intro A n D s vals Q E _ _ _ _ hvs _ hQ
  rw [Vs_cons] at hvs
  obtain ⟨v, r, rfl, hv, hr⟩ := hvs
  rw [Vs_nil] at hr; subst hr
  obtain ⟨t, rfl⟩ := V_str.mp hv
  refine toR (P.len_str (by rw [str_len]; omega) (hQ _ _ (Gr.toks _) ?_))
  rw [str_len]; exact V.int _ _
theorem CallOk.chr {i : Int} (h0 : 0 ≤ i) (h1 : i ≤ 1114111) : CallOk Γ k (.builtin "chr") [.int i] (.str [i.toNat]) := by
  intro A n D s vals Q E _ _ _ _ hvs _ hQ
  rw [Vs_cons] at hvs
  obtain ⟨v, r, rfl, hv, hr⟩ := hvs
  rw [Vs_nil] at hr; subst hr
  obtain ⟨t, rfl⟩ := V_int.mp hv
  exact toR (chr_of_range h0 h1 (hQ _ _ (Gr.toks _) (V.str [i.toNat] _)))
theorem CallOk.ord {c : Nat} : CallOk Γ k (.builtin "ord") [.str [c]] (.int c) := by
  intro A n D s vals Q E _ _ _ _ hvs _ hQ
  rw [Vs_cons] at hvs
  obtain ⟨v, r, rfl, hv, hr⟩ := hvs
  rw [Vs_nil] at hr; subst hr
  obtain ⟨t, rfl⟩ := V_str.mp hv
  exact toR (P.ord_of_char (hQ _ _ (Gr.toks _) (V.int _ _)))
/-! ### slices and items -/
theorem getItem_slice {prog : Program} {w : World} {A : Around} {E : Value → Shared → Prop} {s : Shared} {x : Str} {t : Tok} {sl : Addr} {vl vu : Value} {lo hi : Option Int} {Q : Value → Shared → Prop}
    (hs : s.heap.IsSliceOf sl vl vu .none) (pl : IsPart vl lo) (pu : IsPart vu hi) (hz : x.length ≤ sizeLine) (hQ : ∀ t' k, Q (.str (Txt.slice x lo hi) t') { s with toks := k }) : wpAny (model prog w) A (getItem (.str x t) (.ref sl)) Q E s := by
  cases pl with
  | none =>
    cases pu with
    | none => exact wpAny_getItem_str_slice (l := none) (u := none) (st := none) hs rfl (post_val_or_str ⟨Nat.le_trans (Txt.slice_le x _ _) hz, fun t' k => hQ t' k⟩)
    | int j uj => exact wpAny_getItem_str_slice (l := none) (u := some (j, uj)) (st := none) hs rfl (post_val_or_str ⟨Nat.le_trans (Txt.slice_le x _ _) hz, fun t' k => hQ t' k⟩)
  | int i ui =>
    cases pu with
    | none => exact wpAny_getItem_str_slice (l := some (i, ui)) (u := none) (st := none) hs rfl (post_val_or_str ⟨Nat.le_trans (Txt.slice_le x _ _) hz, fun t' k => hQ t' k⟩)
    | int j uj => exact wpAny_getItem_str_slice (l := some (i, ui)) (u := some (j, uj)) (st := none) hs rfl (post_val_or_str ⟨Nat.le_trans (Txt.slice_le x _ _) hz, fun t' k => hQ t' k⟩)
theorem SliceOk.strTo {l : List Nat} {c : Nat} (hc : c ≤ l.length) (hz : l.length < 2 ^ 20) : SliceOk Γ (.str l) none (some (c : Int)) none (.str (l.take c)) := by
  intro A n D s x sl vl vu vs Q E _ _ hv hD hs pl pu ps hQ
  obtain ⟨t, rfl⟩ := V_str.mp hv
  cases ps
  refine getItem_slice hs pl pu (by rw [str_len, sizeLine_eq]; omega) fun t' k => hQ _ _ (Gr.toks k) ?_
  have e : Txt.slice ⟨l.toArray⟩ none (some (c : Int)) = ⟨(l.take c).toArray⟩ := by
    show StrLaws.sliceText ⟨l.toArray⟩ none (some (c : Int)) = _
    rw [StrLaws.sliceText_to ⟨by omega, by simp; omega⟩]
    simp
  rw [e]; exact V.str _ _
theorem SliceOk.strFrom {l : List Nat} {c : Nat} (hc : c ≤ l.length) (hz : l.length < 2 ^ 20) : SliceOk Γ (.str l) (some (c : Int)) none none (.str (l.drop c)) := by
  intro A n D s x sl vl vu vs Q E _ _ hv hD hs pl pu ps hQ
  obtain ⟨t, rfl⟩ := V_str.mp hv
  cases ps
  refine getItem_slice hs pl pu (by rw [str_len, sizeLine_eq]; omega) fun t' k => hQ _ _ (Gr.toks k) ?_
  have e : Txt.slice ⟨l.toArray⟩ (some (c : Int)) none = ⟨(l.drop c).toArray⟩ := by
    show StrLaws.sliceText ⟨l.toArray⟩ (some (c : Int)) none = _
    rw [StrLaws.sliceText_from ⟨by omega, by simp; omega⟩]
    simp only [Int.toNat_natCast]
    rw [List.take_of_length_le (by simp)]
  rw [e]; exact V.str _ _
theorem Op2.itemS {l : List Nat} {i c : Nat} (h : l[i]? = some c) (hz : l.length < 2 ^ 20) : Op2 Γ getItem (.str l) (.int (i : Int)) (.str [c]) := by
  intro A n D s x y Q E _ _ _ _ hv hy _ hQ
  obtain ⟨t, rfl⟩ := V_str.mp hv
  obtain ⟨u, rfl⟩ := V_int.mp hy
  have hlt : i < l.length := (List.getElem?_eq_some_iff.mp h).1
  refine P.getItem_str (c := c) (by simp; omega) ?_ (hQ _ _ (Gr.toks _) (V.str [c] _))
  rw [str_len]
  have e : seqIndex? (i : Int) l.length = some i := by
    unfold seqIndex?
    simp
    omega
  rw [e]
  simpa using h

/-! ### join -/
theorem strsAre {D : Addr → Prop} {h : Heap} : ∀ {ls : List (List Nat)} {vs : List Value}, Vs D h (ls.map .str) vs → StrsAre vs (ls.map fun l => Str.mk l.toArray)
  | [], vs, e => by simp only [List.map_nil, Vs_nil] at e; subst e; exact .nil
  | l :: ls, vs, e => by
    simp only [List.map_cons, Vs_cons] at e
    obtain ⟨v, r, rfl, e2, e3⟩ := e
    obtain ⟨t, rfl⟩ := V_str.mp e2
    exact .cons _ _ (strsAre e3)
theorem join_flat : ∀ (ls : List (List Nat)), Str.join ⟨#[]⟩ (ls.map fun l => Str.mk l.toArray) = Str.mk ls.flatten.toArray
  | [] => rfl
  | [l] => by show Str.mk l.toArray = _; simp
  | l :: m :: ls => by
    have ih := join_flat (m :: ls)
    show Str.mk l.toArray ++ ⟨#[]⟩ ++ Str.join ⟨#[]⟩ ((m :: ls).map fun l => Str.mk l.toArray) = _
    rw [ih]
    show Str.mk ((l.toArray ++ #[]) ++ (m :: ls).flatten.toArray) = _
    simp
theorem CallOk.join {ls : List (List Nat)} (hw : (ls.map (·.length)).sum + ls.length < 2 ^ 20) : CallOk Γ k (.builtin "str.join") [.str [], .lst (ls.map .str)] (.str ls.flatten) := by
  intro A n D s vals Q E _ hA _ _ hvs _ hQ
  rw [Vs_cons] at hvs
  obtain ⟨v, r, rfl, hv, hr⟩ := hvs
  rw [Vs_cons] at hr
  obtain ⟨v2, r2, rfl, hv2, hr2⟩ := hr
  rw [Vs_nil] at hr2; subst hr2
  obtain ⟨t, rfl⟩ := V_str.mp hv
  obtain ⟨a, items, rfl, _, hl, he⟩ := V_lst.mp hv2
  refine toR (join_listW hl (strsAre he) (by decide) ?_ fun t' k => hQ _ _ (Gr.toks k) ?_)
  · rw [List.map_map, List.length_map]
    have : ((fun x : Str => x.length) ∘ fun l : List Nat => Str.mk l.toArray) = (·.length) := by funext l; exact str_len l
    rw [this]; omega
  · have e : Txt.join ⟨([] : List Nat).toArray⟩ (ls.map fun l => Str.mk l.toArray) = Str.mk ls.flatten.toArray := (StrLaws.glued_eq_join _ _).trans (join_flat ls)
    rw [e]; exact V.str _ _
theorem flatten_ones {α β : Type} (f : α → β) : ∀ l : List α, (l.map fun a => [f a]).flatten = l.map f
  | [] => rfl
  | a :: l => by rw [List.map_cons, List.flatten_cons, flatten_ones f l]; rfl

/-! ### max, rfind -/
end
end Mine

set_option maxRecDepth 100000
namespace Mine
section
variable {Γ : Cx} {k : Nat}
theorem Lv.room {n : Nat} {A : Around} (h : Lv n A) (hn : n ≤ 8) : A.units + 64 < cLine := by
  have := h.units
  show A.units + 64 < _
  unfold cLine
  omega
/-! ### lists of ints: ==, != -/
end
end Mine

namespace Mine
/-! ## insertion_sort in numbers -/
def stepC (c : Int) : Int := if 1114111 < c then 63 else c
def putN (base : List Nat) (p : Int) (c : Int) : List Nat := base.take p.toNat ++ c.toNat :: base.drop p.toNat
theorem putN_length (base : List Nat) (p c : Int) : (putN base p c).length = base.length + 1 := by
  unfold putN; simp [List.length_take, List.length_drop]; omega
def insF : List Nat → Int → Int → List Int → List Nat
  | base, _, _, [] => base
  | base, char, pos, d :: ds =>
    insF (putN base ((pos + (d + 1)) % ((base.length : Int) + 1)) (stepC (char + (pos + (d + 1)) / ((base.length : Int) + 1)))) (stepC (char + (pos + (d + 1)) / ((base.length : Int) + 1))) ((pos + (d + 1)) % ((base.length : Int) + 1)) ds
/-- no code point too great -/
def noOv : List Nat → Int → Int → List Int → Prop
  | _, _, _, [] => True
  | base, char, pos, d :: ds => char + (pos + (d + 1)) / ((base.length : Int) + 1) ≤ 1114111 ∧
    noOv (putN base ((pos + (d + 1)) % ((base.length : Int) + 1)) (char + (pos + (d + 1)) / ((base.length : Int) + 1))) (char + (pos + (d + 1)) / ((base.length : Int) + 1)) ((pos + (d + 1)) % ((base.length : Int) + 1)) ds
theorem stepC_id {c : Int} (h : c ≤ 1114111) : stepC c = c := by unfold stepC; rw [if_neg (by omega)]
theorem ggiD_pos (N bias j : Int) : 1 ≤ (ggiD N bias j).length := by rw [ggiD]; split <;> simp
theorem giD_dig (base : Int) : ∀ (ds : List Int) (p b : Int), (∀ d ∈ ds, 0 ≤ d) → ∀ x ∈ giD base p b ds, 0 ≤ x ∧ x < 36
  | [], _, _, _, x, h => nomatch h
  | d :: ds, p, b, hd, x, h => by
    simp only [giD, List.mem_append] at h
    rcases h with h | h
    · exact ggiD_dig (hd d List.mem_cons_self) x h
    · exact giD_dig base ds _ _ (fun y hy => hd y (List.mem_cons_of_mem _ hy)) x h
def strictL : List Nat := [115, 116, 114, 105, 99, 116]
end Mine

namespace Mine
/-! ## law 09 in numbers -/
theorem filterMap_if {α β : Type} (p : α → Bool) (f : α → β) : ∀ l : List α, (l.map fun a => if p a then some (f a) else none).filterMap id = (l.filter p).map f
  | [] => rfl
  | a :: l => by
    rw [List.map_cons, List.filter_cons]
    cases h : p a
    · simp [filterMap_if p f l]
    · simp [filterMap_if p f l]
end Mine

set_option maxRecDepth 100000
namespace Mine

/-! ## sorted -/

/-- the tree of questions, answered by c -/
def kRun {α : Type} (c : Nat → Nat → Bool) : KasT α → α
  | .ret a => a
  | .ask i j k => kRun c (k (c i j))
/-- all that is asked lies below n -/
def KIn {α : Type} (n : Nat) : KasT α → (α → Prop) → Prop
  | .ret a, P => P a
  | .ask i j k, P => i < n ∧ j < n ∧ ∀ b, KIn n (k b) P
theorem KIn.bind {α β : Type} {n : Nat} {P' : α → Prop} {P : β → Prop} {f : α → KasT β} : ∀ (t : KasT α), KIn n t P' → (∀ a, P' a → KIn n (f a) P) → KIn n (t.bind f) P
  | .ret a, h, hf => hf a h
  | .ask i j k, h, hf => ⟨h.1, h.2.1, fun b => KIn.bind (k b) (h.2.2 b) hf⟩
theorem KIn.run {α : Type} {n : Nat} {P : α → Prop} (c : Nat → Nat → Bool) : ∀ (t : KasT α), KIn n t P → P (kRun c t)
  | .ret a, h => h
  | .ask i j k, h => KIn.run c (k (c i j)) (h.2.2 _)
theorem KIn.wp {α : Type} {n : Nat} {P : α → Prop} {cmp : Nat → Nat → (Bool → Shared → Prop) → Shared → Prop} {c : Nat → Nat → Bool} {s : Shared} (hc : ∀ i j C, i < n → j < n → C (c i j) s → cmp i j C s) {Q : α → Shared → Prop} :
    ∀ (t : KasT α), KIn n t P → Q (kRun c t) s → t.kasWp cmp Q s
  | .ret a, _, h => h
  | .ask i j k, hk, h => hc i j _ hk.1 hk.2.1 (KIn.wp hc (k (c i j)) (hk.2.2 _) h)

def Ent (n : Nat) (p : Array Nat) : Prop := p.toList.Perm (List.range n)
theorem Ent.lt {n : Nat} {p : Array Nat} (h : Ent n p) : ∀ x, x ∈ p.toList → x < n := fun x hx => by simpa using h.mem_iff.mp hx
theorem Ent.at {n : Nat} {p : Array Nat} (h : Ent n p) (h0 : 0 < n) (i : Nat) : p.getD i 0 < n := by
  by_cases hi : i < p.size
  · have : p.getD i 0 = p[i] := by simp [Array.getD, hi]
    rw [this]; exact h.lt _ (by simp)
  · have : p.getD i 0 = 0 := by simp [Array.getD, hi]
    omega
theorem Ent.perm {n : Nat} {p q : Array Nat} (h : Ent n p) (hp : q.Perm p) : Ent n q := (Array.perm_iff_toList_perm.mp hp).trans h

section
variable {n : Nat}
theorem asc_in {p : Array Nat} (h : Ent n p) (h0 : 0 < n) : ∀ (f m : Nat), KIn n (kas_asc p f m) (fun _ => True)
  | 0, m => trivial
  | f + 1, m => ⟨h.at h0 _, h.at h0 _, fun b => by
    cases b
    · exact asc_in h h0 f (m + 1)
    · exact trivial⟩
theorem rev_ent {p : Array Nat} (h : Ent n p) (i j : Nat) : Ent n (kas_rev p i j) := h.perm (mirror_perm _ _ _ _)
theorem desc_in (h0 : 0 < n) : ∀ (f : Nat) (p : Array Nat) (m q : Nat), Ent n p → KIn n (kas_desc f p m q) (fun r => Ent n r.1)
  | 0, p, m, q, h => h
  | f + 1, p, m, q, h => ⟨h.at h0 _, h.at h0 _, fun b => by
    cases b
    · refine ⟨h.at h0 _, h.at h0 _, fun d => ?_⟩
      cases d
      · exact desc_in h0 f p (m + 1) (q + 1) h
      · exact h
    · show KIn n (if q > 0 then _ else _) _
      split
      · exact desc_in h0 f _ (m + 1) 0 (rev_ent h _ _)
      · exact desc_in h0 f p (m + 1) 0 h⟩
theorem tail3_in (h0 : 0 < n) {p : Array Nat} (h : Ent n p) (m r : Nat) : KIn n (kas_tail3 m r p) (fun x => Ent n x.2) :=
  KIn.bind _ (asc_in (rev_ent h _ _) h0 _ _) fun _ _ => rev_ent h _ _
theorem descPart_in (h0 : 0 < n) {p : Array Nat} (h : Ent n p) (m r : Nat) : KIn n (kas_descPart m r p) (fun x => Ent n x.2) := by
  refine KIn.bind _ (desc_in h0 _ p _ _ h) fun x hx => ?_
  split
  · exact tail3_in h0 (rev_ent hx _ _) _ _
  · exact tail3_in h0 hx _ _
theorem count_in (h0 : 0 < n) {p : Array Nat} (h : Ent n p) (r : Nat) : KIn n (kas_count r p) (fun x => Ent n x.2) := by
  refine KIn.bind _ (asc_in h h0 _ _) fun m _ => ?_
  split
  · exact h
  · split
    · refine ⟨h.at h0 _, h.at h0 _, fun b => ?_⟩
      cases b
      · exact descPart_in h0 (rev_ent h _ _) _ _
      · exact h
    · exact descPart_in h0 h _ _
theorem place_in (h0 : 0 < n) {p : Array Nat} (h : Ent n p) (k : Nat) : ∀ (f l r : Nat), KIn n (kas_place p k f l r) (fun _ => True)
  | 0, l, r => trivial
  | f + 1, l, r => by
    unfold kas_place
    split
    · trivial
    · refine ⟨h.at h0 _, h.at h0 _, fun b => ?_⟩
      cases b
      · exact place_in h0 h k f _ _
      · exact place_in h0 h k f _ _
theorem bin_in (h0 : 0 < n) : ∀ (f : Nat) (p : Array Nat) (k : Nat), Ent n p → KIn n (kas_bin f p k) (fun p' => Ent n p')
  | 0, p, k, h => h
  | f + 1, p, k, h => KIn.bind _ (place_in h0 h k _ _ _) fun l _ => bin_in h0 f _ _ (h.perm (bubble_perm _ _ _))
theorem sort_in (h0 : 0 < n) : KIn n (kas_sort n) (fun p => Ent n p) := by
  refine KIn.bind _ (count_in h0 (p := List.toArray (List.range n)) (List.Perm.refl _) n) fun x hx => ?_
  split
  · exact bin_in h0 _ _ _ hx
  · exact hx
end

/-- the order in which the items come out -/
def sortP (n : Nat) (c : Nat → Nat → Bool) : List Nat := if n < 2 then List.range n else (kRun c (kas_sort n)).toList
theorem sortP_perm {n : Nat} {c : Nat → Nat → Bool} : (sortP n c).Perm (List.range n) := by
  unfold sortP
  split
  · exact List.Perm.refl _
  · exact KIn.run c _ (sort_in (n := n) (by omega))
theorem sortP_lt {n : Nat} {c : Nat → Nat → Bool} : ∀ i ∈ sortP n c, i < n := fun i hi => by simpa using sortP_perm.mem_iff.mp hi

theorem sortP_few (vs : List Value) (c : Nat → Nat → Bool) (h : vs.length < 2) : ((vs.toArray.zip vs.toArray).map (·.2)) = List.toArray ((sortP vs.length c).map fun i => vs.getD i Value.none) := by
  unfold sortP
  rw [if_pos h]
  match vs with
  | [] => simp
  | [v] => simp [List.range_succ]
  | _ :: _ :: _ => exact absurd h (by simp)
section
variable {prog : Program} {w : World} {A : Around} {E : Value → Shared → Prop} {s : Shared}
theorem list_sortP {a : Addr} {vs : List Value} {n : Nat} {κ : SortKind} {c : Nat → Nat → Bool} {P : PySem.Fin → Shared → Prop} (ho : s.heap.get? a = some (seqObj "list" vs.toArray n)) (h64 : vs.length < 64)
    (hk : 2 ≤ vs.length → ∀ h' : Heap, (∀ b o, b ≠ a → s.heap.get? b = some o → h'.get? b = some o) → ∀ Q : SortKind → Shared → Prop, Q κ { s with heap := h' } → wpAny (model prog w) A (keyKind' vs.toArray) Q (fun _ _ => False) { s with heap := h' })
    (hc : ∀ h' : Heap, (∀ b o, b ≠ a → s.heap.get? b = some o → h'.get? b = some o) → ∀ i j C, i < vs.length → j < vs.length → C (c i j) { s with heap := h' } → kas_ask prog w A κ vs i j C { s with heap := h' })
    (hP : ∀ h' e, (∀ b o, b ≠ a → s.heap.get? b = some o → h'.get? b = some o) → h'.get? a = some (seqObj "list" (List.toArray ((sortP vs.length c).map fun i => vs.getD i Value.none)) e) → P (.done (.ret .none)) { s with heap := h' }) :
    wpAny (model prog w) A (Builtin.«list.sort» ⟨[.ref a], []⟩) P E s := by
  have ha : a < s.heap.objs.size := Heap.lt_size ho
  have s1 := Heap.SameBut.update s.heap a (Obj.mapSeq fun _ => (#[] : Array Value))
  obtain ⟨e1, ho1⟩ : ∃ e1, (s.heap.update a (Obj.mapSeq fun _ => (#[] : Array Value))).get? a = some (seqObj "list" #[] e1) := ⟨_, get?_update_seq ho fun _ => #[]⟩
  generalize hH : ((s.heap.update a (Obj.mapSeq fun _ => (#[] : Array Value))).push (seqObj "tuple" vs.toArray 0)).push (seqObj "list" #[] 0) = H
  have hkeep : ∀ b o, b ≠ a → s.heap.get? b = some o → H.get? b = some o := fun b o hb e => by
    subst hH
    exact Heap.get?_push_of_some _ (Heap.get?_push_of_some _ ((s1.2 b hb).trans e))
  have hoH : H.get? a = some (seqObj "list" #[] e1) := by
    subst hH
    exact Heap.get?_push_of_some _ (Heap.get?_push_of_some _ ho1)
  have fin : ∀ (h' : Heap) (out : Array Value), h' = H.update a (Obj.mapSeq fun _ => out) → out = List.toArray ((sortP vs.length c).map fun i => vs.getD i Value.none) → P (.done (.ret .none)) { s with heap := h' } := by
    rintro h' out rfl rfl
    have s2 := Heap.SameBut.update H a (Obj.mapSeq fun _ => List.toArray ((sortP vs.length c).map fun i => vs.getD i Value.none))
    exact hP _ _ (fun b o hb e => (s2.2 b hb).trans (hkeep b o hb e)) (get?_update_seq hoH fun _ => _)
  rw [list_sort_plain]
  refine wpAny_bind (listItems_at ho rfl ?_)
  refine wpAny_bind (listUpdate_at ho rfl ?_ (by rw [List.size_toArray, sizeLine_eq]; omega) (Nat.zero_le _))
  refine wpAny_bind (seqEpoch_at ho1 rfl ?_)
  refine wpAny_bind (wpAny_newTuple ?_ (by show vs.length ≤ _; rw [sizeLine_eq]; omega))
  refine wpAny_bind (wpAny_newList ?_ (Nat.zero_le _))
  refine wpAny_holding ?_
  show wpAny (model prog w) A _ P E { s with heap := ((s.heap.update a (Obj.mapSeq fun _ => (#[] : Array Value))).push (seqObj "tuple" vs.toArray 0)).push (seqObj "list" #[] 0) }
  rw [hH]
  dsimp only
  by_cases h2 : vs.toArray.size < 2
  · rw [if_pos h2, if_pos h2]
    have h2' : vs.length < 2 := by simpa using h2
    refine wpAny_bind (wpAny_pure ?_)
    rw [StateT.run_pure]
    refine wpAny_bind (wpAny_pure ?_)
    dsimp only
    refine wpAny_bind (seqEpoch_at hoH rfl ?_)
    refine wpAny_bind (listUpdate_at hoH rfl ?_ (Nat.zero_le _) (by rw [Array.size_map]; show (pairsOf vs).size ≤ _; rw [pairsOf_size, sizeLine_eq]; omega))
    simp only [bne_self_eq_false, Bool.false_eq_true, if_false]
    refine wpAny_pure (fin _ _ rfl ?_)
    exact sortP_few vs c h2'
  · rw [if_neg h2, if_neg h2]
    have h2' : 2 ≤ vs.length := by simp at h2; omega
    refine wpAny_bind (hk h2' H hkeep _ ?_ |> fun h => wpAny_mono h (fun _ _ x => x) fun _ _ x => x.elim)
    refine wpAny_bind (wpAny_mono (kat_run (ks := vs) (G := fun p s' => s' = { s with heap := H } ∧ p = kRun c (kas_sort vs.length)) (Q := fun st' s' => s' = { s with heap := H } ∧ (arrOf st').size = vs.length ∧ failedOf st' = none ∧ arrOf st' = (kRun c (kas_sort vs.length)).map (kas_item (vs.toArray.zip vs.toArray)))
      rfl h2' h64 (fun p st' s' a1 a2 a3 a4 => ⟨a4.1, by rw [a2, Array.size_map, a1], a3, by rw [a2, a4.2]⟩) (KIn.wp (n := vs.length) (c := c) (hc H hkeep) _ (sort_in (by omega)) ⟨rfl, rfl⟩)) ?_ fun _ _ e => e)
    rintro ⟨⟨⟩, st'⟩ s' ⟨rfl, hsz, hf, har⟩
    dsimp only
    have hout := kat_snds rfl har
    have hsp : (sortP vs.length c) = (kRun c (kas_sort vs.length)).toList := by unfold sortP; rw [if_neg (by omega)]
    rw [← hsp] at hout
    have hlen : (arrOf st').size ≤ sizeLine + 1 := by
      rw [sizeLine_eq, hsz]; omega
    refine wpAny_bind (seqEpoch_at hoH rfl ?_)
    refine wpAny_bind (listUpdate_at hoH rfl ?_ (Nat.zero_le _) (by rw [Array.size_map]; exact hlen))
    rw [hf]
    simp only [bne_self_eq_false, Bool.false_eq_true, if_false]
    exact wpAny_pure (fin _ _ rfl hout)
end

section
variable {prog : Program} {w : World} {A : Around} {E : Value → Shared → Prop} {s : Shared}
theorem call_sortedP {l : Addr} {vs : List Value} {κ : SortKind} {c : Nat → Nat → Bool} {Q : Value → Shared → Prop} (hl : s.heap.IsList l vs.toArray) (h64 : vs.length < 64)
    (hk : 2 ≤ vs.length → ∀ h' : Heap, Kp s.heap h' → ∀ Q : SortKind → Shared → Prop, Q κ { s with heap := h' } → wpAny (model prog w) A.in1.in1 (keyKind' vs.toArray) Q (fun _ _ => False) { s with heap := h' })
    (hc : ∀ h' : Heap, Kp s.heap h' → ∀ i j C, i < vs.length → j < vs.length → C (c i j) { s with heap := h' } → kas_ask prog w A.in1.in1 κ vs i j C { s with heap := h' })
    (hQ : ∀ a h' e, Kp s.heap h' → s.heap.get? a = none → h'.get? a = some (seqObj "list" (List.toArray ((sortP vs.length c).map fun i => vs.getD i Value.none)) e) → Q (.ref a) { s with heap := h' }) :
    wpAny (model prog w) A (call (.builtin "sorted") [.ref l]) Q E s := by
  refine Calls.call_function_entry kind_sorted plain_sorted entry_sorted (args_sorted1 _) ?_
  unfold Builtin.«sorted»
  refine wpAny_bind (m := checkCount "sorted" 1 1 _) (wpAny_pure ?_)
  refine wpAny_bind (collect_list hl ?_ (by rw [sizeLine_eq]; omega))
  refine wpAny_bind (wpAny_newList ?_ (by rw [sizeLine_eq]; omega))
  have hsz : ((s.heap.push (seqObj "list" #[] 0)).update s.heap.objs.size (Obj.mapSeq (· ++ vs.toArray))).objs.size = s.heap.objs.size + 1 := by
    rw [Heap.size_update, size_push']
  have hoL : (((s.heap.push (seqObj "list" #[] 0)).update s.heap.objs.size (Obj.mapSeq (· ++ vs.toArray))).push (seqObj "list" vs.toArray 0)).get? (s.heap.objs.size + 1) = some (seqObj "list" vs.toArray 0) := by
    rw [← hsz]; exact Heap.get?_push_size _ rfl
  have keep : Kp s.heap (((s.heap.push (seqObj "list" #[] 0)).update s.heap.objs.size (Obj.mapSeq (· ++ vs.toArray))).push (seqObj "list" vs.toArray 0)) := fun b o q => by
    have hlt : b < s.heap.objs.size := Heap.lt_size q
    rw [Heap.get?_push_ne _ _ _ (by rw [hsz]; exact Nat.ne_of_lt (Nat.lt_succ_of_lt hlt)), Heap.get?_update_ne _ _ _ _ (Nat.ne_of_lt hlt), Heap.get?_push_ne _ _ _ (Nat.ne_of_lt hlt)]
    exact q
  have hne : ∀ b o, s.heap.get? b = some o → b ≠ s.heap.objs.size + 1 := fun b o q => Nat.ne_of_lt (Nat.lt_succ_of_lt (Heap.lt_size q))
  show wpAny _ _ _ _ _ { s with heap := ((s.heap.push (seqObj "list" #[] 0)).update s.heap.objs.size (Obj.mapSeq (· ++ vs.toArray))).push (seqObj "list" vs.toArray 0) }
  rw [hsz]
  generalize ((s.heap.push (seqObj "list" #[] 0)).update s.heap.objs.size (Obj.mapSeq (· ++ vs.toArray))).push (seqObj "list" vs.toArray 0) = H at keep hoL
  refine wpAny_bind (wpAny_holding (wpAny_call_entry slot_list_sort ⟨_, hoL, rfl⟩ entry_list_sort (list_sortP (s := { s with heap := H }) (κ := κ) (c := c) hoL h64 (fun h2 h' kk => hk h2 h' fun b o e => kk b o (hne b o e) (keep b o e)) (fun h' kk => hc h' fun b o e => kk b o (hne b o e) (keep b o e)) fun h' e kk ho => ⟨_, rfl, ?_⟩) (args_list_sort _)))
  refine wpAny_pure ⟨_, rfl, hQ _ h' e (fun b o q => kk b o (hne b o q) (keep b o q)) ?_ ho⟩
  cases q : s.heap.get? (s.heap.objs.size + 1) with
  | none => rfl
  | some o => exact absurd (Heap.lt_size q) (Nat.not_lt.mpr (Nat.le_succ _))
end

theorem Vs.pick {D : Addr → Prop} {h : Heap} {xs : List PV} {vs : List Value} (e : Vs D h xs vs) : ∀ (is : List Nat), (∀ i ∈ is, i < xs.length) → Vs D h (is.map fun i => xs.getD i .none) (is.map fun i => vs.getD i Value.none)
  | [], _ => Vs_nil.mpr rfl
  | i :: is, hi => by
    rw [List.map_cons, List.map_cons, Vs_cons]
    have hlt := hi i List.mem_cons_self
    have hx : xs[i]? = some (xs.getD i .none) := by simp [hlt]
    obtain ⟨v, e1, e2⟩ := e.get i hx
    refine ⟨v, _, ?_, e2, Vs.pick e is fun j hj => hi j (List.mem_cons_of_mem _ hj)⟩
    congr 1
    rw [List.getD_eq_getElem?_getD, e1]; rfl

/-- items whose order is known -/
structure SortOk (Γ : Cx) (xs : List PV) (c : Nat → Nat → Bool) : Prop where
  out : ∃ κ : SortKind, ∀ (A : Around) (n : Nat) (D : Addr → Prop) (s : Shared) (vs : List Value), n ≤ 8 → Lv n A → Kp Γ.B s.heap → Vs D s.heap xs vs → (∀ b, D b → (s.heap.get? b).isSome) →
    (2 ≤ vs.length → ∀ Q : SortKind → Shared → Prop, Q κ s → wpAny Γ.M A.in1.in1 (keyKind' vs.toArray) Q (fun _ _ => False) s) ∧
    ∀ i j C, i < vs.length → j < vs.length → C (c i j) s → kas_ask Γ.prog Γ.w A.in1.in1 κ vs i j C s
theorem CallN.sorted {Γ : Cx} {xs : List PV} {c : Nat → Nat → Bool} (hS : SortOk Γ xs c) (h64 : xs.length < 64) : CallN Γ (.builtin "sorted") [.lst xs] (.list ((sortP xs.length c).map fun i => xs.getD i .none)) := by
  intro A n D s vals Q E hn hA ok hB hvs hD hQ
  rw [Vs_cons] at hvs
  obtain ⟨v, r, rfl, hv, hr⟩ := hvs
  rw [Vs_nil] at hr; subst hr
  obtain ⟨l, items, rfl, _, hl, he⟩ := V_lst.mp hv
  obtain ⟨κ, hS⟩ := hS.out
  have hlen : items.toList.length = xs.length := he.length
  have hl' : s.heap.IsList l items.toList.toArray := by simpa using hl
  have key : ∀ h', Kp s.heap h' → _ := fun h' hk => hS A n D { s with heap := h' } items.toList hn hA (hB.trans hk) (he.grow hk) (fun b hb => hk.alive b (hD b hb))
  refine toR (call_sortedP (κ := κ) (c := c) hl' (by omega) (fun h2 h' hk => (key h' hk).1 h2) (fun h' hk => (key h' hk).2) fun a h' e hk ha ho => hQ a _ ⟨hk, rfl, rfl⟩ ha fun D' hD' => ⟨_, e, ho, ?_⟩)
  rw [hlen]
  have := he.pick (sortP xs.length c) (fun i hi => sortP_lt i hi)
  refine Vs.move (D := D) (h := s.heap) (fun b o hb _ => hk b o hb) (fun b o hb d => ?_) (by simpa using this)
  rcases hD' b d with d | d
  · exact d
  · subst d; rw [ha] at hb; cases hb
end Mine

set_option maxRecDepth 100000
namespace Mine

/-! ## plain data: ==, != -/
mutual
def pd : PV → PyData
  | .none => .none
  | .bool b => .bool b
  | .int i => .int i
  | .str l => .str ⟨l.toArray⟩
  | .tup xs => .tuple (pds xs)
  | .lst xs => .list (pds xs)
  | _ => .none
def pds : List PV → List PyData
  | [] => []
  | x :: xs => pd x :: pds xs
end
def pok : Nat → PV → Bool
  | _, .none => true
  | _, .int _ => true
  | _, .str l => l.all (fun c => decide (c < 0x110000))
  | n + 1, .tup xs => xs.all (pok n)
  | n + 1, .lst xs => xs.all (pok n)
  | _, _ => false

theorem reads_all {D : Addr → Prop} {h : Heap} {n : Nat} (ih : ∀ p v, pok n p = true → V D h p v → ∃ as, Reads h v (pd p) as) : ∀ (ps : List PV) (vs : List Value), ps.all (pok n) = true → Vs D h ps vs → ∃ as, ReadsAll h vs (pds ps) as
  | [], vs, _, e => by rw [Vs_nil] at e; subst e; rw [pds]; exact ⟨_, ReadsAll.nil⟩
  | p :: ps, vs, hp, e => by
    rw [List.all_cons, Bool.and_eq_true] at hp
    rw [Vs_cons] at e
    obtain ⟨v, r, rfl, e1, e2⟩ := e
    obtain ⟨as, a1⟩ := ih p v hp.1 e1
    obtain ⟨bs, b1⟩ := reads_all ih ps r hp.2 e2
    rw [pds]
    exact ⟨_, ReadsAll.cons a1 b1⟩
theorem V.reads {D : Addr → Prop} {h : Heap} : ∀ (n : Nat) (p : PV) (v : Value), pok n p = true → V D h p v → ∃ as, Reads h v (pd p) as
  | n, .none, v, _, e => by rw [V_none] at e; subst e; rw [pd]; exact ⟨_, Reads.none⟩
  | n, .int i, v, _, e => by obtain ⟨t, rfl⟩ := V_int.mp e; rw [pd]; exact ⟨_, Reads.int _ _⟩
  | n, .str l, v, _, e => by obtain ⟨t, rfl⟩ := V_str.mp e; rw [pd]; exact ⟨_, Reads.str _ _⟩
  | n + 1, .tup xs, v, hp, e => by
    obtain ⟨a, items, rfl, ⟨o, ho, hc, m, hd⟩, e2⟩ := V_tup.mp e
    obtain ⟨as, r⟩ := reads_all (V.reads n) xs _ (by simpa [pok] using hp) e2
    rw [pd]
    exact ⟨_, Reads.tuple ho hc hd r⟩
  | n + 1, .lst xs, v, hp, e => by
    obtain ⟨a, items, rfl, _, ⟨o, ho, hc, m, hd⟩, e2⟩ := V_lst.mp e
    obtain ⟨as, r⟩ := reads_all (V.reads n) xs _ (by simpa [pok] using hp) e2
    rw [pd]
    exact ⟨_, Reads.list ho hc hd r⟩
  | 0, .tup _, v, hp, _ => by simp [pok] at hp
  | 0, .lst _, v, hp, _ => by simp [pok] at hp
  | n, .bool _, v, hp, _ => by cases n <;> simp [pok] at hp
  | n, .bytes _, v, hp, _ => by cases n <;> simp [pok] at hp
  | n, .obj _, v, hp, _ => by cases n <;> simp [pok] at hp
  | n, .ref _, v, hp, _ => by cases n <;> simp [pok] at hp
  | n, .rng _ _ _, v, hp, _ => by cases n <;> simp [pok] at hp
  | n, .lsn _, v, hp, _ => by cases n <;> simp [pok] at hp

theorem pd_lay : ∀ (n : Nat) (p : PV), pok n p = true → (pd p).canLay0 = true ∧ (pd p).depth ≤ n := by
  have all : ∀ (n : Nat), (∀ p, pok n p = true → (pd p).canLay0 = true ∧ (pd p).depth ≤ n) → ∀ ps : List PV, ps.all (pok n) = true → PyData.canLayAll0 (pds ps) = true ∧ PyData.depthAll (pds ps) ≤ n := by
    intro n ih ps
    induction ps with
    | nil => intro _; simp [pds, PyData.canLayAll0, PyData.depthAll]
    | cons p ps hi =>
      intro h
      rw [List.all_cons, Bool.and_eq_true] at h
      have h1 := ih p h.1
      have h2 := hi h.2
      simp only [pds, PyData.canLayAll0, PyData.depthAll, h1.1, h2.1, Bool.and_self, true_and]
      have a1 := h1.2
      have a2 := h2.2
      omega
  intro n
  induction n with
  | zero =>
    intro p h
    cases p with
    | str l => simp [pok] at h; simp [pd, PyData.canLay0, PyData.depth, PyData.strOk]; exact h
    | none => simp [pd, PyData.canLay0, PyData.depth]
    | int i => simp [pd, PyData.canLay0, PyData.depth]
    | _ => simp [pok] at h
  | succ n ih =>
    intro p h
    cases p with
    | str l => simp [pok] at h; simp [pd, PyData.canLay0, PyData.depth, PyData.strOk]; exact h
    | none => simp [pd, PyData.canLay0, PyData.depth]
    | int i => simp [pd, PyData.canLay0, PyData.depth]
    | tup xs =>
      have q := all n ih xs (by simpa [pok] using h)
      have q2 := q.2
      simp only [pd, PyData.canLay0, PyData.depth, q.1, true_and]
      omega
    | lst xs =>
      have q := all n ih xs (by simpa [pok] using h)
      have q2 := q.2
      simp only [pd, PyData.canLay0, PyData.depth, q.1, true_and]
      omega
    | _ => simp [pok] at h
theorem pd_shaped {n : Nat} {p : PV} (hn : n ≤ 64) (h : pok n p = true) : SeqAt.shaped (pd p) = true := by
  have := pd_lay n p h
  unfold SeqAt.shaped
  rw [this.1, Bool.true_and]
  exact decide_eq_true (by omega)

theorem eqvs_ints : ∀ (as bs : List Int), PyData.eqvAll (pds (as.map .int)) (pds (bs.map .int)) = decide (as = bs)
  | [], [] => by simp [pds, PyData.eqvAll]
  | [], _ :: _ => by simp [pds, PyData.eqvAll]
  | _ :: _, [] => by simp [pds, PyData.eqvAll]
  | a :: as, b :: bs => by
    rw [List.map_cons, List.map_cons, pds, pds, PyData.eqvAll, eqvs_ints as bs, pd, pd, PyData.eqv, Bool.eq_iff_iff]
    simp

section
variable {Γ : Cx} {k : Nat}
theorem Op2.eqD {p q : PV} (n : Nat) (hp : pok n p = true) (hq : pok n q = true) (hn : n ≤ 64 := by decide) : Op2 Γ (compareOp .Eq) p q (.bool (PyData.eqv (pd p) (pd q))) := by
  intro A m D s x y Q E hm hA _ _ hx hy _ hQ
  obtain ⟨as, r1⟩ := hx.reads n p x hp
  obtain ⟨bs, r2⟩ := hy.reads n q y hq
  exact eq_dataH r1 r2 (pd_shaped hn hp) (pd_shaped hn hq) (hA.room hm) (hQ _ _ (Gr.refl s) (V.bool _))
theorem pok_ints {n : Nat} (as : List Int) : (as.map PV.int).all (pok n) = true := by
  rw [List.all_map, List.all_eq_true]
  intro i _
  cases n <;> rfl
/-! ## tuples -/
theorem Op2.itemT {xs : List PV} {i : Int} {r : PV} (h0 : 0 ≤ i) (hx : xs[i.toNat]? = some r) (hl : xs.length < 2 ^ 62) : Op2 Γ getItem (.tup xs) (.int i) r := by
  intro A n D s x y Q E _ _ _ _ hv hy _ hQ
  obtain ⟨a, items, rfl, h, hvs⟩ := V_tup.mp hv
  obtain ⟨t, rfl⟩ := V_int.mp hy
  obtain ⟨v, e1, e2⟩ := hvs.get _ hx
  have hlt : i.toNat < xs.length := (List.getElem?_eq_some_iff.mp hx).1
  have hlen : items.size = xs.length := by simpa using hvs.length
  refine PyProof.Rows.getItem_tuple h (by omega) (by omega) (j := i.toNat) ?_ (by simpa using e1) (hQ _ _ (Gr.refl _) e2)
  unfold seqIndex?
  rw [hlen]
  have hn : ¬ i < 0 := by omega
  have hl : i < xs.length := by omega
  simp [hn, hl, h0]
end

section
variable {Γ : Cx} {k : Nat} {sc cs : Scope} {σ σ₁ σ₂ σ₃ : Loc} {μ : Own} {pos : Pos}
theorem assignEach3 {t1 t2 t3 : Expr} {env : Env} (h1 : plainT t1 = true) (h2 : plainT t2 = true) (h3 : plainT t3 = true) : assignEach [t1, t2, t3] env = [(false, assign t1 env), (false, assign t2 env), (false, assign t3 env)] := by
  rw [assignEach1 h1, assignEach1 h2, assignEach1 h3]; rfl
theorem As.tuple3 {t1 t2 t3 : Expr} {kd : Nat} {v1 v2 v3 : PV} (h1 : As Γ k sc σ μ t1 v1 σ₁ cs) (h2 : As Γ k sc σ₁ μ t2 v2 σ₂ cs) (h3 : As Γ k sc σ₂ μ t3 v3 σ₃ cs) (p1 : plainT t1 = true := by rfl) (p2 : plainT t2 = true := by rfl) (p3 : plainT t3 = true := by rfl) : As Γ k sc σ μ (.Tuple [t1, t2, t3] kd pos) (.tup [v1, v2, v3]) σ₃ cs := by
  intro A n F h₀ s val Q E hn hA X hv hQ
  obtain ⟨a, items, rfl, hT, hvs⟩ := V_tup.mp hv
  rw [Vs_cons] at hvs
  obtain ⟨x1, r1, e1, hx1, hr1⟩ := hvs
  rw [Vs_cons] at hr1
  obtain ⟨x2, r2, e2, hx2, hr2⟩ := hr1
  rw [Vs_cons] at hr2
  obtain ⟨x3, r3, e3, hx3, hr3⟩ := hr2
  rw [Vs_nil] at hr3
  subst hr3; subst e3; subst e2
  have hi : items.size = 3 := by rw [← Array.length_toList, e1]; rfl
  refine wpAny_assign_Tuple hA.handled hT (by rw [assignEach3 p1 p2 p3, hi]; rfl) (by rw [assignEach3 p1 p2 p3]; rfl) fun h' hx => ?_
  rw [assignEach3 p1 p2 p3, e1]
  have g : Gr s { s with heap := h' } := ⟨fun b o e => hx b o (Nat.ne_of_lt (Heap.lt_size e)) e, rfl, rfl⟩
  show wpAny _ _ (holding [x2, x3] (assign t1 (F.env sc) x1) >>= fun _ => holding [x3] (assign t2 (F.env sc) x2) >>= fun _ => holding [] (assign t3 (F.env sc) x3) >>= fun _ => pure ()) _ _ _
  refine wpAny_bind (wpAny_holding (As.grown h1 hn hA X hx1 g fun s₂ X₂ sp₂ => ?_))
  refine wpAny_bind (wpAny_holding (h2 A n F h₀ s₂ x2 _ _ hn hA X₂ (X.step X₂ sp₂ hx2) fun s₃ X₃ sp₃ => ?_))
  refine wpAny_bind (wpAny_holding (h3 A n F h₀ s₃ x3 _ _ hn hA X₃ (X.step X₃ (sp₂.trans sp₃) hx3) fun s₄ X₄ sp₄ => wpAny_pure (hQ s₄ X₄ ((sp₂.trans sp₃).trans sp₄))))
end

/-! ## tuples of ints in order -/
def ltL : List Int → List Int → Bool
  | a :: as, b :: bs => if a == b then ltL as bs else decide (a < b)
  | _, _ => false
section
variable {prog : Program} {w : World} {A : Around} {s : Shared} {Q : Bool → Shared → Prop}
theorem lex_ints : ∀ {vs us : List Value} {as bs : List Int} (i : Nat), IntsAre vs as → IntsAre us bs → Q (ltL as bs) s → KatLex prog w A true false Q (vs.zip us) i s
  | _, _, _, _, i, .nil, .nil, h => kat_nil h
  | _, _, _, _, i, .nil, .cons _ _ _, h => kat_nil h
  | _, _, _, _, i, .cons _ _ _, .nil, h => kat_nil h
  | _, _, _, _, i, .cons (vs := vs) (ns := as) a t ha, .cons (vs := us) (ns := bs) b u hb, h => by
    rw [List.zip_cons_cons]
    refine kat_cons (wpAny_eqBool_int ?_)
    rw [ltL] at h
    cases e : (a == b) with
    | true =>
      rw [e] at h
      exact kat_yes (lex_ints (i + 1) ha hb (by simpa using h))
    | false =>
      rw [e] at h
      simp only [Bool.false_eq_true, if_false] at h
      refine kat_no ?_
      cases i with
      | zero => exact oneLt_int h
      | succ i => exact kat_one _ _ (PyProof.Rows.lt_int (s := s) h)
end
theorem Vs.tups {D : Addr → Prop} {h : Heap} : ∀ {ts : List (List Int)} {vs : List Value}, Vs D h (ts.map fun t => PV.tup (t.map .int)) vs → ∀ i, i < ts.length → ∃ a items o n, vs.getD i Value.none = .ref a ∧ h.get? a = some o ∧ o.cls = .type "tuple" ∧ o.data = .seq items n ∧ IntsAre items.toList (ts.getD i [])
  | [], vs, e, i, hi => by simp at hi
  | t :: ts, vs, e, i, hi => by
    rw [List.map_cons, Vs_cons] at e
    obtain ⟨v, r, rfl, e1, e2⟩ := e
    cases i with
    | zero =>
      obtain ⟨a, items, rfl, ⟨o, ho, hc, n, hd⟩, e3⟩ := V_tup.mp e1
      exact ⟨a, items, o, n, rfl, ho, hc, hd, by simpa using e3.ints⟩
    | succ i => simpa using Vs.tups e2 i (by simpa using hi)
theorem Vs.katTups {D : Addr → Prop} {h : Heap} : ∀ {ts : List (List Int)} {vs : List Value}, (∀ t ∈ ts, t ≠ []) → Vs D h (ts.map fun t => PV.tup (t.map .int)) vs → ∃ fs, KatTups h vs fs ∧ fs.length = vs.length ∧ ∀ f ∈ fs, ∃ i t, f = Value.int i t
  | [], vs, _, e => by
    rw [List.map_nil, Vs_nil] at e; subst e
    exact ⟨[], KatTups.nil, rfl, fun _ h => nomatch h⟩
  | t :: ts, vs, hne, e => by
    rw [List.map_cons, Vs_cons] at e
    obtain ⟨v, r, rfl, e1, e2⟩ := e
    obtain ⟨fs, k1, k2, k3⟩ := Vs.katTups (fun t ht => hne t (List.mem_cons_of_mem _ ht)) e2
    obtain ⟨a, items, rfl, ⟨o, ho, hc, n, hd⟩, e3⟩ := V_tup.mp e1
    obtain ⟨i, t', rfl⟩ : ∃ i t', t = i :: t' := by
      cases t with
      | nil => exact absurd rfl (hne [] List.mem_cons_self)
      | cons i t' => exact ⟨i, t', rfl⟩
    rw [List.map_cons, Vs_cons] at e3
    obtain ⟨f, r', e4, e5, _⟩ := e3
    obtain ⟨u, rfl⟩ := V_int.mp e5
    refine ⟨.int i u :: fs, KatTups.cons ho hc hd ?_ k1, by simp [k2], fun f hf => ?_⟩
    · have : items.toList[0]? = some (.int i u) := by rw [e4]; rfl
      simpa using this
    · rcases List.mem_cons.mp hf with rfl | hf
      · exact ⟨_, _, rfl⟩
      · exact k3 f hf
theorem SortOk.ints {Γ : Cx} {ts : List (List Int)} {m : Nat} (hm : ∀ t ∈ ts, t.length = m) (h0 : 0 < m) : SortOk Γ (ts.map fun t => PV.tup (t.map .int)) (fun i j => ltL (ts.getD i []) (ts.getD j [])) := by
  refine ⟨tuples' true, fun A n D s vs hn hA hB hvs hD => ⟨fun h2 Q hQ => ?_, fun i j C hi hj hC => ?_⟩⟩
  · obtain ⟨fs, k1, k2, k3⟩ := Vs.katTups (fun t ht q => by have := hm t ht; rw [q] at this; simp at this; omega) hvs
    refine kat_kind (T := .type "int") k1 (by omega) (fun f hf => ?_) rfl hQ
    obtain ⟨i, t, rfl⟩ := k3 f hf
    exact Looks.of_pure rfl
  · have hl := hvs.length
    rw [List.length_map] at hl
    obtain ⟨a, items, o, n1, e1, e2, e3, e4, e5⟩ := Vs.tups hvs i (by omega)
    obtain ⟨b, items', o', n2, f1, f2, f3, f4, f5⟩ := Vs.tups hvs j (by omega)
    unfold kas_ask
    rw [e1, f1]
    refine kat_lt e2 e4 f2 f4 ?_
    have g : ∀ (l : List (List Int)) (q : Nat), q < l.length → (∀ t ∈ l, t.length = m) → (l.getD q []).length = m := fun l q hq hl => by
      have : l.getD q [] = l[q] := by simp [hq]
      rw [this]; exact hl _ (by simp)
    have s1 : items.size = m := by have := e5.length; rw [g ts i (by omega) hm] at this; simpa using this
    have s2 : items'.size = m := by have := f5.length; rw [g ts j (by omega) hm] at this; simpa using this
    rw [s1, s2, show decide (m < m) = false from by simp]
    exact lex_ints 0 e5 f5 hC
end Mine

set_option maxRecDepth 100000
namespace Mine

/-! ## lists that were made as plain lists -/
def Wk (p q : PV) : Prop := ∀ (D : Addr → Prop) (h : Heap) (v : Value), V D h p v → V D h q v
theorem Wk.lsn {xs : List PV} : Wk (.lsn xs) (.lst xs) := fun D h v e => by
  obtain ⟨a, items, n, rfl, h1, h2, h3⟩ := V_lsn.mp e
  exact V_lst.mpr ⟨a, items, rfl, h1, ⟨_, h2, rfl, n, rfl⟩, h3⟩
section
variable {Γ : Cx} {k : Nat} {sc : Scope} {σ : Loc} {μ : Own} {pos : Pos}
theorem Ev.weak {e : Expr} {p q : PV} (hw : Wk p q) (he : Ev Γ k sc σ μ e p) : Ev Γ k sc σ μ e q :=
  fun A n F s Q E hn hA st hQ => he A n F s Q E hn hA st fun val s' g hv => hQ val s' g (hw _ _ _ hv)
theorem V.newListN {D : Addr → Prop} {h : Heap} {xs : List PV} {vs : List Value} (hD : ∀ b, D b → (h.get? b).isSome) (e : Vs D h xs vs) :
    V D (h.push { cls := .type "list", data := .seq vs.toArray }) (.lsn xs) (.ref h.objs.size) :=
  V_lsn.mpr ⟨_, vs.toArray, _, rfl, not_dom hD, Heap.get?_push_size _ rfl, by simpa using e.grow (Kp.push _ _)⟩
theorem Ev.listN {es : List Expr} {vs : List PV} (h : Es Γ k sc σ μ pos es vs) (hs : vs.length ≤ 1000) : Ev Γ k sc σ μ (.List es pos) (.lsn vs) := by
  intro A n F s Q E hn hA st hQ
  refine wpR_List (h A n F s _ _ hn hA st fun vals s₁ g₁ hv => ⟨?_, hQ _ _ (g₁.trans (Gr.heap _ (Kp.push _ _))) (V.newListN (st.grow g₁).dom hv)⟩)
  have := hv.length; rw [sizeLine_eq]; omega
theorem Op2.addN {xs ys : List PV} (h : xs.length + ys.length < 2 ^ 20) : Op2 Γ (binaryOp .Add) (.lst xs) (.lst ys) (.lsn (xs ++ ys)) := by
  intro A n D s x y Q E _ _ _ _ hx hy hD hQ
  obtain ⟨l, items, rfl, _, ⟨⟨cls, dd, data, sl⟩, ho, hc, m, hd⟩, e1⟩ := V_lst.mp hx
  obtain ⟨l2, items2, rfl, _, ⟨⟨cls2, dd2, data2, sl2⟩, ho2, hc2, m2, hd2⟩, e2⟩ := V_lst.mp hy
  simp only at hc hd hc2 hd2
  subst hc hd hc2 hd2
  have h1 : items.size = xs.length := by simpa using e1.length
  have h2 : items2.size = ys.length := by simpa using e2.length
  refine concat_meets ⟨_, ho, rfl⟩ ⟨_, ho2, rfl⟩ noFill_list_add seq_list_add PySem.F.slot_list_add PySem.F.entry_list_add (PySem.F.args_list_add_2 _ _) (list_addW l l2 items items2 m m2 dd dd2 sl sl2 (by rw [sizeLine_eq]; omega)) ⟨ho, ho2, ?_⟩
  have hv := V.newListN hD (e1.append e2)
  have e : (items.toList ++ items2.toList).toArray = items ++ items2 := by simp
  rw [e] at hv
  exact hQ _ _ (Gr.heap _ (Kp.push _ _)) hv
/-- a method of such a list that changes nothing -/
theorem Ev.methN {o : Expr} {name : Str} {ap : Pos} {args : List Expr} {id : String} {xs : List PV} {r : PV} {vs : List PV} (ho : Ev Γ k sc σ μ o (.lsn xs)) (ha : Es Γ k sc σ μ pos args vs) (hc : CallOk Γ k (.builtin id) (.lst xs :: vs) r)
    (slot : Slot "list" name id) (hty : typeOf (.builtin id) = pure (.type "method_descriptor"))
    (hbase : ∀ env, attributeBase o name env (eval o env) = eval o env := by intro _; kernel_rfl)
    (hp : args.any isStarred = false := by kernel_rfl) (hn30 : args.length < 30 := by decide +kernel)
    (hline : ∀ F : Fm, methodCallPos true o (F.env sc) ap pos = pure pos := by intro _; kernel_rfl) : Ev Γ k sc σ μ (.Call (.Attribute o name ap) args [] pos) r := by
  intro A n F s Q E hn hA st hQ
  refine wpR_Call_method (hbase _) (form_plain hp hn30) (hline F) PySem.F.plainAttrs_list slot hty ?_
  refine ho A n F s _ _ hn hA st fun ov s₁ g₁ hov => ?_
  obtain ⟨a, items, m, rfl, h1, h2, h3⟩ := V_lsn.mp hov
  refine ⟨⟨_, h2, rfl⟩, fun b e => by cases e; exact ⟨_, h2, rfl⟩, ?_⟩
  refine wpR_callWith (P := fun h => Kp Γ.B h) (starEach_plain_any args hp) (KeepOk.builtin) ?_
  refine wpR_evalArgs hp (ha A n F s₁ _ _ hn hA (st.grow g₁) fun vals s₂ g₂ hvs => ?_)
  have st₂ := (st.grow g₁).grow g₂
  refine ⟨st₂.base, ?_⟩
  show wpR _ _ (PySem.call (.builtin id) ([.ref a] ++ vals) []) _ E s₂
  exact hc A n (Dm F μ) s₂ (.ref a :: vals) Q E hn hA st.ok st₂.base (Vs_cons.mpr ⟨_, _, rfl, (Wk.lsn _ _ _ hov).grow g₂.keep, hvs⟩) st₂.dom fun val s₃ g₃ hv => hQ val s₃ ((g₁.trans g₂).trans g₃) hv
theorem CallOk.count {ns : List Int} {x : Int} : CallOk Γ k (.builtin "list.count") [.lst (ns.map .int), .int x] (.int (ns.count x : Nat)) := by
  intro A n D s vals Q E _ _ _ _ hvs _ hQ
  rw [Vs_cons] at hvs
  obtain ⟨v, r, rfl, hv, hr⟩ := hvs
  rw [Vs_cons] at hr
  obtain ⟨v2, r2, rfl, hv2, hr2⟩ := hr
  rw [Vs_nil] at hr2; subst hr2
  obtain ⟨t, rfl⟩ := V_int.mp hv2
  obtain ⟨a, items, rfl, _, ⟨⟨cls, dd, data, sl⟩, ho, hc, m, hd⟩, he⟩ := V_lst.mp hv
  simp only at hc hd
  subst hc hd
  have hi := he.ints
  refine toR (call_meets PySem.F.slot_list_count ⟨_, ho, rfl⟩ PySem.F.entry_list_count (PySem.F.args_list_count_2 _ _) (PySem.SeqAt.list_countAt a items m dd sl (.int x t) (fun v => numOf v == x)) ⟨ho, fun y hy => ?_, ?_⟩)
  · obtain ⟨i, u, rfl⟩ := hi.all y (by simpa using hy)
    intro prog w E Q hq
    exact wpAny_eqBool_int hq
  · have e : items.toList.countP (fun v => numOf v == x) = ns.count x := by
      rw [← hi.nums, List.count, List.countP_map]
      rfl
    rw [e]
    exact hQ _ _ (Gr.toks _) (V.int _ _)

/-! ## slices with a step -/
def stepL {α : Type} (xs : List α) (lo hi : Option Int) (c : Int) : List α :=
  (sliceRange (sliceBounds lo hi (some c) xs.length).1 (sliceBounds lo hi (some c) xs.length).2.1 (sliceBounds lo hi (some c) xs.length).2.2).filterMap fun (i : Nat) => xs[i]?
theorem Vs.at? {D : Addr → Prop} {h : Heap} : ∀ {xs : List PV} {vs : List Value} (i : Nat), Vs D h xs vs → (xs[i]? = none ∧ vs[i]? = none) ∨ ∃ x v, xs[i]? = some x ∧ vs[i]? = some v ∧ V D h x v
  | xs, vs, i, e => by
    cases hx : xs[i]? with
    | none =>
      left
      refine ⟨rfl, ?_⟩
      have := e.length
      rw [List.getElem?_eq_none_iff] at hx ⊢
      omega
    | some x =>
      obtain ⟨v, h1, h2⟩ := e.get i hx
      exact .inr ⟨x, v, rfl, h1, h2⟩
theorem Vs.picks {D : Addr → Prop} {h : Heap} {xs : List PV} {vs : List Value} (e : Vs D h xs vs) : ∀ is : List Nat, Vs D h (is.filterMap fun i => xs[i]?) (is.filterMap fun i => vs[i]?)
  | [] => Vs_nil.mpr rfl
  | i :: is => by
    rcases e.at? i with ⟨h1, h2⟩ | ⟨x, v, h1, h2, h3⟩
    · simpa [h1, h2] using Vs.picks e is
    · rw [List.filterMap_cons_some h1, List.filterMap_cons_some h2, Vs_cons]
      exact ⟨v, _, rfl, h3, Vs.picks e is⟩
theorem SliceOk.step {xs : List PV} {lo hi : Option Int} {c : Int} (hc : c ≠ 0) (hz : xs.length < 2 ^ 20) : SliceOk Γ (.lst xs) lo hi (some c) (.lst (stepL xs lo hi c)) := by
  intro A n D s x sl vl vu vs Q E _ _ hv hD hs pl pu ps hQ
  obtain ⟨a, items, rfl, _, hl, he⟩ := V_lst.mp hv
  have hlen : items.size = xs.length := by simpa using he.length
  refine wpAny_getItem_list_slice (hsz := by rw [sizeLine_eq]; omega) hl hs pl pu ps (fun q => hc (by injection q)) ?_
  have hv := V.newList hD (he.picks (sliceRange (sliceBounds lo hi (some c) xs.length).1 (sliceBounds lo hi (some c) xs.length).2.1 (sliceBounds lo hi (some c) xs.length).2.2))
  have e : slicePick items lo hi (some c) = ((sliceRange (sliceBounds lo hi (some c) xs.length).1 (sliceBounds lo hi (some c) xs.length).2.1 (sliceBounds lo hi (some c) xs.length).2.2).filterMap fun (i : Nat) => items.toList[i]?).toArray := by
    unfold slicePick
    rw [hlen]
    simp
  rw [e]
  exact hQ _ _ (Gr.heap _ (Kp.push _ _)) hv
theorem stepL_ints (ns : List Int) (lo hi : Option Int) (c : Int) : stepL (ns.map PV.int) lo hi c = (stepL ns lo hi c).map PV.int := by
  unfold stepL
  rw [List.length_map, List.map_filterMap]
  congr 1
  funext i
  simp
end
end Mine

set_option maxRecDepth 100000
namespace Mine

/-! ## rows of pairs in order -/
def LtAt (A : Around) (s : Shared) (x y : Value) (b : Bool) : Prop :=
  ∀ (prog : Program) (w : World) (E : Value → Shared → Prop) (Q : Value → Shared → Prop), Q (.bool b) s → wpAny (model prog w) A (richCompare .Lt x y) Q E s

theorem tup_ltM (l b : Addr) (items items2 : Array Value) (n n2 : Nat) (dd dd2 : Option Addr) (sl sl2 : Array (Option Value)) (as bs : List Int) (hi : IntsAre items.toList as) (hj : IntsAre items2.toList bs) (hsz : items.size = items2.size) :
    Meets (Builtin.«tuple.__lt__» ⟨[.ref l, .ref b], []⟩)
      (fun A R s => s.heap.get? l = some { cls := .type "tuple", dict := dd, data := .seq items n, slots := sl } ∧ s.heap.get? b = some { cls := .type "tuple", dict := dd2, data := .seq items2 n2, slots := sl2 } ∧
        R (.ok (.ret (.bool (ltL as bs)))) s) :=
  .of_wp fun prog w A R s h => by
    obtain ⟨hp, g, d, tk, os⟩ := s; obtain ⟨hl, hb, h⟩ := h
    have f2 := AutoSeq1.sub_tuple_tuple
    wp_walk using wpAny_loadPart' hl, wpAny_loadPart' hb, wpAny_forIn_list _ (fun rest b s' => b.1 = none ∧ s' = ⟨hp, g, d, tk, os⟩ ∧ ∃ vs us as' bs', rest = vs.zip us ∧ IntsAre vs as' ∧ IntsAre us bs' ∧ vs.length = us.length ∧
      R (.ok (.ret (.bool (ltL as' bs')))) ⟨hp, g, d, tk, os⟩) _
    case turn =>
      rintro ⟨y, x⟩ rest b s' ⟨hb', rfl, vs, us, as', bs', hz, ha, hc, hlen, hR⟩
      cases ha with
      | nil => simp at hz
      | cons i t ha =>
        cases hc with
        | nil => simp at hz
        | cons j u hc =>
          rw [List.zip_cons_cons] at hz
          injection hz with hyx hrest
          injection hyx with hy hx
          subst hy hx
          refine wpAny_bind (wpAny_eqBool_int ?_)
          rw [ltL] at hR
          cases e : (i == j) with
          | true =>
            rw [e] at hR
            wp_walk
            exact ⟨rfl, rfl, _, _, _, _, hrest, ha, hc, by simpa using hlen, by simpa using hR⟩
          | false =>
            rw [e] at hR
            rw [if_pos (by rfl)]
            refine wpAny_bind (wpAny_rule (wpAny_bind (PyProof.Rows.lt_int ?_)))
            refine wpAny_bind (wpAny_pure (wpAny_pure ?_))
            exact wpAny_pure (by simpa using hR)
    case fin =>
      rintro ⟨b1, b2⟩ s' ⟨hb', rfl, vs, us, as', bs', hz, ha, hc, hlen, hR⟩
      simp only at hb'
      subst hb'
      have hf : ltL as' bs' = false := by
        cases ha with
        | nil => cases bs' <;> rfl
        | cons i t ha =>
          cases hc with
          | nil => rfl
          | cons j u hc => simp at hz
      rw [hf] at hR
      wp_walk
      exact ⟨_, rfl, by simpa [Builtin.Tuple.tupleCompareSizes, hsz] using hR⟩
    case h =>
      exact ⟨rfl, rfl, _, _, _, _, rfl, hi, hj, by simpa using hsz, h⟩
theorem LtAt.tuples {A : Around} {s : Shared} {l b : Addr} {items items2 : Array Value} {as bs : List Int} (hl : s.heap.IsTuple l items) (hb : s.heap.IsTuple b items2) (hi : IntsAre items.toList as) (hj : IntsAre items2.toList bs) (hsz : items.size = items2.size) (hu : A.units < cLine) :
    LtAt A s (.ref l) (.ref b) (ltL as bs) := fun prog w E Q h => by
  obtain ⟨⟨cls, dd, data, sl⟩, ho, hc, n, hd⟩ := id hl
  obtain ⟨⟨cls2, dd2, data2, sl2⟩, ho2, hc2, n2, hd2⟩ := id hb
  simp only at hc hd hc2 hd2
  subst hc hd hc2 hd2
  exact richCompare_meets_room (op := .Lt) ⟨_, ho, rfl⟩ ⟨_, ho2, rfl⟩ F.slot_tuple_lt F.entry_tuple_lt (F.args_tuple_lt_2 _ _) (tup_ltM l b items items2 n n2 dd dd2 sl sl2 as bs hi hj hsz)
    ⟨ho, ho2, show Value.bool (ltL as bs) ≠ Value.notImplemented ∧ Q (.bool (ltL as bs)) s from ⟨(fun x => nomatch x), h⟩⟩ hu

def firstLt (e r : Nat → Bool) : List Nat → Bool
  | [] => false
  | j :: l => if e j then firstLt e r l else r j
theorem lt_loop (l b : Addr) (items items2 : Array Value) (n n2 : Nat) (dd dd2 : Option Addr) (sl sl2 : Array (Option Value)) (hsz : items.size = items2.size) (e r : Nat → Bool) (k : Nat) :
    ∀ i : Nat, items.size - i = k → Meets (Builtin.«list.__eq__.loop» ⟨[.ref l, .ref b, rawInt i, rawInt 0], []⟩)
      (fun A R s => s.heap.get? l = some { cls := .type "list", dict := dd, data := .seq items n, slots := sl } ∧ s.heap.get? b = some { cls := .type "list", dict := dd2, data := .seq items2 n2, slots := sl2 } ∧
        (∀ j (h1 : j < items.size) (h2 : j < items2.size), SeqAt.EqAt A.in1 s items[j] items2[j] (e j)) ∧ (∀ j (h1 : j < items.size) (h2 : j < items2.size), e j = false → LtAt A.in1 s items[j] items2[j] (r j)) ∧
        R (.ok (.ret (.bool (firstLt e r ((List.range items.size).drop i))))) s) := by
  induction k with
  | zero =>
    intro i hk prog w A R s h
    obtain ⟨hp, g, d, tk, os⟩ := s; obtain ⟨hl, hb, he, hr, h⟩ := h
    wp_walk using wpAny_loadPart' hl, wpAny_loadPart' hb
    have hi1 : items[((i : Nat) : Int).toNat]? = none := by simp; omega
    have hi2 : items2[((i : Nat) : Int).toNat]? = none := by simp; omega
    have hd : (List.range items.size).drop i = [] := by simp; omega
    rw [hd] at h
    rw [hi1, hi2]
    wp_walk using wpAny_loadPart' hl, wpAny_loadPart' hb
    show R (.ok (.ret (.bool (decide (items.size < items2.size))))) _
    rw [hsz]
    simpa [firstLt] using h
  | succ k ih =>
    intro i hk prog w A R s h
    obtain ⟨hp, g, d, tk, os⟩ := s; obtain ⟨hl, hb, he, hr, h⟩ := h
    wp_walk using wpAny_loadPart' hl, wpAny_loadPart' hb
    have hlt : i < items.size := by omega
    have hlt2 : i < items2.size := by omega
    have hi1 : items[((i : Nat) : Int).toNat]? = some items[i] := by simp [hlt]
    have hi2 : items2[((i : Nat) : Int).toNat]? = some items2[i] := by simp [hlt2]
    have hd : (List.range items.size).drop i = i :: (List.range items.size).drop (i + 1) := by simp [List.drop_eq_getElem_cons, hlt]
    have hc : ((i : Int) + 1) = ((i + 1 : Nat) : Int) := by push_cast; rfl
    rw [hd, firstLt] at h
    rw [hi1, hi2]
    refine wpAny_bind (he i hlt hlt2 prog w _ _ ?_)
    cases hb' : e i with
    | true =>
      rw [hb'] at h
      wp_walk
      rw [hc]
      exact ⟨plainId_quiet MeetsSeq3.plain_eq_loop _, codeAny_builtin MeetsSeq3.entry_eq_loop (by
        rw [Around.under_plainId MeetsSeq3.plain_eq_loop _]
        exact ih (i + 1) (by omega) prog w A R _ ⟨hl, hb, he, hr, by simpa using h⟩)⟩
    | false =>
      rw [hb'] at h
      wp_walk using wpAny_loadPart' hl, wpAny_loadPart' hb
      rw [hi1, hi2]
      refine wpAny_bind (hr i hlt hlt2 hb' prog w _ _ ?_)
      wp_walk
      simpa using h
theorem list_ltM (l b : Addr) (items items2 : Array Value) (n n2 : Nat) (dd dd2 : Option Addr) (sl sl2 : Array (Option Value)) (hsz : items.size = items2.size) (e r : Nat → Bool) :
    Meets (Builtin.«list.__lt__» ⟨[.ref l, .ref b], []⟩)
      (fun A R s => s.heap.get? l = some { cls := .type "list", dict := dd, data := .seq items n, slots := sl } ∧ s.heap.get? b = some { cls := .type "list", dict := dd2, data := .seq items2 n2, slots := sl2 } ∧
        (∀ j (h1 : j < items.size) (h2 : j < items2.size), SeqAt.EqAt A.in1 s items[j] items2[j] (e j)) ∧ (∀ j (h1 : j < items.size) (h2 : j < items2.size), e j = false → LtAt A.in1 s items[j] items2[j] (r j)) ∧
        R (.ok (.ret (.bool (firstLt e r (List.range items.size))))) s) := by
  intro prog w A R s h
  obtain ⟨hp, g, d, tk, os⟩ := s; obtain ⟨hl, hb, he, hr, h⟩ := h
  have f3 := AutoSeq1.sub_list_list
  wp_walk using wpAny_loadPart' hl, wpAny_loadPart' hb
  exact ⟨plainId_quiet MeetsSeq3.plain_eq_loop _, codeAny_builtin MeetsSeq3.entry_eq_loop (by
    rw [Around.under_plainId MeetsSeq3.plain_eq_loop _]
    exact lt_loop l b items items2 n n2 dd dd2 sl sl2 hsz e r _ 0 rfl prog w A R _ ⟨hl, hb, he, hr, by simpa using h⟩)⟩
section
variable {prog : Program} {w : World} {A : Around} {E : Value → Shared → Prop} {s : Shared}
theorem oneLt_lists {l b : Addr} {items items2 : Array Value} {e r : Nat → Bool} {Q : Bool → Shared → Prop} (hl : s.heap.IsList l items) (hb : s.heap.IsList b items2) (hsz : items.size = items2.size) (hu : A.units < cLine)
    (he : ∀ j (h1 : j < items.size) (h2 : j < items2.size), SeqAt.EqAt A.in1 s items[j] items2[j] (e j)) (hr : ∀ j (h1 : j < items.size) (h2 : j < items2.size), e j = false → LtAt A.in1 s items[j] items2[j] (r j))
    (h : Q (firstLt e r (List.range items.size)) s) : wpAny (model prog w) A (oneLt' true (.ref l) (.ref b)) Q E s := by
  obtain ⟨⟨cls, dd, data, sl⟩, ho, hc, n, hd⟩ := id hl
  obtain ⟨⟨cls2, dd2, data2, sl2⟩, ho2, hc2, n2, hd2⟩ := id hb
  simp only at hc hd hc2 hd2
  subst hc hd hc2 hd2
  rw [oneLt'_eq]
  simp only [if_true]
  refine wpAny_bind (wpAny_cRoomFor hu ?_)
  refine wpAny_bind (wpAny_callSpecialIfBound?_slot (T := "list") ⟨_, ho, rfl⟩ PySem.F.slot_list_lt (call_meets PySem.F.slot_list_lt ⟨_, ho, rfl⟩ PySem.F.entry_list_lt (PySem.F.args_list_lt_2 _ _) (list_ltM l b items items2 n n2 dd dd2 sl sl2 hsz e r) ⟨ho, ho2, he, hr, ?_⟩))
  exact wpAny_truthy_bool h
end

/-! ### pairs and rows of pairs -/
def pairP (q : Int × Int) : PV := .tup [.int q.1, .int q.2]
def itP (t : List (Int × Int) × List Int) : PV := .tup [.lst (t.1.map pairP), .lst (t.2.map .int)]
theorem Vs.inj2 {D : Addr → Prop} {h : Heap} {α : Type} {f : α → PV} (hf : ∀ a b v, V D h (f a) v → V D h (f b) v → a = b) : ∀ {as bs : List α} {vs : List Value}, Vs D h (as.map f) vs → Vs D h (bs.map f) vs → as = bs
  | [], [], _, _, _ => rfl
  | [], b :: bs, vs, e1, e2 => by
    rw [List.map_nil, Vs_nil] at e1; subst e1
    rw [List.map_cons, Vs_cons] at e2
    obtain ⟨v, r, e, _⟩ := e2; cases e
  | a :: as, [], vs, e1, e2 => by
    rw [List.map_nil, Vs_nil] at e2; subst e2
    rw [List.map_cons, Vs_cons] at e1
    obtain ⟨v, r, e, _⟩ := e1; cases e
  | a :: as, b :: bs, vs, e1, e2 => by
    rw [List.map_cons, Vs_cons] at e1 e2
    obtain ⟨v, r, rfl, a1, a2⟩ := e1
    obtain ⟨v', r', e, b1, b2⟩ := e2
    injection e with h1 h2
    subst h1 h2
    rw [hf a b v a1 b1, Vs.inj2 hf a2 b2]
theorem V.intInj {D : Addr → Prop} {h : Heap} (a b : Int) (v : Value) (e1 : V D h (.int a) v) (e2 : V D h (.int b) v) : a = b := by
  obtain ⟨t, rfl⟩ := V_int.mp e1
  obtain ⟨u, e⟩ := V_int.mp e2
  injection e
theorem V.pairInj {D : Addr → Prop} {h : Heap} (p q : Int × Int) (v : Value) (e1 : V D h (pairP p) v) (e2 : V D h (pairP q) v) : p = q := by
  obtain ⟨a, items, rfl, ⟨o, ho, hc, n, hd⟩, v1⟩ := V_tup.mp e1
  obtain ⟨a', items', e, ⟨o', ho', hc', n', hd'⟩, v2⟩ := V_tup.mp e2
  injection e with e; subst e
  rw [ho] at ho'; cases ho'
  rw [hd] at hd'; injection hd' with h1 h2
  subst h1
  have := Vs.inj2 (D := D) (h := h) (f := PV.int) V.intInj (as := [p.1, p.2]) (bs := [q.1, q.2]) v1 v2
  injection this with h1 h2
  injection h2 with h2 _
  exact Prod.ext h1 h2
theorem V.listInj {D : Addr → Prop} {h : Heap} {α : Type} {f : α → PV} (hf : ∀ a b v, V D h (f a) v → V D h (f b) v → a = b) {as bs : List α} {v : Value} (e1 : V D h (.lst (as.map f)) v) (e2 : V D h (.lst (bs.map f)) v) : as = bs := by
  obtain ⟨a, items, rfl, _, ⟨o, ho, hc, n, hd⟩, v1⟩ := V_lst.mp e1
  obtain ⟨a', items', e, _, ⟨o', ho', hc', n', hd'⟩, v2⟩ := V_lst.mp e2
  injection e with e; subst e
  rw [ho] at ho'; cases ho'
  rw [hd] at hd'; injection hd' with h1 h2
  subst h1
  exact Vs.inj2 hf v1 v2
theorem pok_pair (p : Int × Int) : pok 1 (pairP p) = true := rfl
theorem pok_run (ps : List (Int × Int)) : pok 2 (.lst (ps.map pairP)) = true := by
  simp only [pok, List.all_map, List.all_eq_true]
  intro p _
  exact pok_pair p
theorem pok_row (r : List Int) : pok 2 (.lst (r.map .int)) = true := by
  simp only [pok]; exact pok_ints (n := 1) r
theorem eqv_pair (p q : Int × Int) : PyData.eqv (pd (pairP p)) (pd (pairP q)) = decide (p = q) := by
  have := eqvs_ints [p.1, p.2] [q.1, q.2]
  unfold pairP
  rw [pd, pd, PyData.eqv]
  rw [show ([PV.int p.1, PV.int p.2] : List PV) = [p.1, p.2].map PV.int from rfl, show ([PV.int q.1, PV.int q.2] : List PV) = [q.1, q.2].map PV.int from rfl, this]
  refine decide_eq_decide.mpr ⟨fun h => ?_, fun h => by rw [h]⟩
  injection h with h1 h2
  injection h2 with h2 _
  exact Prod.ext h1 h2
theorem eqv_runs : ∀ (ps qs : List (Int × Int)), PyData.eqvAll (pds (ps.map pairP)) (pds (qs.map pairP)) = decide (ps = qs)
  | [], [] => by simp [pds, PyData.eqvAll]
  | [], _ :: _ => by simp [pds, PyData.eqvAll]
  | _ :: _, [] => by simp [pds, PyData.eqvAll]
  | p :: ps, q :: qs => by
    rw [List.map_cons, List.map_cons, pds, pds, PyData.eqvAll, eqv_runs ps qs, eqv_pair, Bool.eq_iff_iff]
    simp
section
variable {A : Around} {s : Shared} {D : Addr → Prop}
theorem eqAt_data {p q : PV} {l b : Addr} {c : Bool} (n : Nat) (hp : pok n p = true) (hq : pok n q = true) (hn : n ≤ 64) (hx : V D s.heap p (.ref l)) (hy : V D s.heap q (.ref b)) (hu : A.units + 64 < cLine) (hc : PyData.eqv (pd p) (pd q) = c) (hsame : l = b → c = true) : SeqAt.EqAt A s (.ref l) (.ref b) c := by
  by_cases e : l = b
  · subst e
    rw [hsame rfl]
    exact SeqAt.EqAt.same _
  · refine SeqAt.EqAt.of_refs e fun prog w E Q h => ?_
    obtain ⟨as, r1⟩ := hx.reads n p _ hp
    obtain ⟨bs, r2⟩ := hy.reads n q _ hq
    exact eq_dataH r1 r2 (pd_shaped hn hp) (pd_shaped hn hq) hu (by rw [hc]; exact h)
theorem eqAt_pair {p q : Int × Int} {x y : Value} (hx : V D s.heap (pairP p) x) (hy : V D s.heap (pairP q) y) (hu : A.units + 64 < cLine) : SeqAt.EqAt A s x y (decide (p = q)) := by
  obtain ⟨a, _, rfl, _⟩ := V_tup.mp (show V D s.heap (.tup [.int p.1, .int p.2]) x from hx)
  obtain ⟨b, _, rfl, _⟩ := V_tup.mp (show V D s.heap (.tup [.int q.1, .int q.2]) y from hy)
  exact eqAt_data 1 (pok_pair p) (pok_pair q) (by decide) hx hy hu (eqv_pair p q) fun e => by subst e; exact decide_eq_true (V.pairInj p q _ hx hy)
theorem eqAt_run {ps qs : List (Int × Int)} {x y : Value} (hx : V D s.heap (.lst (ps.map pairP)) x) (hy : V D s.heap (.lst (qs.map pairP)) y) (hu : A.units + 64 < cLine) : SeqAt.EqAt A s x y (decide (ps = qs)) := by
  obtain ⟨a, _, rfl, _⟩ := V_lst.mp hx
  obtain ⟨b, _, rfl, _⟩ := V_lst.mp hy
  exact eqAt_data 2 (pok_run ps) (pok_run qs) (by decide) hx hy hu (by rw [pd, pd, PyData.eqv, eqv_runs]) fun e => by subst e; exact decide_eq_true (V.listInj V.pairInj hx hy)
theorem eqAt_row {ps qs : List Int} {x y : Value} (hx : V D s.heap (.lst (ps.map .int)) x) (hy : V D s.heap (.lst (qs.map .int)) y) (hu : A.units + 64 < cLine) : SeqAt.EqAt A s x y (decide (ps = qs)) := by
  obtain ⟨a, _, rfl, _⟩ := V_lst.mp hx
  obtain ⟨b, _, rfl, _⟩ := V_lst.mp hy
  exact eqAt_data 2 (pok_row ps) (pok_row qs) (by decide) hx hy hu (by rw [pd, pd, PyData.eqv, eqvs_ints]) fun e => by subst e; exact decide_eq_true (V.listInj V.intInj hx hy)
end
def pairLt (p q : Int × Int) : Bool := ltL [p.1, p.2] [q.1, q.2]
def ltRun : List (Int × Int) → List (Int × Int) → Bool
  | p :: ps, q :: qs => if p = q then ltRun ps qs else pairLt p q
  | _, _ => false
theorem ltRun_first : ∀ (ps qs : List (Int × Int)) (k i : Nat), ps.length = qs.length → ps.length - i = k → firstLt (fun j => decide (ps.getD j (0, 0) = qs.getD j (0, 0))) (fun j => pairLt (ps.getD j (0, 0)) (qs.getD j (0, 0))) ((List.range ps.length).drop i) = ltRun (ps.drop i) (qs.drop i) := by
  intro ps qs k
  induction k with
  | zero =>
    intro i hl hk
    have h1 : (List.range ps.length).drop i = [] := by simp; omega
    have h2 : ps.drop i = [] := by simp; omega
    rw [h1, h2]; rfl
  | succ k ih =>
    intro i hl hk
    have hi : i < ps.length := by omega
    have hj : i < qs.length := by omega
    have hd : (List.range ps.length).drop i = i :: (List.range ps.length).drop (i + 1) := by simp [List.drop_eq_getElem_cons, hi]
    rw [hd, firstLt, ih (i + 1) hl (by omega), List.drop_eq_getElem_cons hi, List.drop_eq_getElem_cons hj, ltRun]
    have e1 : ps.getD i (0, 0) = ps[i] := by simp [hi]
    have e2 : qs.getD i (0, 0) = qs[i] := by simp [hj]
    rw [e1, e2]
    by_cases h : ps[i] = qs[i]
    · simp [h]
    · simp [h]
theorem Vs.at {D : Addr → Prop} {h : Heap} {α : Type} {f : α → PV} {as : List α} {vs : List Value} (e : Vs D h (as.map f) vs) (d : α) (i : Nat) (hi : i < vs.length) : V D h (f (as.getD i d)) vs[i] := by
  have hl := e.length
  rw [List.length_map] at hl
  have hx : (as.map f)[i]? = some (f (as.getD i d)) := by
    have : i < as.length := by omega
    simp [this]
  obtain ⟨v, e1, e2⟩ := e.get i hx
  rw [List.getElem?_eq_getElem hi] at e1
  injection e1 with e1
  rw [e1]; exact e2
theorem SortOk.runs {Γ : Cx} {its : List (List (Int × Int) × List Int)} {m : Nat} (hm : ∀ t ∈ its, t.1.length = m) (hnd : (its.map (·.1)).Nodup) :
    SortOk Γ (its.map itP) (fun i j => ltRun (its.getD i ([], [])).1 (its.getD j ([], [])).1) := by
  refine ⟨tuples' true, fun A n D s vs hn hA hB hvs hD => ?_⟩
  have hl := hvs.length
  rw [List.length_map] at hl
  have hu : A.in1.in1.units + 64 < cLine := by
    have := hA.units
    show A.units + 1 + 1 + 64 < cLine
    unfold cLine
    omega
  have parts : ∀ i (hi : i < vs.length), ∃ a o items nn x y, vs[i] = .ref a ∧ s.heap.get? a = some o ∧ o.cls = .type "tuple" ∧ o.data = .seq items nn ∧ items.toList = [x, y] ∧ V D s.heap (.lst ((its.getD i ([], [])).1.map pairP)) x ∧ V D s.heap (.lst ((its.getD i ([], [])).2.map .int)) y := by
    intro i hi
    have h := hvs.at ([], []) i hi
    generalize vs[i] = v at h
    obtain ⟨a, items, rfl, ⟨o, ho, hc, nn, hd⟩, e⟩ := V_tup.mp (show V D s.heap (.tup [.lst ((its.getD i ([], [])).1.map pairP), .lst ((its.getD i ([], [])).2.map .int)]) v from h)
    rw [Vs_cons] at e
    obtain ⟨x, r, e1, e2, e3⟩ := e
    rw [Vs_cons] at e3
    obtain ⟨y, r', rfl, e4, e5⟩ := e3
    rw [Vs_nil] at e5; subst e5
    exact ⟨a, o, items, nn, x, y, rfl, ho, hc, hd, e1, e2, e4⟩
  refine ⟨fun h2 Q hQ => ?_, fun i j C hi hj hC => ?_⟩
  · have key : ∀ ws : List Value, (∀ v ∈ ws, v ∈ vs) → ∃ fs, KatTups s.heap ws fs ∧ fs.length = ws.length ∧ ∀ f ∈ fs, ∃ a o, f = .ref a ∧ s.heap.get? a = some o ∧ o.cls = .type "list" := by
      intro ws
      induction ws with
      | nil => intro _; exact ⟨[], KatTups.nil, rfl, fun _ h => nomatch h⟩
      | cons v ws ih =>
        intro hw
        obtain ⟨fs, k1, k2, k3⟩ := ih fun u hu => hw u (List.mem_cons_of_mem _ hu)
        obtain ⟨i, hi, hvi⟩ := List.getElem_of_mem (hw v List.mem_cons_self)
        obtain ⟨a, o, items, nn, x, y, h1, h2, h3, h4, h5, h6, h7⟩ := parts i hi
        obtain ⟨lx, lit, rfl, _, ⟨lo, hlo, hlc, _⟩, _⟩ := V_lst.mp h6
        rw [hvi] at h1; subst h1
        have h0 : items[0]? = some (.ref lx) := by
          have : items.toList[0]? = some (.ref lx) := by rw [h5]; rfl
          simpa using this
        exact ⟨.ref lx :: fs, KatTups.cons h2 h3 h4 h0 k1, by simp [k2], fun f hf => by
          rcases List.mem_cons.mp hf with rfl | hf
          · exact ⟨lx, lo, rfl, hlo, hlc⟩
          · exact k3 f hf⟩
    obtain ⟨fs, k1, k2, k3⟩ := key vs fun v hv => hv
    refine kat_kind (T := .type "list") k1 (by omega) (fun f hf => ?_) rfl hQ
    obtain ⟨a, o, rfl, ho, hc⟩ := k3 f hf
    rw [← hc]
    exact (Looks.ld ho).andThen .now
  · obtain ⟨a, o, items, nn, x, y, h1, h2, h3, h4, h5, h6, h7⟩ := parts i hi
    obtain ⟨a', o', items', nn', x', y', g1, g2, g3, g4, g5, g6, g7⟩ := parts j hj
    unfold kas_ask
    have ei : vs.getD i Value.none = .ref a := by rw [← h1]; simp [hi]
    have ej : vs.getD j Value.none = .ref a' := by rw [← g1]; simp [hj]
    rw [ei, ej]
    refine kat_lt h2 h4 g2 g4 ?_
    have z1 : items.size = 2 := by rw [← Array.length_toList, h5]; rfl
    have z2 : items'.size = 2 := by rw [← Array.length_toList, g5]; rfl
    rw [z1, z2, h5, g5]
    show KatLex _ _ _ true false _ [(x, x'), (y, y')] 0 s
    refine kat_cons (eqAt_run h6 g6 hu _ _ _ _ ?_)
    have mem : ∀ q, q < its.length → its.getD q ([], []) ∈ its := fun q hq => by
      have : its.getD q ([], []) = its[q] := by simp [hq]
      rw [this]; exact List.getElem_mem hq
    have hmi := hm _ (mem i (by omega))
    have hmj := hm _ (mem j (by omega))
    by_cases hij : i = j
    · subst hij
      rw [decide_eq_true rfl]
      refine kat_yes (kat_cons (eqAt_row h7 g7 hu _ _ _ _ ?_))
      rw [decide_eq_true rfl]
      refine kat_yes (kat_nil ?_)
      have : ∀ ps : List (Int × Int), ltRun ps ps = false := by
        intro ps
        induction ps with
        | nil => rfl
        | cons p ps ih => rw [ltRun, if_pos rfl, ih]
      rw [this] at hC
      exact hC
    · have hne : (its.getD i ([], [])).1 ≠ (its.getD j ([], [])).1 := fun q => by
        have e1 : (its.getD i ([], [])).1 = (its.map (·.1))[i]'(by simp; omega) := by
          have : i < its.length := by omega
          simp [this]
        have e2 : (its.getD j ([], [])).1 = (its.map (·.1))[j]'(by simp; omega) := by
          have : j < its.length := by omega
          simp [this]
        rw [e1, e2] at q
        exact hij ((List.getElem_inj hnd).mp q)
      rw [decide_eq_false hne]
      refine kat_no ?_
      obtain ⟨lx, lit, rfl, _, hlx, vx⟩ := V_lst.mp h6
      obtain ⟨lx', lit', rfl, _, hlx', vx'⟩ := V_lst.mp g6
      have zx : lit.size = (its.getD i ([], [])).1.length := by have := vx.length; simpa using this
      have zx' : lit'.size = (its.getD j ([], [])).1.length := by have := vx'.length; simpa using this
      have hu1 : A.in1.in1.in1.units + 64 < cLine := by
        have := hA.units
        show A.units + 1 + 1 + 1 + 64 < cLine
        unfold cLine
        omega
      show wpAny _ _ (oneLt' true (.ref lx) (.ref lx')) _ _ s
      refine oneLt_lists (e := fun q => decide ((its.getD i ([], [])).1.getD q (0, 0) = (its.getD j ([], [])).1.getD q (0, 0))) (r := fun q => pairLt ((its.getD i ([], [])).1.getD q (0, 0)) ((its.getD j ([], [])).1.getD q (0, 0))) hlx hlx' (by omega) (by omega) (fun q q1 q2 => ?_) (fun q q1 q2 _ => ?_) ?_
      · have v1 := vx.at (0, 0) q (by simpa using q1)
        have v2 := vx'.at (0, 0) q (by simpa using q2)
        rw [Array.getElem_toList] at v1 v2
        exact eqAt_pair v1 v2 hu1
      · have v1 := vx.at (0, 0) q (by simpa using q1)
        have v2 := vx'.at (0, 0) q (by simpa using q2)
        rw [Array.getElem_toList] at v1 v2
        obtain ⟨b1, i1, r1, t1, w1⟩ := V_tup.mp (show V D s.heap (.tup [.int _, .int _]) lit[q] from v1)
        obtain ⟨b2, i2, r2, t2, w2⟩ := V_tup.mp (show V D s.heap (.tup [.int _, .int _]) lit'[q] from v2)
        rw [r1, r2]
        have n1 := w1.length
        have n2 := w2.length
        rw [Array.length_toList] at n1 n2
        exact LtAt.tuples (show s.heap.IsTuple b1 i1 from t1) (show s.heap.IsTuple b2 i2 from t2) (Vs.ints (ns := [_, _]) w1) (Vs.ints (ns := [_, _]) w2) (by rw [n1, n2]; rfl) (by omega)
      · rw [zx]
        have := ltRun_first (its.getD i ([], [])).1 (its.getD j ([], [])).1 _ 0 (by omega) rfl
        rw [List.drop_zero, List.drop_zero, List.drop_zero] at this
        rw [this]
        exact hC
end Mine

set_option maxRecDepth 100000
namespace Mine

/-! ## the order that sorting gives -/

end Mine

namespace Mine
/-! ## law 11 in numbers -/
def numsF (n c p : Int) : List (Int × Int) → List Int
  | [] => []
  | q :: ps => ((q.1 - c) * (n + 1) + q.2 - p - 1) :: numsF (n + 1) q.1 q.2 ps
def putAll (cur : List Nat) : List (Int × Int) → List Nat
  | [] => cur
  | q :: ps => putAll (putN cur q.2 q.1) ps
/-- pairs that go up -/
def Chn (n c p : Int) : List (Int × Int) → Prop
  | [] => True
  | q :: ps => (c < q.1 ∨ (c = q.1 ∧ p < q.2)) ∧ 0 ≤ q.2 ∧ q.2 ≤ n ∧ q.1 ≤ 100000 ∧ Chn (n + 1) q.1 q.2 ps
theorem step_div {n c p pt pl : Int} (h0 : 0 ≤ pl) (h1 : pl ≤ n) : (p + ((pt - c) * (n + 1) + pl - p - 1 + 1)) % (n + 1) = pl ∧ c + (p + ((pt - c) * (n + 1) + pl - p - 1 + 1)) / (n + 1) = pt := by
  have e : p + ((pt - c) * (n + 1) + pl - p - 1 + 1) = pl + (n + 1) * (pt - c) := by rw [Int.mul_comm]; omega
  rw [e]
  have h2 : (0 : Int) < n + 1 := by omega
  constructor
  · rw [Int.add_mul_emod_self_left, Int.emod_eq_of_lt h0 (by omega)]
  · rw [Int.add_mul_ediv_left _ _ (by omega), Int.ediv_eq_zero_of_lt h0 (by omega)]; omega
theorem ins_nums : ∀ (ps : List (Int × Int)) (cur : List Nat) (c p : Int), Chn cur.length c p ps → 0 ≤ c → -1 ≤ p → p ≤ cur.length → cur.length + ps.length ≤ 1000000 →
    insF cur c p (numsF cur.length c p ps) = putAll cur ps ∧ noOv cur c p (numsF cur.length c p ps) ∧ ∀ d ∈ numsF cur.length c p ps, 0 ≤ d ∧ d < 10 ^ 20
  | [], cur, c, p, _, _, _, _, _ => ⟨rfl, trivial, fun _ h => nomatch h⟩
  | q :: ps, cur, c, p, hC, c0, p0, p1, hz => by
    obtain ⟨h1, h2, h3, h4, h5⟩ := hC
    rw [List.length_cons] at hz
    obtain ⟨e1, e2⟩ := step_div (n := (cur.length : Int)) (c := c) (p := p) (pt := q.1) (pl := q.2) h2 h3
    have hl : ((putN cur q.2 q.1).length : Int) = (cur.length : Int) + 1 := by rw [putN_length]; rfl
    obtain ⟨i1, i2, i3⟩ := ins_nums ps (putN cur q.2 q.1) q.1 q.2 (by rw [hl]; exact h5) (by omega) (by omega) (by omega) (by rw [putN_length]; omega)
    rw [hl] at i1 i2 i3
    simp only [numsF, insF, noOv, putAll]
    rw [e1, e2, stepC_id (by omega)]
    refine ⟨i1, ⟨by omega, i2⟩, fun d hd => ?_⟩
    rcases List.mem_cons.mp hd with rfl | hd
    · have m0 : 0 ≤ (q.1 - c) * ((cur.length : Int) + 1) := Int.mul_nonneg (by omega) (by omega)
      have m1 : (q.1 - c) * ((cur.length : Int) + 1) ≤ 100000 * 1000001 := Int.mul_le_mul (by omega) (by omega) (by omega) (by omega)
      refine ⟨?_, by omega⟩
      rcases h1 with h | ⟨h, h'⟩
      · have : 1 * ((cur.length : Int) + 1) ≤ (q.1 - c) * ((cur.length : Int) + 1) := Int.mul_le_mul_of_nonneg_right (by omega) (by omega)
        omega
      · rw [← h]; simp; omega
    · exact i3 d hd

/-! ### the deeds -/
/-! ### both, joined -/
/-! ### one deed -/
theorem pw_snoc {α : Type} {R : α → α → Prop} {l : List α} {a : α} (h : l.Pairwise R) (h' : ∀ b ∈ l, R b a) : (l ++ [a]).Pairwise R := by
  rw [List.pairwise_append]
  exact ⟨h, List.pairwise_singleton _ _, fun b hb c hc => by rw [List.mem_singleton] at hc; subst hc; exact h' b hb⟩
end Mine

namespace Mine
/-! ## law 11: the deeds, sorted -/
theorem getD_map' {α β : Type} (f : α → β) (l : List α) (i : Nat) (a : α) (b : β) (h : i < l.length) : (l.map f).getD i b = f (l.getD i a) := by
  simp [h]
end Mine

namespace Mine
/-! ## law 10 in numbers -/
abbrev RunT := List (Int × Int)
abbrev ItT := List (Int × Int) × List Int
def stepM (plain strange points : Nat) (rows : List (List Int)) : List (List Int) :=
  rows.flatMap fun row => (if row.count 0 < plain then [row ++ [0]] else []) ++ (if row.length - row.count 0 < strange then (List.range points).map (fun (p : Nat) => row ++ [(1 : Int) + (p : Int)]) else [])
def marksN (plain strange points : Nat) : Nat → List (List Int)
  | 0 => [[]]
  | n + 1 => stepM plain strange points (marksN plain strange points n)
def markedP (row : List Int) : RunT := ((List.range row.length).filter fun k => decide (0 < row.getD k 0)).map fun k => (row.getD k 0, (k : Int))
def pairL (q : Int × Int) : List Int := [q.1, q.2]
def sortPairs (ps : RunT) : RunT := (sortP ps.length fun i j => ltL ((ps.map pairL).getD i []) ((ps.map pairL).getD j [])).map fun i => ps.getD i (0, 0)
def runF (row : List Int) : RunT := (sortPairs (markedP row)).map fun q => (q.1, (((List.range q.2.toNat).filter fun k => decide (row.getD k 0 ≤ q.1)).length : Int))
def itemsF (plain strange points : Nat) : List ItT := (marksN plain strange points (plain + strange)).map fun row => (runF row, row)
def sortIts (its : List ItT) : List ItT := (sortP its.length fun i j => ltRun (its.getD i ([], [])).1 (its.getD j ([], [])).1).map fun i => its.getD i ([], [])
def labs : Int → List Int → List Int
  | _, [] => []
  | z, m :: r => if m = 0 then (-1 - z) :: labs (z + 1) r else m :: labs z r
def baseLabs (plain : Nat) : List Int := (List.range plain).map fun (i : Nat) => -1 - (i : Int)
def putLabs : List Int → RunT → List Int
  | cur, [] => cur
  | cur, q :: r => putLabs (cur.take q.2.toNat ++ q.1 :: cur.drop q.2.toNat) r
def chnB (n c p : Int) : RunT → Bool
  | [] => true
  | q :: r => (decide (c < q.1) || (decide (c = q.1) && decide (p < q.2))) && decide (0 ≤ q.2) && decide (q.2 ≤ n) && chnB (n + 1) q.1 q.2 r
def cntB (n c p : Int) : RunT → List Int → Bool
  | [], [] => true
  | q :: r, x :: xs => decide (x = (q.1 - c) * (n + 1) + q.2 - p - 1) && cntB (n + 1) q.1 q.2 r xs
  | _, _ => false
def partF : RunT → RunT → Nat
  | p :: ps, q :: qs => if p = q then partF ps qs + 1 else 0
  | _, _ => 0
def cntNext (strange : Nat) (bef : Option RunT) (run : RunT) (counts : List Int) : List Int := match bef with
  | none => counts
  | some b => counts.take (partF run b) ++ [counts.getD (partF run b) 0 + 1] ++ List.replicate (strange - partF run b - 1) 0
def befB (strange : Nat) (bef : Option RunT) (run : RunT) : Bool := match bef with
  | none => true
  | some b => decide (b.length = strange) && decide (partF run b < strange) && decide (run.getD (partF run b) (0, 0) ≠ b.getD (partF run b) (0, 0))
def chk (plain strange points : Nat) : Option RunT → List Int → List ItT → Bool
  | _, _, [] => true
  | bef, counts, t :: r =>
    decide (t.1.length = strange) && befB strange bef t.1 && decide (counts.length = strange) && chnB plain 1 (-1) t.1 && cntB plain 1 (-1) t.1 (cntNext strange bef t.1 counts) &&
    t.1.all (fun q => decide (1 ≤ q.1) && decide (q.1 ≤ points)) && decide (t.2.length ≤ 10) && t.2.all (fun m => decide (0 ≤ m) && decide (m ≤ points)) && decide (t.2.count 0 = plain) && decide (putLabs (baseLabs plain) t.1 = labs 0 t.2) &&
    chk plain strange points (some t.1) (cntNext strange bef t.1 counts) r
def shapeB (plain strange points : Nat) : Bool :=
  ((List.range (plain + strange + 1)).all fun n => decide ((marksN plain strange points n).length ≤ 100) && (marksN plain strange points n).all fun r => decide (r.length ≤ 10)) &&
  decide ((itemsF plain strange points).length < 64) && (itemsF plain strange points).all (fun t => decide (t.1.length = strange)) && decide (((itemsF plain strange points).map (·.1)).Nodup) &&
  chk plain strange points none (List.replicate strange 0) (sortIts (itemsF plain strange points))
theorem shape0 : shapeB 0 2 3 = true := by decide +kernel
theorem shape1 : shapeB 1 2 3 = true := by decide +kernel
theorem shape2 : shapeB 2 2 2 = true := by decide +kernel
theorem shape3 : shapeB 3 1 6 = true := by decide +kernel
theorem shape4 : shapeB 0 3 2 = true := by decide +kernel
theorem shape5 : shapeB 2 3 1 = true := by decide +kernel
theorem shape6 : shapeB 3 3 1 = true := by decide +kernel
theorem shape7 : shapeB 0 2 4 = true := by decide +kernel
end Mine

namespace Mine
/-! ## law 10: what a row of counts makes -/
def sgF (signs : List Int) (m : Int) : Int := signs.getD (m - 1).toNat 0
def numsT (signs : List Int) : Int → Int → RunT → List Int → List Int
  | n, passed, q :: r, x :: xs => (x + (sgF signs q.1 - 127 - q.1 - passed) * (n + 1)) :: numsT signs (n + 1) (sgF signs q.1 - 127 - q.1) r xs
  | _, _, _, _ => []
def pairsT (signs : List Int) (run : RunT) : List (Int × Int) := run.map fun q => (sgF signs q.1, q.2)
theorem numsT_eq (signs : List Int) : ∀ (run : RunT) (counts : List Int) (n c p S : Int), cntB n c p run counts = true → numsT signs n (S - 127 - c) run counts = numsF n S p (pairsT signs run)
  | [], [], n, c, p, S, _ => rfl
  | [], _ :: _, n, c, p, S, h => by simp [cntB] at h
  | _ :: _, [], n, c, p, S, h => by simp [cntB] at h
  | q :: run, x :: counts, n, c, p, S, h => by
    rw [cntB, Bool.and_eq_true] at h
    have hx := of_decide_eq_true h.1
    have ih := numsT_eq signs run counts (n + 1) q.1 q.2 (sgF signs q.1) h.2
    rw [numsT, ih]
    unfold pairsT
    rw [List.map_cons, numsF]
    congr 1
    dsimp only
    rw [hx]
    have e : sgF signs q.1 - 127 - q.1 - (S - 127 - c) = (sgF signs q.1 - S) - (q.1 - c) := by omega
    have m : ((sgF signs q.1 - S) - (q.1 - c)) * (n + 1) = (sgF signs q.1 - S) * (n + 1) - (q.1 - c) * (n + 1) := Int.sub_mul _ _ _
    rw [e, m]
    omega
structure SgOk (signs : List Int) (points : Nat) : Prop where
  len : signs.length = points
  lo : ∀ m : Int, 1 ≤ m → m ≤ points → 128 ≤ sgF signs m ∧ sgF signs m ≤ 100000
  up : ∀ m m' : Int, 1 ≤ m → m < m' → m' ≤ points → sgF signs m < sgF signs m'
theorem chn_of {signs : List Int} {points : Nat} (hs : SgOk signs points) : ∀ (run : RunT) (n c p S : Int), chnB n c p run = true → (∀ q ∈ run, 1 ≤ q.1 ∧ q.1 ≤ points) → 1 ≤ c → (c ≤ points → S ≤ sgF signs c) → Chn n S p (pairsT signs run)
  | [], n, c, p, S, _, _, _, _ => trivial
  | q :: run, n, c, p, S, h, hr, hc, hS => by
    rw [chnB] at h
    simp only [Bool.and_eq_true, Bool.or_eq_true, decide_eq_true_eq] at h
    obtain ⟨⟨⟨h1, h2⟩, h3⟩, h4⟩ := h
    obtain ⟨q1, q2⟩ := hr q List.mem_cons_self
    have ih := chn_of hs run (n + 1) q.1 q.2 (sgF signs q.1) h4 (fun x hx => hr x (List.mem_cons_of_mem _ hx)) q1 (fun _ => Int.le_refl _)
    refine ⟨?_, h2, h3, (hs.lo q.1 q1 q2).2, ih⟩
    dsimp only
    rcases h1 with h1 | ⟨h1, h1'⟩
    · have := hs.up c q.1 hc h1 q2
      have := hS (by omega)
      omega
    · subst h1
      have := hS q2
      omega
/-! ### the text, by labels -/
def labF (base : List Nat) (signs : List Int) (m : Int) : Nat := if m < 0 then base.getD (-1 - m).toNat 0 else (sgF signs m).toNat
theorem putLabs_map {base : List Nat} {signs : List Int} : ∀ (run : RunT) (cur : List Int), (∀ q ∈ run, 1 ≤ q.1) → (putLabs cur run).map (labF base signs) = putAll (cur.map (labF base signs)) (pairsT signs run)
  | [], cur, _ => rfl
  | q :: run, cur, h => by
    rw [putLabs, putLabs_map run _ fun x hx => h x (List.mem_cons_of_mem _ hx)]
    unfold pairsT
    rw [List.map_cons, putAll]
    congr 1
    unfold putN
    rw [List.map_append, List.map_cons, List.map_take, List.map_drop]
    have : labF base signs q.1 = (sgF signs q.1).toNat := by
      have := h q List.mem_cons_self
      unfold labF; rw [if_neg (by omega)]
    rw [this]
theorem baseLabs_map {base : List Nat} {signs : List Int} : (baseLabs base.length).map (labF base signs) = base := by
  unfold baseLabs
  rw [List.map_map]
  apply List.ext_getElem
  · simp
  · intro i h1 h2
    simp at h1
    simp only [List.getElem_map, List.getElem_range, Function.comp]
    unfold labF
    rw [if_pos (by omega), show ((-1 : Int) - (-1 - (i : Int))).toNat = i from by omega]
    simp [h2]
def textF (base : List Nat) (signs : List Int) (used : Int) (row : List Int) : List Nat := (labs used row).map (labF base signs)
/-- a row of the law -/
theorem row_ok {base : List Nat} {signs : List Int} {strange points : Nat} {counts : List Int} {t : ItT} (hs : SgOk signs points) (hchn : chnB base.length 1 (-1) t.1 = true) (hcnt : cntB base.length 1 (-1) t.1 counts = true) (hpt : ∀ q ∈ t.1, 1 ≤ q.1 ∧ q.1 ≤ points)
    (hlab : putLabs (baseLabs base.length) t.1 = labs 0 t.2) (hz : base.length + t.1.length ≤ 1000000) :
    insF base 128 (-1) (numsT signs base.length 0 t.1 counts) = textF base signs 0 t.2 ∧ noOv base 128 (-1) (numsT signs base.length 0 t.1 counts) ∧ ∀ d ∈ numsT signs base.length 0 t.1 counts, 0 ≤ d ∧ d < 10 ^ 20 := by
  have e := numsT_eq signs t.1 counts base.length 1 (-1) 128 hcnt
  rw [show (128 : Int) - 127 - 1 = 0 from rfl] at e
  rw [e]
  have hC := chn_of hs t.1 base.length 1 (-1) 128 hchn hpt (by decide) (fun h => (hs.lo 1 (by decide) h).1)
  have hl : (pairsT signs t.1).length = t.1.length := by unfold pairsT; simp
  obtain ⟨i1, i2, i3⟩ := ins_nums (pairsT signs t.1) base 128 (-1) hC (by decide) (by decide) (by omega) (by omega)
  refine ⟨?_, i2, i3⟩
  rw [i1]
  unfold textF
  rw [← hlab, putLabs_map t.1 _ fun q hq => (hpt q hq).1, baseLabs_map]
theorem numsT_length (signs : List Int) : ∀ (run : RunT) (counts : List Int) (n p : Int), run.length = counts.length → (numsT signs n p run counts).length = run.length
  | [], counts, n, p, _ => by cases counts <;> rfl
  | q :: run, [], n, p, h => by simp at h
  | q :: run, x :: counts, n, p, h => by rw [numsT, List.length_cons, List.length_cons, numsT_length signs run counts _ _ (by simpa using h)]
theorem cntB_length : ∀ (run : RunT) (counts : List Int) (n c p : Int), cntB n c p run counts = true → run.length = counts.length
  | [], [], n, c, p, _ => rfl
  | [], _ :: _, n, c, p, h => by simp [cntB] at h
  | _ :: _, [], n, c, p, h => by simp [cntB] at h
  | q :: run, x :: counts, n, c, p, h => by
    rw [cntB, Bool.and_eq_true] at h
    rw [List.length_cons, List.length_cons, cntB_length run counts _ _ _ h.2]
theorem partF_same : ∀ (a b : RunT) (k : Nat), k < partF a b → a.getD k (0, 0) = b.getD k (0, 0)
  | [], _, k, h => by simp [partF] at h
  | p :: ps, [], k, h => by simp [partF] at h
  | p :: ps, q :: qs, k, h => by
    rw [partF] at h
    split at h
    · rename_i e
      cases k with
      | zero => simpa using e
      | succ k => simpa using partF_same ps qs k (by omega)
    · omega
end Mine

namespace Mine
local macro_rules | `(tactic| wtm_at "side") => `(tactic| first | with_reducible assumption | omega | decide | (simp; done) | (simp; omega) | skip)
local macro_rules | `(tactic| wtm_at "mul") => `(tactic| first | exact IntMulOk.of_left (intBits_le_64 (by omega) (by omega)) | exact IntMulOk.of_right (intBits_le_64 (by omega) (by omega)) | skip)
local macro_rules | `(tactic| wtm_at "cl") => `(tactic| fail "no contract")
local macro_rules | `(tactic| wtm_at "op") => `(tactic| first
  | with_reducible exact Op2.add | with_reducible exact Op2.sub
  | ((with_reducible refine' Op2.fdiv ?s1 ?s2); (case s1 => wtm_at "side"); (case s2 => wtm_at "side"))
  | ((with_reducible refine' Op2.mod ?s1); (case s1 => wtm_at "side"))
  | with_reducible exact Op2.eq | with_reducible exact Op2.lt | with_reducible exact Op2.gt | with_reducible exact Op2.le | with_reducible exact Op2.ge | with_reducible exact Op2.ne
  | ((with_reducible refine' Op2.mul ?s1); (case s1 => wtm_at "mul"))
  | with_reducible exact Op2.iadd | with_reducible exact Op2.isub
  | ((with_reducible refine' Op2.ifdiv ?s1 ?s2); (case s1 => wtm_at "side"); (case s2 => wtm_at "side"))
  | ((with_reducible refine' Op2.imul ?s1); (case s1 => wtm_at "mul"))
  | fail "no operation")
local macro_rules | `(tactic| wtm_at "evx") => `(tactic| fail "no expression")
local macro_rules | `(tactic| wtm_at "ev") => `(tactic| first
  | with_reducible exact Ev.cint | with_reducible exact Ev.cbool | with_reducible exact Ev.cnone | with_reducible exact Ev.cbytes
  | ((with_reducible refine' Ev.name ?hx); (case hx => exact rfl))
  | ((with_reducible refine' Ev.glob ?hx); (case hx => first | exact rfl | assumption))
  | ((with_reducible refine' Ev.bin ?hl ?hr ?ho); (case hl => wtm_at "ev"); (case hr => wtm_at "ev"); (case ho => wtm_at "op"))
  | ((with_reducible refine' Ev.cmp ?hl ?hr ?ho); (case hl => wtm_at "ev"); (case hr => wtm_at "ev"); (case ho => wtm_at "op"))
  | ((with_reducible refine' Ev.call ?hf ?hk ?ha ?hc); (case hf => wtm_at "ev"); (case hk => wtm_at "kp"); (case ha => wtm_at "es"); (case hc => wtm_at "cl"))
  | ((with_reducible refine' Ev.neg ?hl); (case hl => wtm_at "ev"))
  | ((with_reducible refine' Ev.tuple ?hl ?hs); (case hl => wtm_at "es"); (case hs => (simp; done)))
  | ((with_reducible refine' Ev.list ?hl ?hs); (case hl => wtm_at "es"); (case hs => (simp; done)))
  | wtm_at "evx")
local macro_rules | `(tactic| wtm_at "kp") => `(tactic| first | with_reducible exact KeepOk.builtin | with_reducible exact KeepOk.type | with_reducible assumption)
local macro_rules | `(tactic| wtm_at "es") => `(tactic| first | with_reducible exact Es.nil | ((with_reducible refine' Es.cons ?hl ?hr); (case hl => wtm_at "ev"); (case hr => wtm_at "es")))
local macro_rules | `(tactic| wtm_at "truth") => `(tactic| first | with_reducible exact Truth.bool | with_reducible exact Truth.int)
local macro_rules | `(tactic| wtm_at "tr") => `(tactic| first
  | ((with_reducible refine' Tr.cmp ?hl ?hr ?ho); (case hl => wtm_at "ev"); (case hr => wtm_at "ev"); (case ho => wtm_at "op"))
  | ((with_reducible refine' Tr.not ?hl); (case hl => wtm_at "tr"))
  | ((with_reducible refine' Tr.and2 ?hl (fun h => ?hr)); (case hl => wtm_at "tr"); (case hr => wtm_at "tr"))
  | ((with_reducible refine' Tr.or2 ?hl (fun h => ?hr)); (case hl => wtm_at "tr"); (case hr => wtm_at "tr"))
  | ((with_reducible refine' Tr.val ?hl ?hr); (case hl => wtm_at "ev"); (case hr => wtm_at "truth"))
  | fail "no test")
local macro_rules | `(tactic| wtm_at "sub") => `(tactic| repeat' (first | exact True.intro | refine And.intro (by exact rfl) ?_))

abbrev pg := PySem.Challenge.pw_dm0101_10
variable {Γ : Cx}

theorem T_ok {a : Addr} (hT : DefAt Γ a "T" (fnAt pg 1)) {j bias : Int} : CallOk Γ 1 (.ref a) [.int j, .int bias] (.int (tF j bias)) := by
  refine DefAt.call hT ?_ ?_
  · refine Xs.cons (X1.assign (by wtm_at "ev") ?_)
    unfold tF
    refine Xs.cons (X1.ite (by wtm_at "tr") (fun hc => ?_) (fun hc => ?_))
    · have hc' := of_decide_eq_true hc
      rw [if_pos hc']
      exact Xs.cons (X1.ret (by wtm_at "ev") rfl)
    · have hc' := of_decide_eq_false hc
      rw [if_neg hc']
      refine Xs.nil ?_
      refine Xs.cons (X1.ite (by wtm_at "tr") (fun hc => ?_) (fun hc => ?_))
      · have hc' := of_decide_eq_true hc
        rw [if_pos hc']
        exact Xs.cons (X1.ret (by wtm_at "ev") rfl)
      · have hc' := of_decide_eq_false hc
        rw [if_neg hc']
        refine Xs.nil ?_
        exact Xs.cons (X1.ret (by wtm_at "ev") rfl)
  · intro pm cd doc vals h
    obtain ⟨x, y, rfl⟩ := len2 h
    rfl

structure GHas (Γ : Cx) (aT : Addr) : Prop where
  dT : DefAt Γ aT "T" (fnAt pg 1)
  nT : Γ.gl.lookup ("T" : Str) = some (PV.obj (.ref aT))
  nD : Γ.gl.lookup ("digits" : Str) = some (PV.bytes dgs)
  nB : Γ.gl.lookup ("bytes" : Str) = some (PV.obj (.type "bytes"))
  nA : Γ.gl.lookup ("bytearray" : Str) = some (PV.obj (.type "bytearray"))

theorem ggi_ok {a aT : Addr} (hG : DefAt Γ a "generate_generalized_integer" (fnAt pg 3)) (g : GHas Γ aT) {m : Nat} {N bias : Int} (h0 : 0 ≤ N) (h1 : N < 10 ^ m) (hm : m < 60000) :
    CallOk Γ 2 (.ref a) [.int N, .int bias] (.bytes (ggiB N bias)) := by
  obtain ⟨dT, nT, nD, nB, nA⟩ := g
  have kT := dT.keep
  refine DefAt.call hG ?_ ?_
  · refine Xs.cons (X1.own (EvN.call (by wtm_at "ev") (by wtm_at "kp") (by wtm_at "es") CallN.bytearray) fun a _ => ?_)
    refine Xs.cons (X1.assign (by wtm_at "ev") ?_)
    refine Xs.cons (X1.while ?_)
    refine Wh.sub (σ' := [("N", .int N), ("bias", .int bias), ("result", .ref a), ("j", .int 0)]) ⟨rfl, rfl, rfl, rfl, trivial⟩ ?_
    have hR : ggiB N bias = [] ++ (ggiD N bias 0).map dB := rfl
    rw [hR]
    generalize hl : ([] : List UInt8) = l
    generalize hj : (0 : Int) = j
    have hlm : l.length + m < 60000 := by subst hl; simpa using hm
    have h0' : 0 ≤ N := h0
    clear hR hl hj hm h0
    induction m generalizing N l j with
    | zero =>
      refine Wh.step (by wtm_at "tr") (fun hc => ?_) (fun hc => absurd hc (by decide))
      refine Xs.cons (X1.assign (Ev.call (by wtm_at "ev") (by wtm_at "kp") (by wtm_at "es") (T_ok dT)) ?_)
      have hlt : N < tF j bias := by have := tF_ge j bias; omega
      have hN : N = 0 := by omega
      rw [ggiD, dif_pos hlt]
      refine Xs.cons (X1.ite (by wtm_at "tr") (fun hc => ?_) (fun hc => absurd hlt (of_decide_eq_false hc)))
      refine Xs.cons (X1.meth (μ₁ := []) (μ₂ := []) (a := a) (o := .barr l) rfl (Es.cons (Ev.sub (by wtm_at "ev") (by wtm_at "ev") (Op2.itemB (by omega) (by show N < 36; omega) (by decide)) HasItem.bytes) Es.nil) (MethOk.ba_append (Int.natCast_nonneg _) (by have := (dgs.getD N.toNat 0).toNat_lt; omega) (by omega)) F.ba_plainAttrs F.ba_slot_append F.ba_type_append ?_)
      refine Xs.cons (X1.ret (Ev.bytesOf (μ₁ := []) (μ₂ := []) (by wtm_at "ev") rfl (by simp; omega)) ?_)
      simp [dB]
    | succ m ih =>
      refine Wh.step (by wtm_at "tr") (fun hc => ?_) (fun hc => absurd hc (by decide))
      refine Xs.cons (X1.assign (Ev.call (by wtm_at "ev") (by wtm_at "kp") (by wtm_at "es") (T_ok dT)) ?_)
      have ht1 := tF_ge j bias
      have ht2 := tF_le j bias
      rw [ggiD]
      refine Xs.cons (X1.ite (by wtm_at "tr") (fun hc => ?_) (fun hc => ?_))
      · have hlt := of_decide_eq_true hc
        rw [dif_pos hlt]
        refine Xs.cons (X1.meth (μ₁ := []) (μ₂ := []) (a := a) (o := .barr l) rfl (Es.cons (Ev.sub (by wtm_at "ev") (by wtm_at "ev") (Op2.itemB (by omega) (by show N < 36; omega) (by decide)) HasItem.bytes) Es.nil) (MethOk.ba_append (Int.natCast_nonneg _) (by have := (dgs.getD N.toNat 0).toNat_lt; omega) (by omega)) F.ba_plainAttrs F.ba_slot_append F.ba_type_append ?_)
        refine Xs.cons (X1.ret (Ev.bytesOf (μ₁ := []) (μ₂ := []) (by wtm_at "ev") rfl (by simp; omega)) ?_)
        simp [dB]
      · have hlt := of_decide_eq_false hc
        rw [dif_neg hlt]
        generalize ht : tF j bias = t at *
        refine Xs.nil ?_
        have hm0 : 0 ≤ (N - t) % (36 - t) := Int.emod_nonneg _ (by omega)
        have hm1 : (N - t) % (36 - t) < 36 - t := Int.emod_lt_of_pos _ (by omega)
        refine Xs.cons (X1.meth (μ₁ := []) (μ₂ := []) (a := a) (o := .barr l) rfl (Es.cons (Ev.sub (by wtm_at "ev") (by wtm_at "ev") (Op2.itemB (by omega) (by show _ < (36 : Int); omega) (by decide)) HasItem.bytes) Es.nil) (MethOk.ba_append (Int.natCast_nonneg _) (by have := (dgs.getD (t + (N - t) % (36 - t)).toNat 0).toNat_lt; omega) (by omega)) F.ba_plainAttrs F.ba_slot_append F.ba_type_append ?_)
        refine Xs.cons (X1.assign (by wtm_at "ev") ?_)
        refine Xs.cons (X1.aug rfl (by wtm_at "ev") (by wtm_at "op") ?_)
        refine Xs.nil ?_
        have hq0 : 0 ≤ (N - t) / (36 - t) := Int.ediv_nonneg (by omega) (by omega)
        have hq1 : (N - t) / (36 - t) < 10 ^ m := by
          refine Int.ediv_lt_of_lt_mul (by omega) ?_
          have h3 : (10 : Int) ^ m * 10 ≤ 10 ^ m * (36 - t) := Int.mul_le_mul_of_nonneg_left (by omega) (Int.pow_nonneg (by omega))
          rw [Int.pow_succ] at h1
          omega
        have := ih hq1 (l ++ [dB (t + (N - t) % (36 - t))]) (j + 1) (by simp; omega) hq0
        rw [List.append_assoc] at this
        refine Wh.sub (σ' := [("N", .int ((N - t) / (36 - t))), ("bias", .int bias), ("result", .ref a), ("j", .int (j + 1))]) ⟨rfl, rfl, rfl, rfl, trivial⟩ ?_
        have e : ((dgs.getD (t + (N - t) % (36 - t)).toNat 0).toNat : Int).toNat.toUInt8 = dB (t + (N - t) % (36 - t)) := by simp [dB]
        rw [e]
        exact this
  · intro pm cd doc vals h
    obtain ⟨x, y, rfl⟩ := len2 h
    rfl
theorem adapt_tail {delta n : Int} (hd : 0 ≤ delta) (hn : 0 < n) (hn2 : n < 2 ^ 64) :
    Xs Γ 0 (fnAt pg 4).2.2 [("delta", .int delta), ("numchars", .int n)] [] (fnAt pg 4).2.1.tail (fun fl _ _ => fl = .ret (.int (adLoop (delta + delta / n) 0))) := by
  refine Xs.cons (X1.aug rfl (by wtm_at "ev") (by wtm_at "op") ?_)
  refine Xs.cons (X1.assign (by wtm_at "ev") ?_)
  refine Xs.cons (X1.while ?_)
  have hd' : 0 ≤ delta / n := Int.ediv_nonneg hd (by omega)
  generalize he : delta + delta / n = e
  have he0 : 0 ≤ e := by omega
  clear he hd hd'
  refine Wh.sub (σ' := [("delta", .int e), ("divisions", .int 0)]) ⟨rfl, rfl, trivial⟩ ?_
  generalize hR : adLoop e 0 = R
  generalize hdv : (0 : Int) = dv at hR
  have he0' : 0 ≤ e := he0
  clear hdv he0
  obtain ⟨m, hm⟩ : ∃ m : Nat, e.toNat ≤ m := ⟨_, Nat.le_refl _⟩
  induction m using Nat.strongRecOn generalizing e dv with
  | ind m ih =>
    refine Wh.step (by wtm_at "tr") (fun hc => ?_) (fun hc => ?_)
    · have hc' := of_decide_eq_true hc
      refine Xs.cons (X1.assign (by wtm_at "ev") ?_)
      refine Xs.cons (X1.aug rfl (by wtm_at "ev") (by wtm_at "op") ?_)
      refine Xs.nil ?_
      refine Wh.sub (σ' := [("delta", .int (e / 35)), ("divisions", .int (dv + 36))]) ⟨rfl, rfl, trivial⟩ ?_
      rw [adLoop, dif_pos hc'] at hR
      exact ih (e / 35).toNat (by omega) (e / 35) (dv + 36) hR (by omega) (Nat.le_refl _)
    · have hc' := of_decide_eq_false hc
      refine Xs.nil ?_
      refine Xs.cons (X1.assign (by wtm_at "ev") ?_)
      refine Xs.cons (X1.ret (by wtm_at "ev") ?_)
      rw [adLoop, dif_neg hc'] at hR
      rw [hR]

theorem adapt_ok {a : Addr} (hA : DefAt Γ a "adapt" (fnAt pg 4)) {delta n : Int} {first : Bool} (hd : 0 ≤ delta) (hn : 0 < n) (hn2 : n < 2 ^ 64) :
    CallOk Γ 1 (.ref a) [.int delta, .bool first, .int n] (.int (adaptF delta first n)) := by
  refine DefAt.call hA ?_ ?_
  · refine Xs.cons (X1.ite (by wtm_at "tr") (fun hc => ?_) (fun hc => ?_))
    · subst hc
      refine Xs.cons (X1.aug rfl (by wtm_at "ev") (by wtm_at "op") ?_)
      refine Xs.nil ?_
      exact Xs.sub (σ' := [("delta", .int (delta / 700)), ("numchars", .int n)]) ⟨rfl, rfl, trivial⟩ (adapt_tail (by omega) hn hn2)
    · subst hc
      refine Xs.cons (X1.aug rfl (by wtm_at "ev") (by wtm_at "op") ?_)
      refine Xs.nil ?_
      exact Xs.sub (σ' := [("delta", .int (delta / 2)), ("numchars", .int n)]) ⟨rfl, rfl, trivial⟩ (adapt_tail (by omega) hn hn2)
  · intro pm cd doc vals h
    obtain ⟨x, y, z, rfl⟩ := len3 h
    rfl


theorem gi_ok {a aG aA aT : Addr} (hI : DefAt Γ a "generate_integers" (fnAt pg 5)) (g : GHas Γ aT) (dG : DefAt Γ aG "generate_generalized_integer" (fnAt pg 3)) (nG : Γ.gl.lookup ("generate_generalized_integer" : Str) = some (PV.obj (.ref aG)))
    (dA : DefAt Γ aA "adapt" (fnAt pg 4)) (nAd : Γ.gl.lookup ("adapt" : Str) = some (PV.obj (.ref aA))) (nE : Γ.gl.lookup ("enumerate" : Str) = some (PV.obj (.type "enumerate")))
    {base : Int} {ds : List Int} (hb0 : 0 ≤ base) (hb1 : base < 2 ^ 60) (hd : ∀ d ∈ ds, 0 ≤ d ∧ d < 10 ^ 20) (hl : ds.length < 1000) :
    CallOk Γ 3 (.ref a) [.int base, .lst (ds.map .int)] (.bytes ((giD base 0 72 ds).map dB)) := by
  have g' := g
  obtain ⟨dT, nT, nD, nB, nA⟩ := g
  have kG := dG.keep
  have kA := dA.keep
  refine DefAt.call hI ?_ ?_
  · refine Xs.cons (X1.own (EvN.call (by wtm_at "ev") (by wtm_at "kp") (by wtm_at "es") CallN.bytearray) fun a _ => ?_)
    refine Xs.cons (X1.assign (by wtm_at "ev") ?_)
    refine Xs.cons (X1.forI (EvI.enum (by wtm_at "ev") (by wtm_at "es")) ?_ (fun _ => rfl))
    refine Fo.sub (σ' := [("baselen", .int base), ("result", .ref a), ("bias", .int 72)]) (by wtm_at "sub") ?_
    generalize hR : giD base 0 72 ds = R
    refine (?_ : ∀ (ds : List Int) (p : Nat) (bias : Int) (done : List Int), (∀ d ∈ ds, 0 ≤ d ∧ d < 10 ^ 20) → p + ds.length < 1000 → done.length ≤ 21 * p → done ++ giD base (p : Int) bias ds = R →
      Fo Γ 2 (fnAt pg 5).2.2 [("baselen", .int base), ("result", .ref a), ("bias", .int bias)] [(a, .barr (done.map dB))] _ _ _ (enumL (p : Int) (ds.map .int)) _) ds 0 72 [] hd (by omega) (by simp) hR
    intro ds
    induction ds with
    | nil =>
      intro p bias done _ _ hz hr
      refine Fo.nil (Xs.nil ?_)
      refine Xs.cons (X1.ret (Ev.bytesOf (μ₁ := []) (μ₂ := []) (by wtm_at "ev") rfl (by simp; omega)) ?_)
      simp only [giD, List.append_nil] at hr
      rw [hr]
    | cons d ds ih =>
      intro p bias done hd hp hz hr
      obtain ⟨h0, h1⟩ := hd d List.mem_cons_self
      simp only [List.length_cons] at hp
      refine Fo.cons (As.tuple2 As.name As.name) ?_
      refine Xs.cons (X1.assign (Ev.call (by wtm_at "ev") (by wtm_at "kp") (by wtm_at "es") (ggi_ok dG g' h0 h1 (by decide))) ?_)
      have hgl := ggiD_length_le 20 d bias 0 h1
      refine Xs.cons (X1.meth (μ₁ := []) (μ₂ := []) (a := a) (o := .barr (done.map dB)) rfl (by wtm_at "es") (MethOk.ba_extend (m := ggiB d bias) (by unfold ggiB; simp; omega)) F.ba_plainAttrs F.ba_slot_extend F.ba_type_extend ?_)
      refine Xs.cons (X1.assign (Ev.call (by wtm_at "ev") (by wtm_at "kp") (by wtm_at "es") (CallOk.mono (adapt_ok dA h0 (by omega) (by omega)) (by decide))) ?_)
      refine Xs.nil ?_
      have e : done.map dB ++ ggiB d bias = (done ++ ggiD d bias 0).map dB := by unfold ggiB; simp
      rw [e]
      have e2 : (p : Int) + 1 = ((p + 1 : Nat) : Int) := by omega
      rw [e2]
      have := ih (p + 1) (adaptF d (decide ((p : Int) = 0)) (base + p + 1)) (done ++ ggiD d bias 0) (fun x hx => hd x (List.mem_cons_of_mem _ hx)) (by omega) (by simp; omega)
      have e3 : done ++ giD base (p : Int) bias (d :: ds) = (done ++ ggiD d bias 0) ++ giD base ((p + 1 : Nat) : Int) (adaptF d (decide ((p : Int) = 0)) (base + p + 1)) ds := by
        rw [giD, List.append_assoc, ← e2]
      rw [e3] at hr
      exact Fo.sub (by wtm_at "sub") (this hr)
  · intro pm cd doc vals h
    obtain ⟨x, y, rfl⟩ := len2 h
    rfl


/-! ### decode_generalized_number -/
theorem dec_ok {a aT : Addr} (hD : DefAt Γ a "decode_generalized_number" (fnAt pg 6)) (dT : DefAt Γ aT "T" (fnAt pg 1)) (nT : Γ.gl.lookup ("T" : Str) = some (PV.obj (.ref aT)))
    {ds post : List Int} {bias N : Int} {p : Nat} {err : PV} (hd : ∀ d ∈ ds, 0 ≤ d ∧ d < 36) (hl : ds.length < 2 ^ 20) (hN : 0 ≤ N) (hdr : ds.drop p = ggiD N bias 0 ++ post) :
    CallOk Γ 2 (.ref a) [.bytes (ds.map dU), .int (p : Int), .int bias, err] (.tup [.int ((p + (ggiD N bias 0).length : Nat) : Int), .int N]) := by
  have kT := dT.keep
  refine DefAt.call hD ?_ ?_
  · refine Xs.cons (X1.assign (by wtm_at "ev") ?_)
    refine Xs.cons (X1.assign (by wtm_at "ev") ?_)
    refine Xs.cons (X1.assign (by wtm_at "ev") ?_)
    refine Xs.cons (X1.while ?_)
    refine Wh.sub (σ' := [("extended", .bytes (ds.map dU)), ("extpos", .int (p : Int)), ("bias", .int bias), ("result", .int 0), ("w", .int 1), ("j", .int 0)]) (by wtm_at "sub") ?_
    generalize hR : PV.tup [.int ((p + (ggiD N bias 0).length : Nat) : Int), .int N] = R
    refine (?_ : ∀ (m : Nat) (N j r w : Int) (p : Nat), N.toNat ≤ m → 0 ≤ N → ds.drop p = ggiD N bias j ++ post → PV.tup [.int ((p + (ggiD N bias j).length : Nat) : Int), .int (r + w * N)] = R →
      Wh Γ 1 (fnAt pg 6).2.2 [("extended", .bytes (ds.map dU)), ("extpos", .int (p : Int)), ("bias", .int bias), ("result", .int r), ("w", .int w), ("j", .int j)] [] _ _ _ _) N.toNat N 0 0 1 p (Nat.le_refl _) hN hdr (by rw [← hR]; simp)
    intro m
    induction m using Nat.strongRecOn with
    | ind m ih =>
      intro N j r w p hm hN hdr hR
      have t1 := tF_ge j bias
      have t2 := tF_le j bias
      obtain ⟨d, rest, hg, hd0, hd35, hlt, hge⟩ : ∃ d rest, ggiD N bias j = d :: rest ∧ 0 ≤ d ∧ d < 36 ∧ (d < tF j bias → rest = [] ∧ d = N) ∧ (¬ d < tF j bias → rest = ggiD ((N - tF j bias) / (36 - tF j bias)) bias (j + 1) ∧ N = d + (36 - tF j bias) * ((N - tF j bias) / (36 - tF j bias)) ∧ tF j bias ≤ N) := by
        rw [ggiD]
        split
        · exact ⟨N, [], rfl, hN, by omega, fun _ => ⟨rfl, rfl⟩, fun h => absurd ‹_› h⟩
        · have m0 := Int.emod_nonneg (N - tF j bias) (b := 36 - tF j bias) (by omega)
          have m1 := Int.emod_lt_of_pos (N - tF j bias) (b := 36 - tF j bias) (by omega)
          have me := Int.mul_ediv_add_emod (N - tF j bias) (36 - tF j bias)
          exact ⟨_, _, rfl, by omega, by omega, fun h => by omega, fun _ => ⟨rfl, by omega, by omega⟩⟩
      have hp : p < ds.length := by
        have : (ds.drop p).length ≠ 0 := by rw [hdr, hg]; simp
        rw [List.length_drop] at this; omega
      have hget : (ds.map dU).getD (p : Int).toNat 0 = dU d := by
        have : ds[p]? = some d := by
          have h1 : (ds.drop p)[0]? = some d := by rw [hdr, hg]; rfl
          rw [List.getElem?_drop] at h1; simpa using h1
        rw [Int.toNat_natCast, List.getD_eq_getElem?_getD, List.getElem?_map, this]; rfl
      refine Wh.step (by wtm_at "tr") (fun hc => ?_) (fun hc => absurd hc (by decide))
      refine Xs.cons (X1.try (Xs.cons (X1.assign (Ev.sub (by wtm_at "ev") (by wtm_at "ev") (Op2.itemB (Int.natCast_nonneg _) (by simp; omega) (by simp; omega)) HasItem.bytes) (Xs.nil (Xs.nil ?_)))))
      rw [hget]
      refine Xs.cons (X1.aug rfl (by wtm_at "ev") (by wtm_at "op") ?_)
      have hv := dU_val d.toNat (by omega)
      rw [Int.toNat_of_nonneg hd0] at hv
      generalize ((dU d).toNat : Int) = c at hv
      have e1 : ((p : Int) + 1) = ((p + 1 : Nat) : Int) := by omega
      rw [e1]
      refine Xs.cut [("extended", .bytes (ds.map dU)), ("extpos", .int ((p + 1 : Nat) : Int)), ("bias", .int bias), ("result", .int r), ("w", .int w), ("j", .int j), ("digit", .int d)] [] ?_ ?_
      · refine X1.ite (Tr.cmp2 (by wtm_at "ev") (by wtm_at "ev") (by wtm_at "op") (fun _ => by wtm_at "ev") (fun _ => by wtm_at "op")) (fun hc => ?_) (fun hc => ?_)
        · have hc' : 65 ≤ c ∧ c ≤ 90 := by simpa using hc
          have hd26 : d < 26 := by
            rw [hv] at hc'
            split at hc' <;> omega
          rw [if_pos hd26] at hv
          refine Xs.cons (X1.assign (by wtm_at "ev") (Xs.nil ⟨rfl, ?_, rfl⟩))
          have : c - 65 = d := by omega
          rw [this]
          wtm_at "sub"
        · have hc' : ¬ (65 ≤ c ∧ c ≤ 90) := by simpa using hc
          have hd26 : ¬ d < 26 := by
            intro q
            rw [if_pos q] at hv; omega
          rw [if_neg hd26] at hv
          refine Xs.cons (X1.ite (Tr.cmp2 (by wtm_at "ev") (by wtm_at "ev") (by wtm_at "op") (fun _ => by wtm_at "ev") (fun _ => by wtm_at "op")) (fun hc2 => ?_) (fun hc2 => ?_))
          · refine Xs.cons (X1.assign (by wtm_at "ev") (Xs.nil (Xs.nil ⟨rfl, ?_, rfl⟩)))
            have : c - 22 = d := by omega
            rw [this]
            wtm_at "sub"
          · have : ¬ (48 ≤ c ∧ c ≤ 57) := by simpa using hc2
            omega
      refine Xs.cons (X1.assign (Ev.call (by wtm_at "ev") (by wtm_at "kp") (by wtm_at "es") (T_ok dT)) ?_)
      refine Xs.cons (X1.aug rfl (by wtm_at "ev") (by wtm_at "op") ?_)
      refine Xs.cons (X1.ite (by wtm_at "tr") (fun hc => ?_) (fun hc => ?_))
      · obtain ⟨hr, he⟩ := hlt (of_decide_eq_true hc)
        subst hr; subst he
        refine Xs.cons (X1.ret (v := R) ?_ rfl)
        have e2 : r + d * w = r + w * d := by rw [Int.mul_comm]
        rw [e2, ← hR, hg]
        wtm_at "ev"
      · obtain ⟨hr, he, htN⟩ := hge (of_decide_eq_false hc)
        refine Xs.nil ?_
        refine Xs.cons (X1.assign (by wtm_at "ev") ?_)
        refine Xs.cons (X1.aug rfl (by wtm_at "ev") (by wtm_at "op") ?_)
        refine Xs.nil ?_
        generalize hN' : (N - tF j bias) / (36 - tF j bias) = N' at *
        refine Wh.sub (by wtm_at "sub") (ih N'.toNat ?_ N' (j + 1) (r + d * w) (w * (36 - tF j bias)) (p + 1) (Nat.le_refl _) ?_ ?_ ?_)
        · have := next_lt (N := N) t1 t2 (by omega); rw [hN'] at this; omega
        · rw [← hN']; exact Int.ediv_nonneg (by omega) (by omega)
        · have : ds.drop (p + 1) = (ds.drop p).drop 1 := by rw [List.drop_drop]
          rw [this, hdr, hg, hr]; rfl
        · rw [← hR, hg, hr]
          congr 2
          · congr 1; simp; omega
          · congr 1
            have e3 : N = d + (36 - tF j bias) * N' := he
            rw [e3, Int.mul_add, Int.mul_assoc, Int.mul_comm d w]
            congr 1
            omega
  · intro pm cd doc vals h
    obtain ⟨x, y, z, u, rfl⟩ := len4 h
    rfl

/-! ### insertion_sort -/
structure IHas (Γ : Cx) (aT aA aD : Addr) : Prop where
  dT : DefAt Γ aT "T" (fnAt pg 1)
  nT : Γ.gl.lookup ("T" : Str) = some (PV.obj (.ref aT))
  dA : DefAt Γ aA "adapt" (fnAt pg 4)
  nA : Γ.gl.lookup ("adapt" : Str) = some (PV.obj (.ref aA))
  dD : DefAt Γ aD "decode_generalized_number" (fnAt pg 6)
  nD : Γ.gl.lookup ("decode_generalized_number" : Str) = some (PV.obj (.ref aD))
  nLen : Γ.gl.lookup ("len" : Str) = some (PV.obj (.builtin "len"))
  nOrd : Γ.gl.lookup ("ord" : Str) = some (PV.obj (.builtin "ord"))
  nChr : Γ.gl.lookup ("chr" : Str) = some (PV.obj (.builtin "chr"))
local macro_rules | `(tactic| wtm_at "cl") => `(tactic| first
  | ((with_reducible refine' CallOk.len_bytes ?s1); (case s1 => wtm_at "side"))
  | ((with_reducible refine' CallOk.len_str ?s1); (case s1 => wtm_at "side"))
  | ((with_reducible refine' CallOk.chr ?s1 ?s2); (case s1 => wtm_at "side"); (case s2 => wtm_at "side"))
  | with_reducible exact CallOk.ord
  | fail "no contract")
theorem ins_ok {a aT aA aD : Addr} (hI : DefAt Γ a "insertion_sort" (fnAt pg 7)) (H : IHas Γ aT aA aD) {base el : List Nat} {ds : List Int} (hd : ∀ d ∈ ds, 0 ≤ d ∧ d < 10 ^ 20) (hl : ds.length < 1000) (hb : base.length < 10000)
    (he : el ≠ strictL ∨ noOv base 128 (-1) ds) :
    CallOk Γ 3 (.ref a) [.str base, .bytes ((giD base.length 0 72 ds).map dU), .str el] (.str (insF base 128 (-1) ds)) := by
  obtain ⟨dT, nT, dA, nA, dD, nD, nLen, nOrd, nChr⟩ := H
  have kA := dA.keep
  have kD := dD.keep
  have hFl := giD_length base.length ds 0 72 fun d hm => (hd d hm).2
  have hFd := giD_dig base.length ds 0 72 fun d hm => (hd d hm).1
  refine DefAt.call hI ?_ ?_
  · refine Xs.cons (X1.assign (by wtm_at "ev") ?_)
    refine Xs.cons (X1.assign (by wtm_at "ev") ?_)
    refine Xs.cons (X1.assign (by wtm_at "ev") ?_)
    refine Xs.cons (X1.assign (by wtm_at "ev") ?_)
    refine Xs.cons (X1.while ?_)
    generalize hF : giD (base.length : Int) 0 72 ds = FF at hFl hFd
    generalize hR : insF base 128 (-1) ds = R
    generalize hB : base.length = bl at hF
    refine Wh.sub (σ' := [("base", .str base), ("extended", .bytes (FF.map dU)), ("errors", .str el), ("char", .int 128), ("pos", .int (-1)), ("bias", .int 72), ("extpos", .int ((0 : Nat) : Int))]) (by wtm_at "sub") ?_
    refine (?_ : ∀ (ds : List Int) (base : List Nat) (char pos b : Int) (q p : Nat), (∀ d ∈ ds, 0 ≤ d ∧ d < 10 ^ 20) → q + ds.length < 1000 → base.length = bl + q → 0 ≤ char → char ≤ 1114111 → -1 ≤ pos → p ≤ FF.length → (q = 0 ↔ p = 0) → FF.drop p = giD (bl : Int) (q : Int) b ds →
        (el ≠ strictL ∨ noOv base char pos ds) → insF base char pos ds = R →
      Wh Γ 2 (fnAt pg 7).2.2 [("base", .str base), ("extended", .bytes (FF.map dU)), ("errors", .str el), ("char", .int char), ("pos", .int pos), ("bias", .int b), ("extpos", .int (p : Int))] [] _ _ _ _)
      ds base 128 (-1) 72 0 0 hd (by omega) (by omega) (by decide) (by decide) (by decide) (by omega) (by simp) (by rw [List.drop_zero]; exact hF.symm) he hR
    intro ds
    induction ds with
    | nil =>
      intro base char pos b q p _ _ hbl c0 c1 p1 hp hqp hdr hov hr
      have ep : p = FF.length := by
        have : (FF.drop p).length = 0 := by rw [hdr]; rfl
        rw [List.length_drop] at this; omega
      simp only [insF] at hr
      subst hr
      refine Wh.step (by wtm_at "tr") (fun hc => ?_) (fun hc => ?_)
      · have := of_decide_eq_true hc
        simp at this; omega
      · refine Xs.nil ?_
        exact Xs.cons (X1.ret (by wtm_at "ev") rfl)
    | cons d ds ih =>
      intro base char pos b q p hd hq hbl c0 c1 p1 hp hqp hdr hov hr
      obtain ⟨d0, d1⟩ := hd d List.mem_cons_self
      simp only [List.length_cons] at hq
      simp only [giD] at hdr
      have hg := ggiD_pos d b 0
      have hpl : p + (ggiD d b 0).length ≤ FF.length := by
        have : (FF.drop p).length = (ggiD d b 0 ++ giD (bl : Int) ((q : Int) + 1) (adaptF d (decide ((q : Int) = 0)) (bl + q + 1)) ds).length := by rw [hdr]
        rw [List.length_drop, List.length_append] at this; omega
      refine Wh.step (by wtm_at "tr") (fun hc => ?_) (fun hc => ?_)
      · refine Xs.cons (X1.assignT (Ev.call (by wtm_at "ev") (by wtm_at "kp") (by wtm_at "es") (dec_ok dD dT nT hFd (by omega) d0 hdr)) (As.tuple2 As.name As.name) ?_)
        refine Xs.cons (X1.ite (c := false) (Tr.cmp (by wtm_at "ev") (by wtm_at "ev") (Op2.is0 rfl)) (fun hc => nomatch hc) (fun _ => Xs.nil ?_))
        refine Xs.cons (X1.aug rfl (by wtm_at "ev") (by wtm_at "op") ?_)
        refine Xs.cons (X1.aug rfl (by wtm_at "ev") (by wtm_at "op") ?_)
        have hpos : 0 ≤ pos + (d + 1) := by omega
        have hdiv : 0 ≤ (pos + (d + 1)) / ((base.length : Int) + 1) := Int.ediv_nonneg hpos (by omega)
        have hm0 : 0 ≤ (pos + (d + 1)) % ((base.length : Int) + 1) := Int.emod_nonneg _ (by omega)
        have hm1 : (pos + (d + 1)) % ((base.length : Int) + 1) < (base.length : Int) + 1 := Int.emod_lt_of_pos _ (by omega)
        simp only [insF, noOv] at hr hov
        generalize hP : pos + (d + 1) = P at *
        generalize hC : char + P / ((base.length : Int) + 1) = C at *
        refine Xs.cut [("base", .str base), ("extended", .bytes (FF.map dU)), ("errors", .str el), ("char", .int (stepC C)), ("pos", .int P), ("bias", .int b), ("extpos", .int (p : Int)), ("newpos", .int ((p + (ggiD d b 0).length : Nat) : Int)), ("delta", .int d)] [] ?_ ?_
        · refine X1.ite (by wtm_at "tr") (fun hc => ?_) (fun hc => ?_)
          · have hov1 := of_decide_eq_true hc
            have hel : el ≠ strictL := by rcases hov with h | h; exact h; omega
            refine Xs.cons (X1.ite (c := false) (Tr.cmp (by wtm_at "ev") (Ev.cstr (l := strictL) (by decide +kernel)) ?_) (fun hc => nomatch hc) (fun _ => Xs.nil ?_))
            · have := Op2.eqS (Γ := Γ) (a := el) (b := strictL)
              rwa [beq_eq_false_iff_ne.mpr hel] at this
            refine Xs.cons (X1.assign (Ev.call (by wtm_at "ev") (by wtm_at "kp") (Es.cons (Ev.cstr (l := [63]) (by decide +kernel)) Es.nil) CallOk.ord) ?_)
            refine Xs.nil ⟨rfl, ?_, rfl⟩
            have e : stepC C = 63 := by unfold stepC; rw [if_pos hov1]
            rw [e]
            wtm_at "sub"
          · have hov1 := of_decide_eq_false hc
            refine Xs.nil ⟨rfl, ?_, rfl⟩
            rw [stepC_id (by omega)]
            wtm_at "sub"
        have hC0 : 0 ≤ stepC C := by unfold stepC; split <;> omega
        have hC1 : stepC C ≤ 1114111 := by unfold stepC; split <;> omega
        refine Xs.cons (X1.assign (by wtm_at "ev") ?_)
        generalize hM : P % ((base.length : Int) + 1) = M at *
        obtain ⟨mn, rfl⟩ : ∃ mn : Nat, M = (mn : Int) := ⟨M.toNat, by omega⟩
        refine Xs.cons (X1.assign (Ev.bin (Ev.bin (Ev.slice (by wtm_at "ev") Pt.none (Pt.some (by wtm_at "ev")) (SliceOk.strTo (by omega) (by omega)) HasItem.str) (by wtm_at "ev") (Op2.addS (by simp; omega))) (Ev.slice (by wtm_at "ev") (Pt.some (by wtm_at "ev")) Pt.none (SliceOk.strFrom (by omega) (by omega)) HasItem.str) (Op2.addS (by simp; omega))) ?_)
        have eb : base.take mn ++ [(stepC C).toNat] ++ base.drop mn = putN base (mn : Int) (stepC C) := by unfold putN; simp
        rw [eb]
        have hpl' := putN_length base (mn : Int) (stepC C)
        refine Xs.cons (X1.assign (Ev.call (by wtm_at "ev") (by wtm_at "kp") (by wtm_at "es") (CallOk.mono (adapt_ok dA d0 (by omega) (by omega)) (by decide))) ?_)
        refine Xs.cons (X1.assign (by wtm_at "ev") ?_)
        refine Xs.nil ?_
        have ed : decide ((p : Int) = 0) = decide ((q : Int) = 0) := decide_eq_decide.mpr (by omega)
        have en : ((putN base (mn : Int) (stepC C)).length : Int) = (bl : Int) + (q : Int) + 1 := by rw [hpl']; omega
        rw [ed, en]
        refine Wh.sub (by wtm_at "sub") (ih (putN base (mn : Int) (stepC C)) (stepC C) (mn : Int) (adaptF d (decide ((q : Int) = 0)) ((bl : Int) + q + 1)) (q + 1) (p + (ggiD d b 0).length) (fun x hx => hd x (List.mem_cons_of_mem _ hx)) (by omega) (by omega) hC0 hC1 (by omega) hpl (by omega) ?_ ?_ ?_)
        · rw [← List.drop_drop, hdr]
          simp
        · rcases hov with h | ⟨h1, h2⟩
          · exact .inl h
          · refine .inr ?_
            rw [stepC_id h1]; exact h2
        · exact hr
      · have := of_decide_eq_false hc
        simp at this; omega
  · intro pm cd doc vals h
    obtain ⟨x, y, z, rfl⟩ := len3 h
    rfl

abbrev gl10 (aT aG aA aI aD aS aM aR aL : Addr) : List (Str × PV) := [("T", .obj (.ref aT)), ("digits", .bytes dgs), ("generate_generalized_integer", .obj (.ref aG)), ("adapt", .obj (.ref aA)), ("generate_integers", .obj (.ref aI)), ("decode_generalized_number", .obj (.ref aD)), ("insertion_sort", .obj (.ref aS)), ("_law_marks", .obj (.ref aM)), ("_law_run", .obj (.ref aR)), ("_law_told", .obj (.ref aL)),
  ("len", .obj (.builtin "len")), ("bytes", .obj (.type "bytes")), ("bytearray", .obj (.type "bytearray")), ("enumerate", .obj (.type "enumerate")), ("ord", .obj (.builtin "ord")), ("chr", .obj (.builtin "chr")), ("range", .obj (.type "range")), ("sorted", .obj (.builtin "sorted")), ("sum", .obj (.builtin "sum"))]
abbrev G10 (w : World) (B : Heap) (aT aG aA aI aD aS aM aR aL : Addr) : Cx := ⟨PySem.Challenge.pw_dm0101_10, w, B, gl10 aT aG aA aI aD aS aM aR aL⟩
structure Has10 (w : World) (B : Heap) (aT aG aA aI aD aS aM aR aL : Addr) : Prop where
  dT : DefAt (G10 w B aT aG aA aI aD aS aM aR aL) aT "T" (fnAt pg 1)
  dG : DefAt (G10 w B aT aG aA aI aD aS aM aR aL) aG "generate_generalized_integer" (fnAt pg 3)
  dA : DefAt (G10 w B aT aG aA aI aD aS aM aR aL) aA "adapt" (fnAt pg 4)
  dI : DefAt (G10 w B aT aG aA aI aD aS aM aR aL) aI "generate_integers" (fnAt pg 5)
  dD : DefAt (G10 w B aT aG aA aI aD aS aM aR aL) aD "decode_generalized_number" (fnAt pg 6)
  dS : DefAt (G10 w B aT aG aA aI aD aS aM aR aL) aS "insertion_sort" (fnAt pg 7)
  dM : DefAt (G10 w B aT aG aA aI aD aS aM aR aL) aM "_law_marks" (fnAt pg 9)
  dR : DefAt (G10 w B aT aG aA aI aD aS aM aR aL) aR "_law_run" (fnAt pg 10)
  dL : DefAt (G10 w B aT aG aA aI aD aS aM aR aL) aL "_law_told" (fnAt pg 11)
def rowN (r : List Int) : PV := .lsn (r.map .int)
def rowP (r : List Int) : PV := .lst (r.map .int)
theorem rowN_snoc (r : List Int) (x : Int) : rowN (r ++ [x]) = .lsn (r.map .int ++ [.int x]) := by unfold rowN; simp
theorem count_le {r : List Int} : r.count 0 ≤ r.length := List.count_le_length
section
variable {w : World} {B : Heap} {aT aG aA aI aD aS aM aR aL : Addr} (H : Has10 w B aT aG aA aI aD aS aM aR aL)
set_option maxRecDepth 100000 in
set_option maxHeartbeats 4000000 in
include H in
theorem marks_ok {plain strange points : Nat} (hp : plain ≤ 10) (hs : strange ≤ 10) (hq : points ≤ 10) (hz : ∀ n, n ≤ plain + strange → (marksN plain strange points n).length ≤ 100 ∧ ∀ r ∈ marksN plain strange points n, r.length ≤ 10) :
    CallOk (G10 w B aT aG aA aI aD aS aM aR aL) 1 (.ref aM) [.int (plain : Int), .int (strange : Int), .int (points : Int)] (.lst ((marksN plain strange points (plain + strange)).map rowN)) := by
  refine DefAt.call H.dM ?_ ?_
  · refine Xs.cons (X1.assign (v := .lst (([[]] : List (List Int)).map rowN)) (Ev.list (Es.cons (Ev.listN Es.nil (by simp)) Es.nil) (by simp)) ?_)
    refine Xs.cons (X1.for (p := .rng 0 ((plain : Int) + (strange : Int)) 1) (Ev.call (by wtm_at "ev") (by wtm_at "kp") (by wtm_at "es") CallOk.range1) (IterOk.upTo (n := plain + strange) (by simp) (by omega)) ?_)
    refine Fo.sub (σ' := [("plain", .int (plain : Int)), ("strange", .int (strange : Int)), ("points", .int (points : Int)), ("rows", .lst ((marksN plain strange points 0).map rowN))]) (by wtm_at "sub") ?_
    refine (?_ : ∀ (m a : Nat), a + m = plain + strange → Fo (G10 w B aT aG aA aI aD aS aM aR aL) 0 (fnAt pg 9).2.2 [("plain", .int (plain : Int)), ("strange", .int (strange : Int)), ("points", .int (points : Int)), ("rows", .lst ((marksN plain strange points a).map rowN))] [] _ _ _ (rngItems (a : Int) 1 m) _) (plain + strange) 0 (by omega)
    intro m
    induction m with
    | zero =>
      intro a ha
      have : a = plain + strange := by omega
      subst this
      exact Fo.nil (Xs.nil (Xs.cons (X1.ret (by wtm_at "ev") rfl)))
    | succ m ih =>
      intro a ha
      obtain ⟨z1, z2⟩ := hz a (by omega)
      obtain ⟨y1, y2⟩ := hz (a + 1) (by omega)
      show Fo _ _ _ _ _ _ _ _ (.int (a : Int) :: rngItems ((a : Int) + 1) 1 m) _
      refine Fo.cons As.name ?_
      refine Xs.cons (X1.own (EvN.list Es.nil (by simp)) fun l hl => ?_)
      refine Xs.cons (X1.for (by wtm_at "ev") IterOk.lst ?_)
      rw [marksN] at y1 y2
      obtain ⟨NX, hNX⟩ : ∃ NX, stepM plain strange points (marksN plain strange points a) = NX := ⟨_, rfl⟩
      rw [hNX] at y1 y2
      refine Fo.sub (σ' := [("plain", .int (plain : Int)), ("strange", .int (strange : Int)), ("points", .int (points : Int)), ("longer", .ref l)]) (by wtm_at "sub") ?_
      refine (?_ : ∀ (rest : List (List Int)) (acc : List (List Int)), (∀ r ∈ rest, r.length ≤ 10) → acc ++ stepM plain strange points rest = NX → Fo (G10 w B aT aG aA aI aD aS aM aR aL) 0 (fnAt pg 9).2.2 [("plain", .int (plain : Int)), ("strange", .int (strange : Int)), ("points", .int (points : Int)), ("longer", .ref l)] [(l, .list (acc.map rowN))] _ _ _ (rest.map rowN) _) (marksN plain strange points a) [] z2 hNX
      intro rest
      induction rest with
      | nil =>
        intro acc _ hacc
        have e : acc = NX := by simpa [stepM] using hacc
        subst e
        refine Fo.nil (Xs.nil ?_)
        refine Xs.freeze0 (x := "longer") rfl ?_
        refine Xs.cons (X1.assign (by wtm_at "ev") ?_)
        refine Xs.nil ?_
        have e1 : ((a : Int) + 1) = ((a + 1 : Nat) : Int) := by omega
        rw [e1]
        refine Fo.sub ?_ (ih (a + 1) (by omega))
        rw [marksN, hNX]
        wtm_at "sub"
      | cons row rest ih2 =>
        intro acc hr hacc
        have hrl := hr row List.mem_cons_self
        have hcl := count_le (r := row)
        have hsp : stepM plain strange points (row :: rest) = (if row.count 0 < plain then [row ++ [0]] else []) ++ ((if row.length - row.count 0 < strange then (List.range points).map (fun (p : Nat) => row ++ [(1 : Int) + (p : Int)]) else []) ++ stepM plain strange points rest) := by
          unfold stepM; rw [List.flatMap_cons, List.append_assoc]
        rw [hsp] at hacc
        have hlen : acc.length ≤ 100 := by
          have := congrArg List.length hacc
          rw [List.length_append] at this
          omega
        rw [List.map_cons]
        refine Fo.cons As.name ?_
        refine Xs.cons (X1.assign (Ev.methN (Ev.name rfl) (by wtm_at "es") CallOk.count PySem.F.slot_list_count PySem.F.type_list_count) ?_)
        refine Xs.cut [("plain", .int (plain : Int)), ("strange", .int (strange : Int)), ("points", .int (points : Int)), ("longer", .ref l), ("row", rowN row), ("zeros", .int (row.count 0 : Nat))] [(l, .list ((acc ++ (if row.count 0 < plain then [row ++ [0]] else [])).map rowN))] ?_ ?_
        · refine X1.ite (by wtm_at "tr") (fun hc => ?_) (fun hc => ?_)
          · have hc' : row.count 0 < plain := by have := of_decide_eq_true hc; omega
            refine Xs.cons (X1.meth (μ₁ := []) (μ₂ := []) (a := l) (o := .list (acc.map rowN)) rfl (Es.cons (v := rowN (row ++ [0])) ?_ Es.nil) (MethOk.list_append (by simp; omega)) PySem.F.plainAttrs_list PySem.F.slot_list_append PySem.F.type_list_append (Xs.nil ⟨rfl, by wtm_at "sub", ?_⟩))
            · rw [rowN_snoc]
              exact Ev.bin (Ev.weak Wk.lsn (Ev.name rfl)) (Ev.list (by wtm_at "es") (by simp)) (Op2.addN (by simp; omega))
            · rw [if_pos hc']; simp
          · have hc' : ¬ row.count 0 < plain := by have := of_decide_eq_false hc; omega
            refine Xs.nil ⟨rfl, by wtm_at "sub", ?_⟩
            rw [if_neg hc']; simp
        generalize hacc1 : acc ++ (if row.count 0 < plain then [row ++ [0]] else []) = acc1
        rw [← List.append_assoc, hacc1] at hacc
        have hlen1 : acc1.length + (if row.length - row.count 0 < strange then (List.range points).map (fun (p : Nat) => row ++ [(1 : Int) + (p : Int)]) else []).length ≤ 100 := by
          have := congrArg List.length hacc
          rw [List.length_append, List.length_append] at this
          omega
        have hlr : CallOk (G10 w B aT aG aA aI aD aS aM aR aL) 0 (.builtin "len") [.lst (row.map .int)] (.int (row.length : Int)) := by
          have := CallOk.len_lst (Γ := G10 w B aT aG aA aI aD aS aM aR aL) (k := 0) (xs := row.map PV.int) (by simp; omega)
          rwa [List.length_map] at this
        refine Xs.cons (X1.ite (Tr.cmp (Ev.bin (Ev.call (by wtm_at "ev") (by wtm_at "kp") (Es.cons (Ev.weak Wk.lsn (Ev.name rfl)) Es.nil) hlr) (by wtm_at "ev") Op2.sub) (by wtm_at "ev") Op2.lt) (fun hc => ?_) (fun hc => ?_))
        · have hc' : row.length - row.count 0 < strange := by have := of_decide_eq_true hc; omega
          rw [if_pos hc'] at hacc hlen1
          rw [List.length_map, List.length_range] at hlen1
          refine Xs.cons (X1.for (p := .rng 1 ((points : Int) + 1) 1) (xs := rngItems (1 + ((0 : Nat) : Int)) 1 points) (Ev.call (by wtm_at "ev") (by wtm_at "kp") (by wtm_at "es") CallOk.range2) (IterOk.rng (small_one (by decide) (by decide) (by omega) (by omega)) points (by rw [rangeSize_one]; split <;> omega)) ?_)
          refine Fo.sub (σ' := [("plain", .int (plain : Int)), ("strange", .int (strange : Int)), ("points", .int (points : Int)), ("longer", .ref l), ("row", rowN row)]) (by wtm_at "sub") ?_
          have e0 : acc1.map rowN = (acc1 ++ (List.range 0).map (fun (p : Nat) => row ++ [(1 : Int) + (p : Int)])).map rowN := by simp
          rw [e0]
          refine (?_ : ∀ (m2 p : Nat), p + m2 = points → Fo (G10 w B aT aG aA aI aD aS aM aR aL) 0 (fnAt pg 9).2.2 [("plain", .int (plain : Int)), ("strange", .int (strange : Int)), ("points", .int (points : Int)), ("longer", .ref l), ("row", rowN row)] [(l, .list ((acc1 ++ (List.range p).map (fun (p : Nat) => row ++ [(1 : Int) + (p : Int)])).map rowN))] _ _ _ (rngItems (1 + (p : Int)) 1 m2) _) points 0 (by omega)
          intro m2
          induction m2 with
          | zero =>
            intro p hp2
            rw [show p = points from by omega]
            refine Fo.nil (Xs.nil (Xs.nil (Xs.nil ?_)))
            have hnext := ih2 (acc1 ++ (List.range points).map (fun (p : Nat) => row ++ [(1 : Int) + (p : Int)])) (fun r h => hr r (List.mem_cons_of_mem _ h)) (by rw [List.append_assoc]; exact hacc)
            exact Fo.sub (by wtm_at "sub") hnext
          | succ m2 ih3 =>
            intro p hp2
            show Fo _ _ _ _ _ _ _ _ (.int (1 + (p : Int)) :: rngItems (1 + (p : Int) + 1) 1 m2) _
            refine Fo.cons As.name ?_
            refine Xs.cons (X1.meth (μ₁ := []) (μ₂ := []) (a := l) (o := .list ((acc1 ++ (List.range p).map (fun (p : Nat) => row ++ [(1 : Int) + (p : Int)])).map rowN)) rfl (Es.cons (v := rowN (row ++ [1 + (p : Int)])) ?_ Es.nil) (MethOk.list_append (by simp; omega)) PySem.F.plainAttrs_list PySem.F.slot_list_append PySem.F.type_list_append (Xs.nil ?_))
            · rw [rowN_snoc]
              exact Ev.bin (Ev.weak Wk.lsn (Ev.name rfl)) (Ev.list (by wtm_at "es") (by simp)) (Op2.addN (by simp; omega))
            · have e1 : (1 + (p : Int) + 1) = 1 + ((p + 1 : Nat) : Int) := by omega
              have e2 : (acc1 ++ (List.range p).map (fun (p : Nat) => row ++ [(1 : Int) + (p : Int)])).map rowN ++ [rowN (row ++ [1 + (p : Int)])] = (acc1 ++ (List.range (p + 1)).map (fun (p : Nat) => row ++ [(1 : Int) + (p : Int)])).map rowN := by
                rw [List.range_succ]; simp
              rw [e1, e2]
              exact Fo.sub (by wtm_at "sub") (ih3 (p + 1) (by omega))
        · have hc' : ¬ row.length - row.count 0 < strange := by have := of_decide_eq_false hc; omega
          rw [if_neg hc', List.nil_append] at hacc
          refine Xs.nil (Xs.nil ?_)
          exact Fo.sub (by wtm_at "sub") (ih2 _ (fun r h => hr r (List.mem_cons_of_mem _ h)) hacc)
  · intro pm cd doc vals h
    obtain ⟨x, y, z, rfl⟩ := len3 h
    rfl
end

theorem sortPairs_mem {ps : RunT} : ∀ q ∈ sortPairs ps, q ∈ ps := by
  intro q hq
  unfold sortPairs at hq
  obtain ⟨i, hi, rfl⟩ := List.mem_map.mp hq
  have := sortP_lt i hi
  have e : ps.getD i (0, 0) = ps[i] := by simp [this]
  rw [e]; exact List.getElem_mem this
theorem markedP_mem {row : List Int} : ∀ q ∈ markedP row, ∃ k : Nat, k < row.length ∧ q = (row.getD k 0, (k : Int)) := by
  intro q hq
  unfold markedP at hq
  obtain ⟨k, hk, rfl⟩ := List.mem_map.mp hq
  exact ⟨k, by simpa using (List.mem_filter.mp hk).1, rfl⟩
theorem row_get {row : List Int} {k : Nat} (h : k < row.length) : (row.map PV.int)[(((0 : Int)) + (k : Int)).toNat]? = some (.int (row.getD k 0)) := by
  have : ((0 : Int) + (k : Int)).toNat = k := by omega
  rw [this]; simp [h]
section
variable {w : World} {B : Heap} {aT aG aA aI aD aS aM aR aL : Addr} (H : Has10 w B aT aG aA aI aD aS aM aR aL)
set_option maxRecDepth 100000 in
set_option maxHeartbeats 4000000 in
include H in
theorem run_ok {row : List Int} (hl : row.length ≤ 10) : CallOk (G10 w B aT aG aA aI aD aS aM aR aL) 1 (.ref aR) [rowP row] (.lst ((runF row).map pairP)) := by
  have hlr : CallOk (G10 w B aT aG aA aI aD aS aM aR aL) 0 (.builtin "len") [.lst (row.map .int)] (.int (row.length : Int)) := by
    have := CallOk.len_lst (Γ := G10 w B aT aG aA aI aD aS aM aR aL) (k := 0) (xs := row.map PV.int) (by simp; omega)
    rwa [List.length_map] at this
  have hml : (markedP row).length ≤ 10 := by
    unfold markedP
    rw [List.length_map]
    exact Nat.le_trans (List.length_filter_le _ _) (by simpa using hl)
  have hsort : CallN (G10 w B aT aG aA aI aD aS aM aR aL) (.builtin "sorted") [.lst ((markedP row).map pairP)] (.list ((sortPairs (markedP row)).map pairP)) := by
    have h := CallN.sorted (SortOk.ints (Γ := G10 w B aT aG aA aI aD aS aM aR aL) (ts := (markedP row).map pairL) (m := 2) (fun t ht => by obtain ⟨u, _, rfl⟩ := List.mem_map.mp ht; rfl) (by decide)) (by simp; omega)
    rw [List.map_map] at h
    have e : ((fun t => PV.tup (t.map .int)) ∘ pairL) = pairP := rfl
    rw [e, List.length_map] at h
    have e2 : ((sortP (markedP row).length fun i j => ltL (((markedP row).map pairL).getD i []) (((markedP row).map pairL).getD j [])).map fun i => ((markedP row).map pairP).getD i .none) = (sortPairs (markedP row)).map pairP := by
      unfold sortPairs
      rw [List.map_map]
      refine List.map_congr_left fun i hi => ?_
      exact getD_map' pairP (markedP row) i _ _ (sortP_lt i hi)
    rw [e2] at h
    exact h
  refine DefAt.callC H.dR ?_ ?_
  · refine Xs.cons (X1.own (EvN.list Es.nil (by simp)) fun a ha => ?_)
    have hcomp : (markedP row).map pairP = ((List.range row.length).map fun (k : Nat) => if decide (0 < row.getD k 0) then some (PV.tup [.int (row.getD k 0), .int ((0 : Int) + (k : Int))]) else none).filterMap id := by
      rw [filterMap_if (fun k : Nat => decide (0 < row.getD k 0)) (fun k => PV.tup [.int (row.getD k 0), .int ((0 : Int) + (k : Int))])]
      unfold markedP
      rw [List.map_map]
      refine List.map_congr_left fun k _ => ?_
      simp [pairP]
    refine Xs.cons (X1.for (EvN.ev (EvN.call (by wtm_at "ev") (by wtm_at "kp") (Es.cons (v := .lst ((markedP row).map pairP)) (EvN.ev ?_) Es.nil) hsort)) IterOk.lst ?_)
    · rw [hcomp]
      refine EvN.comp (σf := [("row", rowP row)]) (p := .rng 0 (row.length : Int) 1) (xs := (List.range row.length).map fun (p : Nat) => PV.int (((0 : Nat) : Int) + (p : Int))) (Ev.call (by wtm_at "ev") (by wtm_at "kp") (Es.cons (Ev.call (by wtm_at "ev") (by wtm_at "kp") (Es.cons (Ev.name rfl) Es.nil) hlr) Es.nil) CallOk.range1) (by rw [← rngItems_map]; exact IterOk.upTo rfl (by omega)) ?_ (by simp; omega) (by wtm_at "sub")
      refine Paired.maps _ fun k hm => ?_
      have hk : k < row.length := by simpa using hm
      exact Turn.if (fun μ => As.name) (by wtm_at "sub") (fun μ => Tr.cmp (Ev.sub (a := .lst (row.map .int)) (Ev.name rfl) (Ev.name rfl) (Op2.item (by omega) (row_get hk) (by simp; omega)) HasItem.lst) (by wtm_at "ev") Op2.gt)
        fun _ μ => Ev.tuple (Es.cons (Ev.sub (a := .lst (row.map .int)) (Ev.name rfl) (Ev.name rfl) (Op2.item (by omega) (row_get hk) (by simp; omega)) HasItem.lst) (Es.cons (Ev.name rfl) Es.nil)) (by simp)
    refine Fo.sub (σ' := [("row", rowP row), ("run", .ref a)]) (by wtm_at "sub") ?_
    obtain ⟨RR, hRR⟩ : ∃ RR, runF row = RR := ⟨_, rfl⟩
    rw [hRR]
    have hmem : ∀ q ∈ sortPairs (markedP row), ∃ k : Nat, k < row.length ∧ q = (row.getD k 0, (k : Int)) := fun q hq => markedP_mem q (sortPairs_mem q hq)
    unfold runF at hRR
    have hSl : (sortPairs (markedP row)).length ≤ 100 := by
      unfold sortPairs
      rw [List.length_map, sortP_perm.length_eq, List.length_range]; omega
    generalize sortPairs (markedP row) = SP at *
    refine (?_ : ∀ (rest acc : RunT), (∀ q ∈ rest, ∃ k : Nat, k < row.length ∧ q = (row.getD k 0, (k : Int))) → acc.length + rest.length ≤ 100 → acc ++ (rest.map fun q => (q.1, (((List.range q.2.toNat).filter fun k => decide (row.getD k 0 ≤ q.1)).length : Int))) = RR →
      Fo (G10 w B aT aG aA aI aD aS aM aR aL) 0 (fnAt pg 10).2.2 [("row", rowP row), ("run", .ref a)] [(a, .list (acc.map pairP))] _ _ _ (rest.map pairP) _) SP [] hmem (by simp; omega) hRR
    intro rest
    induction rest with
    | nil =>
      intro acc _ _ hacc
      have e : acc = RR := by simpa using hacc
      subst e
      refine Fo.nil (Xs.nil ?_)
      refine Xs.freeze0 (x := "run") rfl ?_
      exact Xs.cons (X1.ret (by wtm_at "ev") rfl)
    | cons q rest ih =>
      intro acc hq hlen hacc
      obtain ⟨k, hk, rfl⟩ := hq q List.mem_cons_self
      rw [List.length_cons] at hlen
      rw [List.map_cons] at hacc ⊢
      refine Fo.cons (As.tuple2 As.name As.name) ?_
      generalize row.getD k 0 = pt at *
      dsimp only at hacc
      rw [Int.toNat_natCast] at hacc
      have hcomp2 : ((List.range k).map fun (j : Nat) => if decide (row.getD j 0 ≤ pt) then some (PV.int ((0 : Int) + (j : Int))) else none).filterMap id = ((List.range k).filter fun j => decide (row.getD j 0 ≤ pt)).map fun (j : Nat) => PV.int ((0 : Int) + (j : Int)) :=
        filterMap_if (fun j : Nat => decide (row.getD j 0 ≤ pt)) (fun (j : Nat) => PV.int ((0 : Int) + (j : Int))) _
      have hfl : ((List.range k).filter fun j => decide (row.getD j 0 ≤ pt)).length ≤ k := Nat.le_trans (List.length_filter_le _ _) (by simp)
      have hlen2 : CallOk (G10 w B aT aG aA aI aD aS aM aR aL) 0 (.builtin "len") [.lst (((List.range k).map fun (j : Nat) => if decide (row.getD j 0 ≤ pt) then some (PV.int ((0 : Int) + (j : Int))) else none).filterMap id)] (.int (((List.range k).filter fun j => decide (row.getD j 0 ≤ pt)).length : Int)) := by
        rw [hcomp2]
        have := CallOk.len_lst (Γ := G10 w B aT aG aA aI aD aS aM aR aL) (k := 0) (xs := ((List.range k).filter fun j => decide (row.getD j 0 ≤ pt)).map fun (j : Nat) => PV.int ((0 : Int) + (j : Int))) (by rw [List.length_map]; omega)
        rwa [List.length_map] at this
      refine Xs.cons (X1.meth (μ₁ := []) (μ₂ := []) (a := a) (o := .list (acc.map pairP)) rfl (Es.cons (Ev.tuple (Es.cons (by wtm_at "ev") (Es.cons (Ev.call (by wtm_at "ev") (by wtm_at "kp") (Es.cons (EvN.ev (EvN.comp (σf := [("point", .int pt), ("row", rowP row)]) (p := .rng 0 (k : Int) 1) (xs := (List.range k).map fun (p : Nat) => PV.int (((0 : Nat) : Int) + (p : Int))) (rs := (List.range k).map fun (j : Nat) => if decide (row.getD j 0 ≤ pt) then some (PV.int ((0 : Int) + (j : Int))) else none) (Ev.call (by wtm_at "ev") (by wtm_at "kp") (by wtm_at "es") CallOk.range1) (by rw [← rngItems_map]; exact IterOk.upTo rfl (by omega)) ?_ (by simp; omega) (by wtm_at "sub"))) Es.nil) hlen2) Es.nil)) (by simp)) Es.nil) (MethOk.list_append (by simp; omega)) PySem.F.plainAttrs_list PySem.F.slot_list_append PySem.F.type_list_append ?_)
      · refine Paired.maps _ fun j hm => ?_
        have hj : j < row.length := by
          have h : j < k := (by simpa using hm)
          omega
        exact Turn.if (fun μ => As.name) (by wtm_at "sub") (fun μ => Tr.cmp (Ev.sub (a := .lst (row.map .int)) (Ev.name rfl) (Ev.name rfl) (Op2.item (by omega) (row_get hj) (by simp; omega)) HasItem.lst) (Ev.name rfl) Op2.le) fun _ μ => Ev.name rfl
      refine Xs.nil ?_
      have e2 : acc.map pairP ++ [.tup [.int pt, .int (((List.range k).filter fun j => decide (row.getD j 0 ≤ pt)).length : Int)]] = (acc ++ [(pt, (((List.range k).filter fun j => decide (row.getD j 0 ≤ pt)).length : Int))]).map pairP := by simp [pairP]
      have hnext := ih (acc ++ [(pt, (((List.range k).filter fun j => decide (row.getD j 0 ≤ pt)).length : Int))]) (fun x hx => hq x (List.mem_cons_of_mem _ hx)) (by simp; omega) (by rw [← hacc]; simp)
      rw [← e2] at hnext
      exact Fo.sub (by wtm_at "sub") hnext
  · intro pm cd doc vals h
    obtain ⟨x, rfl⟩ := len1 h
    rfl
end

abbrev shapesP : List PV := [.tup [.int 0, .int 2, .int 3], .tup [.int 1, .int 2, .int 3], .tup [.int 2, .int 2, .int 2], .tup [.int 3, .int 1, .int 6], .tup [.int 0, .int 3, .int 2], .tup [.int 2, .int 3, .int 1], .tup [.int 3, .int 3, .int 1], .tup [.int 0, .int 2, .int 4]]
theorem shape_pick (i : Int) (h0 : 0 ≤ i) (h1 : i < 8) : ∃ plain strange points : Nat, shapesP[i.toNat]? = some (.tup [.int (plain : Int), .int (strange : Int), .int (points : Int)]) ∧ shapeB plain strange points = true ∧ plain ≤ 3 ∧ 1 ≤ strange ∧ strange ≤ 3 ∧ 1 ≤ points ∧ points ≤ 6 := by
  have h : i = 0 ∨ i = 1 ∨ i = 2 ∨ i = 3 ∨ i = 4 ∨ i = 5 ∨ i = 6 ∨ i = 7 := by omega
  rcases h with rfl | rfl | rfl | rfl | rfl | rfl | rfl | rfl
  · exact ⟨0, 2, 3, rfl, shape0, by decide⟩
  · exact ⟨1, 2, 3, rfl, shape1, by decide⟩
  · exact ⟨2, 2, 2, rfl, shape2, by decide⟩
  · exact ⟨3, 1, 6, rfl, shape3, by decide⟩
  · exact ⟨0, 3, 2, rfl, shape4, by decide⟩
  · exact ⟨2, 3, 1, rfl, shape5, by decide⟩
  · exact ⟨3, 3, 1, rfl, shape6, by decide⟩
  · exact ⟨0, 2, 4, rfl, shape7, by decide⟩
def befP : Option RunT → PV
  | none => .none
  | some b => .lst (b.map pairP)
theorem Op2.eqPair {Γ : Cx} {p q : Int × Int} : Op2 Γ (compareOp .Eq) (pairP p) (pairP q) (.bool (decide (p = q))) := by
  have := Op2.eqD (Γ := Γ) 1 (pok_pair p) (pok_pair q)
  rwa [eqv_pair] at this
theorem getD_at {α : Type} {f : α → PV} {l : List α} {d : α} {k : Nat} (h : k < l.length) : (l.map f)[((k : Nat) : Int).toNat]? = some (f (l.getD k d)) := by
  rw [Int.toNat_natCast]; simp [h]
theorem sum_ones {α β : Type} (f : α → β) : ∀ l : List α, ((l.map fun c => [f c]).map (·.length)).sum = l.length
  | [] => rfl
  | a :: l => by simp only [List.map_cons, List.sum_cons, List.length_cons, List.length_nil, sum_ones f l]; omega
theorem join_text {Γ : Cx} {k : Nat} {T : List Nat} (hz : T.length < 2 ^ 18) : CallOk Γ k (.builtin "str.join") [.str [], .lst ((T.map fun c => [c]).map .str)] (.str T) := by
  have := CallOk.join (Γ := Γ) (k := k) (ls := T.map fun c => [c]) (by rw [sum_ones, List.length_map]; omega)
  rwa [flatten_ones (fun c => c), List.map_id'] at this
theorem ints_map_cut (l : List Int) (lo hi : Option Int) : cutL (l.map PV.int) lo hi = (cutL l lo hi).map .int := by
  unfold cutL
  simp only [List.map_take, List.map_drop, List.length_map]
theorem sg_at {signs : List Int} {m : Int} (h : (m - 1).toNat < signs.length) : (signs.map PV.int)[(m - 1).toNat]? = some (.int (sgF signs m)) := by
  unfold sgF
  rw [List.getElem?_map, List.getElem?_eq_getElem h, List.getD_eq_getElem?_getD, List.getElem?_eq_getElem h]; rfl
theorem numsT_nil (signs : List Int) (n p : Int) (xs : List Int) : numsT signs n p [] xs = [] := by cases xs <;> rfl
/-- signs that are being written -/
structure SgAcc (acc : List Int) : Prop where
  ne : acc ≠ []
  rng : ∀ x ∈ acc, 128 ≤ x ∧ x ≤ 41000 + 998 * acc.length
  pw : acc.Pairwise (· < ·)
theorem SgAcc.snoc {acc : List Int} (h : SgAcc acc) {l m : Int} (hl : acc.getLast? = some l) (h0 : 0 ≤ m) (h1 : m < 997) : SgAcc (acc ++ [l + 1 + m]) := by
  obtain ⟨ms, rfl⟩ := List.getLast?_eq_some_iff.mp hl
  have hlr := h.rng l (by simp)
  have hp := h.pw
  rw [List.pairwise_append] at hp
  have hle : ∀ x ∈ ms ++ [l], x ≤ l := fun x hx => by
    rcases List.mem_append.mp hx with hx | hx
    · exact Int.le_of_lt (hp.2.2 x hx l (by simp))
    · rw [List.mem_singleton] at hx; omega
  refine ⟨by simp, fun x hx => ?_, pw_snoc h.pw fun b hb => ?_⟩
  · rw [List.length_append, List.length_singleton]
    rcases List.mem_append.mp hx with hx | hx
    · have := h.rng x hx; omega
    · rw [List.mem_singleton] at hx; omega
  · have := hle b hb; omega
theorem SgAcc.ok {acc : List Int} {points : Nat} (h : SgAcc acc) (hl : acc.length = points) (hp : points ≤ 6) : SgOk acc points := by
  have get : ∀ m : Int, 1 ≤ m → m ≤ points → ∃ h : (m - 1).toNat < acc.length, sgF acc m = acc[(m - 1).toNat] := fun m h1 h2 => by
    have hlt : (m - 1).toNat < acc.length := by omega
    exact ⟨hlt, by unfold sgF; rw [List.getD_eq_getElem?_getD, List.getElem?_eq_getElem hlt]; rfl⟩
  refine ⟨hl, fun m h1 h2 => ?_, fun m m' h1 h2 h3 => ?_⟩
  · obtain ⟨hlt, e⟩ := get m h1 h2
    rw [e]
    have := h.rng _ (List.getElem_mem hlt)
    omega
  · obtain ⟨hlt, e⟩ := get m h1 (by omega)
    obtain ⟨hlt', e'⟩ := get m' (by omega) h3
    rw [e, e']
    exact List.pairwise_iff_getElem.mp h.pw _ _ hlt hlt' (by omega)
section
variable {w : World} {B : Heap} {aT aG aA aI aD aS aM aR aL : Addr} (H : Has10 w B aT aG aA aI aD aS aM aR aL)
include H in
theorem told_ok {base : List Nat} {ds : List Int} (hd : ∀ d ∈ ds, 0 ≤ d ∧ d < 10 ^ 20) (hl : ds.length < 1000) (hb : base.length < 10000) (ho : noOv base 128 (-1) ds) :
    CallOk (G10 w B aT aG aA aI aD aS aM aR aL) 4 (.ref aL) [.str base, .bytes ((giD base.length 0 72 ds).map dU)] (.str (insF base 128 (-1) ds)) := by
  have kS := H.dS.keep
  refine DefAt.call H.dL ?_ ?_
  · refine Xs.cons (X1.try (Xs.cons (X1.ret (Ev.call (by wtm_at "ev") (by wtm_at "kp") (Es.cons (by wtm_at "ev") (Es.cons (by wtm_at "ev") (Es.cons (Ev.cstr (l := strictL) (by decide +kernel)) Es.nil))) (ins_ok H.dS ⟨H.dT, rfl, H.dA, rfl, H.dD, rfl, rfl, rfl, rfl⟩ hd hl hb (.inr ho))) rfl)))
  · intro pm cd doc vals h
    obtain ⟨x, y, rfl⟩ := len2 h
    rfl
set_option maxRecDepth 100000 in
set_option maxHeartbeats 8000000 in
include H in
theorem law_tail {base : List Nat} {signs : List Int} {plain strange points : Nat} (hpl : base.length = plain) (hsg : SgOk signs points) (hB : shapeB plain strange points = true) (p3 : plain ≤ 3) (s1 : 1 ≤ strange) (s3 : strange ≤ 3) (q1 : 1 ≤ points) (q6 : points ≤ 6) (hbc : ∀ c ∈ base, c ≤ 1114111) :
    Xs (G10 w B aT aG aA aI aD aS aM aR aL) 5 (fnAt pg 12).2.2 [("plain", .int (plain : Int)), ("strange", .int (strange : Int)), ("points", .int (points : Int)), ("base", .str base), ("signs", .lst (signs.map .int))] [] ((fnAt pg 12).2.1.drop 5) (fun fl _ _ => fl = .ret (.bool true)) := by
  have kM := H.dM.keep
  have kR := H.dR.keep
  have kL := H.dL.keep
  have kI := H.dI.keep
  unfold shapeB at hB
  simp only [Bool.and_eq_true, decide_eq_true_eq] at hB
  obtain ⟨⟨⟨⟨b1, b2⟩, b3⟩, b4⟩, b5⟩ := hB
  have hz : ∀ n, n ≤ plain + strange → (marksN plain strange points n).length ≤ 100 ∧ ∀ r ∈ marksN plain strange points n, r.length ≤ 10 := by
    intro n hn
    have := List.all_eq_true.mp b1 n (by simp; omega)
    rw [Bool.and_eq_true] at this
    exact ⟨of_decide_eq_true this.1, fun r hr => of_decide_eq_true (List.all_eq_true.mp this.2 r hr)⟩
  have hm : ∀ t ∈ itemsF plain strange points, t.1.length = strange := fun t ht => of_decide_eq_true (List.all_eq_true.mp b3 t ht)
  refine Xs.cons (X1.assign (v := .lst ((List.replicate strange (0 : Int)).map .int)) ?_ ?_)
  · have e : (List.replicate strange (0 : Int)).map PV.int = (List.replicate ((strange : Int)).toNat [PV.int 0]).flatten := by
      rw [Int.toNat_natCast]; simp
    rw [e]
    exact Ev.bin (Ev.list (by wtm_at "es") (by simp)) (by wtm_at "ev") (Op2.mulL (by omega) (by omega) (by simp; omega))
  refine Xs.cons (X1.assign (v := befP none) Ev.cnone ?_)
  have hsort : CallN (G10 w B aT aG aA aI aD aS aM aR aL) (.builtin "sorted") [.lst ((itemsF plain strange points).map itP)] (.list ((sortIts (itemsF plain strange points)).map itP)) := by
    have h := CallN.sorted (SortOk.runs (Γ := G10 w B aT aG aA aI aD aS aM aR aL) hm b4) (by simpa using b2)
    rw [List.length_map] at h
    have e2 : ((sortP (itemsF plain strange points).length fun i j => ltRun ((itemsF plain strange points).getD i ([], [])).1 ((itemsF plain strange points).getD j ([], [])).1).map fun i => ((itemsF plain strange points).map itP).getD i .none) = (sortIts (itemsF plain strange points)).map itP := by
      unfold sortIts
      rw [List.map_map]
      refine List.map_congr_left fun i hi => ?_
      exact getD_map' itP (itemsF plain strange points) i _ _ (sortP_lt i hi)
    rw [e2] at h
    exact h
  refine Xs.cons (X1.for (EvN.ev (EvN.call (by wtm_at "ev") (by wtm_at "kp") (Es.cons (v := .lst ((itemsF plain strange points).map itP)) (EvN.ev ?_) Es.nil) hsort)) IterOk.lst ?_)
  · have e : (itemsF plain strange points).map itP = ((marksN plain strange points (plain + strange)).map fun r => some (itP (runF r, r))).filterMap id := by
      rw [filterMap_some (fun r => itP (runF r, r))]
      unfold itemsF
      rw [List.map_map]; rfl
    rw [e]
    have hmz := hz (plain + strange) (Nat.le_refl _)
    refine EvN.comp (σf := []) (p := .lst ((marksN plain strange points (plain + strange)).map rowN)) (Ev.call (by wtm_at "ev") (by wtm_at "kp") (by wtm_at "es") (CallOk.mono (marks_ok H (by omega) (by omega) (by omega) hz) (by decide))) IterOk.lst ?_ (by simp; omega) trivial
    refine Paired.maps _ fun r hr => ?_
    exact Turn.all (fun μ => As.name) trivial fun μ => Ev.tuple (Es.cons (Ev.call (by wtm_at "ev") kR (Es.cons (Ev.weak Wk.lsn (Ev.name rfl)) Es.nil) (CallOk.mono (run_ok H (hmz.2 r hr)) (by decide))) (Es.cons (Ev.weak Wk.lsn (Ev.name rfl)) Es.nil)) (by simp)
  refine Fo.sub (σ' := [("plain", .int (plain : Int)), ("strange", .int (strange : Int)), ("base", .str base), ("signs", .lst (signs.map .int)), ("counts", .lst ((List.replicate strange (0 : Int)).map .int)), ("before", befP none)]) (by wtm_at "sub") ?_
  refine (?_ : ∀ (rest : List ItT) (bef : Option RunT) (counts : List Int), chk plain strange points bef counts rest = true → Fo (G10 w B aT aG aA aI aD aS aM aR aL) 5 (fnAt pg 12).2.2 [("plain", .int (plain : Int)), ("strange", .int (strange : Int)), ("base", .str base), ("signs", .lst (signs.map .int)), ("counts", .lst (counts.map .int)), ("before", befP bef)] [] _ _ _ (rest.map itP) _)
    (sortIts (itemsF plain strange points)) none (List.replicate strange 0) b5
  clear b1 b2 b3 b4 b5 hz hm hsort
  intro rest
  induction rest with
  | nil =>
    intro bef counts _
    exact Fo.nil (Xs.nil (Xs.cons (X1.ret (by wtm_at "ev") rfl)))
  | cons t rest ih =>
    intro bef counts hchk
    rw [chk] at hchk
    simp only [Bool.and_eq_true, decide_eq_true_eq, List.all_eq_true] at hchk
    obtain ⟨⟨⟨⟨⟨⟨⟨⟨⟨⟨c1, c2⟩, c3⟩, c4⟩, c5⟩, c6⟩, c7⟩, c8⟩, c9⟩, c10⟩, c11⟩ := hchk
    obtain ⟨run, row⟩ := t
    dsimp only at c1 c2 c4 c5 c6 c7 c8 c9 c10 c11
    rw [List.map_cons]
    refine Fo.cons (As.tuple2 As.name As.name) ?_
    refine Xs.cut [("plain", .int (plain : Int)), ("strange", .int (strange : Int)), ("base", .str base), ("signs", .lst (signs.map .int)), ("counts", .lst ((cntNext strange bef run counts).map .int)), ("run", .lst (run.map pairP)), ("row", .lst (row.map .int))] [] ?_ ?_
    · refine X1.ite (Tr.cmp (by wtm_at "ev") (by wtm_at "ev") (Op2.isNot0 (by cases bef <;> rfl))) (fun hc => ?_) (fun hc => ?_)
      · cases bef with
        | none => cases hc
        | some b =>
          simp only [befB, Bool.and_eq_true, decide_eq_true_eq] at c2
          obtain ⟨⟨d1, d2⟩, d3⟩ := c2
          refine Xs.cons (X1.assign (v := .int ((0 : Nat) : Int)) Ev.cint ?_)
          refine Xs.cons (X1.while ?_)
          refine Wh.sub (σ' := [("plain", .int (plain : Int)), ("strange", .int (strange : Int)), ("base", .str base), ("signs", .lst (signs.map .int)), ("counts", .lst (counts.map .int)), ("before", .lst (b.map pairP)), ("run", .lst (run.map pairP)), ("row", .lst (row.map .int)), ("part", .int ((0 : Nat) : Int))]) (by wtm_at "sub") ?_
          refine (?_ : ∀ (m k : Nat), k + m = partF run b → Wh (G10 w B aT aG aA aI aD aS aM aR aL) 5 (fnAt pg 12).2.2 [("plain", .int (plain : Int)), ("strange", .int (strange : Int)), ("base", .str base), ("signs", .lst (signs.map .int)), ("counts", .lst (counts.map .int)), ("before", .lst (b.map pairP)), ("run", .lst (run.map pairP)), ("row", .lst (row.map .int)), ("part", .int ((k : Nat) : Int))] [] _ _ _ _) (partF run b) 0 (by omega)
          intro m
          induction m with
          | zero =>
            intro k hk
            have hk' : k = partF run b := by omega
            have hrk : (run.map pairP)[((k : Nat) : Int).toNat]? = some (pairP (run.getD k (0, 0))) := getD_at (by omega)
            have hbk : (b.map pairP)[((k : Nat) : Int).toNat]? = some (pairP (b.getD k (0, 0))) := getD_at (by omega)
            have hck : (counts.map PV.int)[((k : Nat) : Int).toNat]? = some (.int (counts.getD k 0)) := getD_at (by omega)
            refine Wh.step (c := false) (Tr.cmp (Ev.sub (by wtm_at "ev") (by wtm_at "ev") (Op2.item (by omega) hrk (by simp; omega)) HasItem.lst) (Ev.sub (by wtm_at "ev") (by wtm_at "ev") (Op2.item (by omega) hbk (by simp; omega)) HasItem.lst) ?_) (fun q => nomatch q) (fun _ => Xs.nil ?_)
            · have := Op2.eqPair (Γ := G10 w B aT aG aA aI aD aS aM aR aL) (p := run.getD k (0, 0)) (q := b.getD k (0, 0))
              rwa [decide_eq_false (by rw [hk']; exact d3)] at this
            refine Xs.cons (X1.assign (v := .lst ((cntNext strange (some b) run counts).map .int)) ?_ (Xs.nil ⟨rfl, by wtm_at "sub", rfl⟩))
            have e : (cntNext strange (some b) run counts).map PV.int = (cutL (counts.map PV.int) none (some ((k : Nat) : Int)) ++ [PV.int (counts.getD k 0 + 1)]) ++ (List.replicate ((strange : Int) - (k : Int) - 1).toNat [PV.int 0]).flatten := by
              rw [ints_map_cut, cut_to]
              show (counts.take (partF run b) ++ [counts.getD (partF run b) 0 + 1] ++ List.replicate (strange - partF run b - 1) 0).map PV.int = _
              rw [← hk', show ((strange : Int) - (k : Int) - 1).toNat = strange - k - 1 from by omega]
              simp
            rw [e]
            refine Ev.bin (Ev.bin (Ev.slice (by wtm_at "ev") Pt.none (Pt.some (by wtm_at "ev")) (SliceOk.lst (by simp; omega)) HasItem.lst) (Ev.list (Es.cons (Ev.bin (Ev.sub (by wtm_at "ev") (by wtm_at "ev") (Op2.item (by omega) hck (by simp; omega)) HasItem.lst) (by wtm_at "ev") Op2.add) Es.nil) (by simp)) (Op2.addL ?_)) (Ev.bin (Ev.list (by wtm_at "es") (by simp)) (by wtm_at "ev") (Op2.mulL (by omega) (by omega) (by simp; omega))) (Op2.addL ?_)
            · rw [ints_map_cut, cut_to]; simp; omega
            · rw [ints_map_cut, cut_to]; simp; omega
          | succ m ihm =>
            intro k hk
            have hrk : (run.map pairP)[((k : Nat) : Int).toNat]? = some (pairP (run.getD k (0, 0))) := getD_at (by omega)
            have hbk : (b.map pairP)[((k : Nat) : Int).toNat]? = some (pairP (b.getD k (0, 0))) := getD_at (by omega)
            refine Wh.step (c := true) (Tr.cmp (Ev.sub (by wtm_at "ev") (by wtm_at "ev") (Op2.item (by omega) hrk (by simp; omega)) HasItem.lst) (Ev.sub (by wtm_at "ev") (by wtm_at "ev") (Op2.item (by omega) hbk (by simp; omega)) HasItem.lst) ?_) (fun _ => ?_) (fun q => nomatch q)
            · have := Op2.eqPair (Γ := G10 w B aT aG aA aI aD aS aM aR aL) (p := run.getD k (0, 0)) (q := b.getD k (0, 0))
              rwa [decide_eq_true (partF_same run b k (by omega))] at this
            refine Xs.cons (X1.aug rfl (by wtm_at "ev") (by wtm_at "op") (Xs.nil ?_))
            have e1 : ((k : Int) + 1) = ((k + 1 : Nat) : Int) := by omega
            rw [e1]
            exact Wh.sub (by wtm_at "sub") (ihm (k + 1) (by omega))
      · cases bef with
        | none => exact Xs.nil ⟨rfl, by wtm_at "sub", rfl⟩
        | some b => cases hc
    generalize hcn : cntNext strange bef run counts = cn at *
    have hcnl := cntB_length run cn _ _ _ c5
    obtain ⟨r1, r2, r3⟩ := row_ok (t := (run, row)) (strange := strange) hsg (by rw [hpl]; exact c4) (by rw [hpl]; exact c5) (fun q hq => c6 q hq) (by rw [hpl]; exact c10) (by dsimp only; omega)
    dsimp only at r1 r2 r3
    obtain ⟨N, hN⟩ : ∃ N, numsT signs base.length 0 run cn = N := ⟨_, rfl⟩
    have hNl : N.length = strange := by rw [← hN, numsT_length signs run cn _ _ hcnl, c1]
    rw [hN] at r1 r2 r3
    refine Xs.cons (X1.assign (by wtm_at "ev") ?_)
    refine Xs.cons (X1.own (EvN.list Es.nil (by simp)) fun a ha => ?_)
    refine Xs.cons (X1.assign (by wtm_at "ev") ?_)
    refine Xs.cons (X1.for (p := .rng 0 (strange : Int) 1) (Ev.call (by wtm_at "ev") (by wtm_at "kp") (by wtm_at "es") CallOk.range1) (IterOk.upTo (n := strange) rfl (by omega)) ?_)
    refine Fo.sub (σ' := [("plain", .int (plain : Int)), ("strange", .int (strange : Int)), ("base", .str base), ("signs", .lst (signs.map .int)), ("counts", .lst (cn.map .int)), ("before", befP (some run)), ("run", .lst (run.map pairP)), ("row", .lst (row.map .int)), ("numbers", .ref a), ("passed", .int 0)]) (by wtm_at "sub") ?_
    refine (?_ : ∀ (m k : Nat) (passed : Int) (acc : List Int), k + m = strange → acc.length = k → acc ++ numsT signs ((base.length : Int) + (k : Int)) passed (run.drop k) (cn.drop k) = N → Fo (G10 w B aT aG aA aI aD aS aM aR aL) 5 (fnAt pg 12).2.2 [("plain", .int (plain : Int)), ("strange", .int (strange : Int)), ("base", .str base), ("signs", .lst (signs.map .int)), ("counts", .lst (cn.map .int)), ("before", befP (some run)), ("run", .lst (run.map pairP)), ("row", .lst (row.map .int)), ("numbers", .ref a), ("passed", .int passed)] [(a, .list (acc.map .int))] _ _ _ (rngItems (k : Int) 1 m) _)
      strange 0 0 [] (by omega) rfl (by simpa using hN)
    intro m
    induction m with
    | succ m ihm =>
      intro k passed acc hk hacl hacc
      have hk1 : k < run.length := by omega
      have hk2 : k < cn.length := by omega
      rw [List.drop_eq_getElem_cons hk1, List.drop_eq_getElem_cons hk2, numsT] at hacc
      have e1 : run[k] = run.getD k (0, 0) := by simp [hk1]
      have e2 : cn[k] = cn.getD k 0 := by simp [hk2]
      have hq := c6 run[k] (List.getElem_mem hk1)
      rw [e1] at hacc hq
      rw [e2] at hacc
      generalize hqv : run.getD k (0, 0) = q at *
      obtain ⟨q0, q7⟩ := hq
      have hrunk : (run.map pairP)[((k : Nat) : Int).toNat]? = some (.tup [.int q.1, .int q.2]) := by rw [getD_at (d := (0, 0)) hk1, hqv]; rfl
      have hsgn : (signs.map PV.int)[(q.1 - 1).toNat]? = some (.int (sgF signs q.1)) := by
        exact sg_at (by rw [hsg.len]; omega)
      have hsl := hsg.len
      have hcnk : (cn.map PV.int)[((k : Nat) : Int).toNat]? = some (.int (cn.getD k 0)) := getD_at hk2
      show Fo _ _ _ _ _ _ _ _ (.int (k : Int) :: rngItems ((k : Int) + 1) 1 m) _
      refine Fo.cons As.name ?_
      refine Xs.cons (X1.assign (v := .int (sgF signs q.1 - 127 - q.1)) (Ev.bin (Ev.bin (Ev.sub (by wtm_at "ev") (Ev.bin (Ev.sub (Ev.sub (by wtm_at "ev") (by wtm_at "ev") (Op2.item (by omega) hrunk (by simp; omega)) HasItem.lst) (by wtm_at "ev") (Op2.itemT (by decide) rfl (by simp)) HasItem.tup) (by wtm_at "ev") Op2.sub) (Op2.item (by omega) hsgn (by simp; omega)) HasItem.lst) (by wtm_at "ev") Op2.sub) (Ev.sub (Ev.sub (by wtm_at "ev") (by wtm_at "ev") (Op2.item (by omega) hrunk (by simp; omega)) HasItem.lst) (by wtm_at "ev") (Op2.itemT (by decide) rfl (by simp)) HasItem.tup) Op2.sub) ?_)
      generalize hov : sgF signs q.1 - 127 - q.1 = ov at *
      refine Xs.cons (X1.meth (μ₁ := []) (μ₂ := []) (a := a) (o := .list (acc.map .int)) rfl (Es.cons (v := .int (cn.getD k 0 + (ov - passed) * ((plain : Int) + (k : Int) + 1))) (Ev.bin (Ev.sub (by wtm_at "ev") (by wtm_at "ev") (Op2.item (by omega) hcnk (by simp; omega)) HasItem.lst) (Ev.bin (by wtm_at "ev") (by wtm_at "ev") (Op2.mul (IntMulOk.of_right (intBits_le_64 (by omega) (by omega))))) Op2.add) Es.nil) (MethOk.list_append (by simp; omega)) PySem.F.plainAttrs_list PySem.F.slot_list_append PySem.F.type_list_append ?_)
      refine Xs.cons (X1.assign (by wtm_at "ev") (Xs.nil ?_))
      have e3 : acc.map PV.int ++ [PV.int (cn.getD k 0 + (ov - passed) * ((plain : Int) + (k : Int) + 1))] = (acc ++ [cn.getD k 0 + (ov - passed) * ((plain : Int) + (k : Int) + 1)]).map PV.int := by simp
      have e4 : ((k : Int) + 1) = ((k + 1 : Nat) : Int) := by omega
      rw [e4]
      have hnext := ihm (k + 1) ov (acc ++ [cn.getD k 0 + (ov - passed) * ((plain : Int) + (k : Int) + 1)]) (by omega) (by simp [hacl]) (by rw [← hacc, hpl, List.append_assoc, Int.natCast_add, ← Int.add_assoc]; rfl)
      rw [← e3] at hnext
      exact Fo.sub (by wtm_at "sub") hnext
    | zero =>
      intro k passed acc hk hacl hacc
      have hd1 : run.drop k = [] := by rw [List.drop_eq_nil_iff]; omega
      rw [hd1, numsT_nil, List.append_nil] at hacc
      subst hacc
      refine Fo.nil (Xs.nil ?_)
      refine Xs.freeze0 (x := "numbers") rfl ?_
      refine Xs.cons (X1.assign (Ev.cstr (l := []) (by decide +kernel)) ?_)
      refine Xs.cons (X1.assign (v := .int ((0 : Nat) : Int)) Ev.cint ?_)
      refine Xs.cons (X1.for (by wtm_at "ev") IterOk.lst ?_)
      refine Fo.sub (σ' := [("plain", .int (plain : Int)), ("strange", .int (strange : Int)), ("base", .str base), ("signs", .lst (signs.map .int)), ("counts", .lst (cn.map .int)), ("before", befP (some run)), ("numbers", .lst (acc.map .int)), ("text", .str []), ("used", .int ((0 : Nat) : Int))]) (by wtm_at "sub") ?_
      obtain ⟨TX, hTX⟩ : ∃ TX, textF base signs 0 row = TX := ⟨_, rfl⟩
      rw [hTX] at r1
      refine (?_ : ∀ (rs : List Int) (txt : List Nat) (u : Nat), (∀ x ∈ rs, 0 ≤ x ∧ x ≤ points) → rs.length + txt.length ≤ 10 → u + rs.count 0 = plain → txt ++ textF base signs (u : Int) rs = TX → Fo (G10 w B aT aG aA aI aD aS aM aR aL) 5 (fnAt pg 12).2.2 [("plain", .int (plain : Int)), ("strange", .int (strange : Int)), ("base", .str base), ("signs", .lst (signs.map .int)), ("counts", .lst (cn.map .int)), ("before", befP (some run)), ("numbers", .lst (acc.map .int)), ("text", .str txt), ("used", .int (u : Int))] [] _ _ _ (rs.map .int) _)
        row [] 0 (fun x hx => c8 x hx) (by simpa using c7) (by omega) hTX
      intro rs
      induction rs with
      | cons x rs ihr =>
        intro txt u hx hlen hu htx
        obtain ⟨x0, x1⟩ := hx x List.mem_cons_self
        rw [List.length_cons] at hlen
        rw [List.map_cons]
        refine Fo.cons As.name ?_
        unfold textF at htx
        rw [labs] at htx
        refine Xs.cons (X1.ite (by wtm_at "tr") (fun hc => ?_) (fun hc => ?_))
        · have h0 : x = 0 := of_decide_eq_true hc
          subst h0
          rw [if_pos rfl, List.map_cons] at htx
          rw [List.count_cons_self] at hu
          have hub : u < base.length := by omega
          have hlab : labF base signs (-1 - (u : Int)) = base.getD u 0 := by
            unfold labF
            rw [if_pos (by omega), show ((-1 : Int) - (-1 - (u : Int))).toNat = u from by omega]
          refine Xs.cons (X1.aug rfl (Ev.sub (by wtm_at "ev") (by wtm_at "ev") (Op2.itemS (i := u) (c := base.getD u 0) (by simp [hub]) (by omega)) HasItem.str) (Op2.iaddS (by simp; omega)) ?_)
          refine Xs.cons (X1.aug rfl (by wtm_at "ev") (by wtm_at "op") (Xs.nil (Xs.nil ?_)))
          have e4 : ((u : Int) + 1) = ((u + 1 : Nat) : Int) := by omega
          have hnext := ihr (txt ++ [base.getD u 0]) (u + 1) (fun y hy => hx y (List.mem_cons_of_mem _ hy)) (by simp; omega) (by omega) (by rw [← htx, hlab, ← e4]; simp [textF])
          rw [e4]
          exact Fo.sub (by wtm_at "sub") hnext
        · have h0 : ¬ x = 0 := of_decide_eq_false hc
          rw [if_neg h0, List.map_cons] at htx
          rw [List.count_cons_of_ne (by simpa using h0)] at hu
          have hlab : labF base signs x = (sgF signs x).toNat := by unfold labF; rw [if_neg (by omega)]
          have hlo := hsg.lo x (by omega) x1
          have hsl := hsg.len
          have hsgn : (signs.map PV.int)[(x - 1).toNat]? = some (.int (sgF signs x)) := by
            exact sg_at (by omega)
          refine Xs.cons (X1.aug rfl (Ev.call (by wtm_at "ev") (by wtm_at "kp") (Es.cons (Ev.sub (by wtm_at "ev") (by wtm_at "ev") (Op2.item (by omega) hsgn (by simp; omega)) HasItem.lst) Es.nil) (CallOk.chr (by omega) (by omega))) (Op2.iaddS (by simp; omega)) (Xs.nil (Xs.nil ?_)))
          have hnext := ihr (txt ++ [(sgF signs x).toNat]) u (fun y hy => hx y (List.mem_cons_of_mem _ hy)) (by simp; omega) hu (by rw [← htx, hlab]; simp [textF])
          exact Fo.sub (by wtm_at "sub") hnext
      | nil =>
        intro txt u hx hlen hu htx
        have e : txt = TX := by rw [← htx]; simp [textF, labs]
        subst e
        refine Fo.nil (Xs.nil ?_)
        have hgl := giD_length (base.length : Int) acc 0 72 fun d hm => (r3 d hm).2
        refine Xs.cons (X1.assign (v := .bytes ((giD (base.length : Int) 0 72 acc).map dU)) ?_ ?_)
        · have hgi := gi_ok H.dI ⟨H.dT, rfl, rfl, rfl, rfl⟩ H.dG rfl H.dA rfl rfl (base := (base.length : Int)) (by omega) (by omega) r3 (by omega)
          rw [← map_upB, ← toUpper_eq]
          refine Ev.meth (Ev.call (by wtm_at "ev") (by wtm_at "kp") (Es.cons (v := .int (base.length : Int)) (by rw [hpl]; wtm_at "ev") (Es.cons (by wtm_at "ev") Es.nil)) (CallOk.mono hgi (by decide))) HasMeth.bytes Es.nil (CallOk.upper (by simp; omega)) F.b_plainAttrs F.b_slot_upper F.b_type_upper
        have htold := told_ok H (base := base) r3 (by omega) (by omega) r2
        rw [r1] at htold
        refine Xs.cons (X1.ite (c := false) (Tr.cmp (Ev.call (by wtm_at "ev") kL (by wtm_at "es") (CallOk.mono htold (by decide))) (by wtm_at "ev") ?_) (fun q => nomatch q) (fun _ => Xs.nil (Xs.nil ?_)))
        · have := Op2.neS (Γ := G10 w B aT aG aA aI aD aS aM aR aL) (a := txt) (b := txt)
          rwa [bne_self_eq_false] at this
        exact Fo.sub (by wtm_at "sub") (ih (some run) cn c11)
end

def baseF10 (ns : List Int) (plain : Nat) : List Nat := (List.range plain).map fun (k : Nat) => ((97 + ((0 : Int) + (k : Int)) + (stepL ns (some ((0 : Int) + (k : Int))) none 3).sum) % 1000).toNat
section
variable {w : World} {B : Heap} {aT aG aA aI aD aS aM aR aL : Addr} (H : Has10 w B aT aG aA aI aD aS aM aR aL)
set_option maxRecDepth 100000 in
set_option maxHeartbeats 8000000 in
include H in
theorem law_body {ns : List Int} (hn : ns.length ≤ 63) :
    Xs (G10 w B aT aG aA aI aD aS aM aR aL) 5 (fnAt pg 12).2.2 [("script", .lst (ns.map .int))] [] (fnAt pg 12).2.1 (fun fl _ _ => fl = .ret (.bool true)) := by
  have hsl : ∀ (lo : Option Int) (c : Int), c ≠ 0 → SliceOk (G10 w B aT aG aA aI aD aS aM aR aL) (.lst (ns.map .int)) lo none (some c) (.lst ((stepL ns lo none c).map .int)) := fun lo c hc => by
    have h := SliceOk.step (Γ := G10 w B aT aG aA aI aD aS aM aR aL) (xs := ns.map PV.int) (lo := lo) (hi := none) hc (by simp; omega)
    rwa [stepL_ints ns lo none c] at h
  refine Xs.cons ?_
  with_reducible refine X1.assign (v := .lst shapesP) ?e ?_
  · with_reducible refine Ev.list ?_ (by simp)
    wtm_at "es"
  obtain ⟨S, hS⟩ : ∃ S : Int, S = ns.sum := ⟨_, rfl⟩
  have hsum : CallOk (G10 w B aT aG aA aI aD aS aM aR aL) 5 (.builtin "sum") [.lst (ns.map .int)] (.int S) := by rw [hS]; exact CallOk.sum
  obtain ⟨plain, strange, points, hget, hB, p3, s1, s3, q1, q6⟩ := shape_pick (S % 8) (by omega) (by omega)
  refine Xs.cons (X1.assignT (v := .tup [.int (plain : Int), .int (strange : Int), .int (points : Int)]) (Ev.sub (by wtm_at "ev") (Ev.bin (Ev.call (by wtm_at "ev") (by wtm_at "kp") (by wtm_at "es") hsum) (by wtm_at "ev") (Op2.mod (by decide))) (Op2.item (by omega) hget (by simp)) HasItem.lst) (As.tuple3 As.name As.name As.name) ?_)
  obtain ⟨base, hbase⟩ : ∃ base, baseF10 ns plain = base := ⟨_, rfl⟩
  have hbl : base.length = plain := by rw [← hbase]; unfold baseF10; simp
  have hbc : ∀ c ∈ base, c ≤ 1114111 := by
    intro c hc
    rw [← hbase] at hc
    unfold baseF10 at hc
    obtain ⟨k, _, rfl⟩ := List.mem_map.mp hc
    omega
  refine Xs.cons (X1.assign (v := .str base) (Ev.meth (Ev.cstr (l := []) (by decide +kernel)) HasMeth.str (Es.cons (v := .lst ((base.map fun c => [c]).map .str)) (EvN.ev ?_) Es.nil) (join_text (by omega)) PySem.F.plainAttrs_str PySem.F.slot_str_join PySem.F.type_str_join) ?_)
  · have e : (base.map fun c => [c]).map PV.str = ((List.range plain).map fun (k : Nat) => some (PV.str [((97 + ((0 : Int) + (k : Int)) + (stepL ns (some ((0 : Int) + (k : Int))) none 3).sum) % 1000).toNat])).filterMap id := by
      rw [filterMap_some (fun k : Nat => PV.str [((97 + ((0 : Int) + (k : Int)) + (stepL ns (some ((0 : Int) + (k : Int))) none 3).sum) % 1000).toNat]), ← hbase]
      unfold baseF10
      rw [List.map_map, List.map_map]; rfl
    rw [e]
    refine EvN.comp (σf := [("script", .lst (ns.map .int))]) (p := .rng 0 (plain : Int) 1) (xs := (List.range plain).map fun (p : Nat) => PV.int (((0 : Nat) : Int) + (p : Int))) (Ev.call (by wtm_at "ev") (by wtm_at "kp") (by wtm_at "es") CallOk.range1) (by rw [← rngItems_map]; exact IterOk.upTo rfl (by omega)) ?_ (by simp; omega) (by wtm_at "sub")
    refine Paired.maps _ fun k hm => ?_
    refine Turn.all (fun μ => As.name) (by wtm_at "sub") fun μ => ?_
    exact Ev.call (by wtm_at "ev") (by wtm_at "kp") (Es.cons (v := .int ((97 + ((0 : Int) + (k : Int)) + (stepL ns (some ((0 : Int) + (k : Int))) none 3).sum) % 1000)) (Ev.bin (Ev.bin (Ev.bin (by wtm_at "ev") (Ev.name rfl) Op2.add) (Ev.call (by wtm_at "ev") (by wtm_at "kp") (Es.cons (Ev.slice3 (Ev.name rfl) (Pt.some (Ev.name rfl)) Pt.none (by wtm_at "ev") (hsl _ _ (by decide)) HasItem.lst) Es.nil) CallOk.sum) Op2.add) (by wtm_at "ev") (Op2.mod (by decide))) Es.nil) (CallOk.chr (by omega) (by omega))
  obtain ⟨g0, hg0⟩ : ∃ g0 : Int, g0 = 128 + (stepL ns (some 0) none (points : Int)).sum % 40000 := ⟨_, rfl⟩
  refine Xs.cons (X1.own (o := .list ([g0].map .int)) (by
    rw [hg0]
    exact EvN.list (Es.cons (Ev.bin (by wtm_at "ev") (Ev.bin (Ev.call (by wtm_at "ev") (by wtm_at "kp") (Es.cons (Ev.slice3 (Ev.name rfl) (Pt.some (by wtm_at "ev")) Pt.none (by wtm_at "ev") (hsl _ _ (by omega)) HasItem.lst) Es.nil) CallOk.sum) (by wtm_at "ev") (Op2.mod (by decide))) Op2.add) Es.nil) (by simp)) fun a ha => ?_)
  have hA : SgAcc [g0] := ⟨by simp, fun x hx => by rw [List.mem_singleton] at hx; subst hx; simp; omega, List.pairwise_singleton _ _⟩
  refine Xs.cons (X1.for (p := .rng 1 (points : Int) 1) (xs := rngItems (((0 + 1 : Nat) : Nat) : Int) 1 (points - 1)) (Ev.call (by wtm_at "ev") (by wtm_at "kp") (by wtm_at "es") CallOk.range2) (IterOk.rng (small_one (by decide) (by decide) (by omega) (by omega)) (points - 1) (by rw [rangeSize_one]; split <;> omega)) ?_)
  refine Fo.sub (σ' := [("script", .lst (ns.map .int)), ("plain", .int (plain : Int)), ("strange", .int (strange : Int)), ("points", .int (points : Int)), ("base", .str base), ("signs", .ref a)]) (by wtm_at "sub") ?_
  refine (?_ : ∀ (m k : Nat) (acc : List Int), k + 1 + m = points → acc.length = k + 1 → SgAcc acc → Fo (G10 w B aT aG aA aI aD aS aM aR aL) 5 (fnAt pg 12).2.2 [("script", .lst (ns.map .int)), ("plain", .int (plain : Int)), ("strange", .int (strange : Int)), ("points", .int (points : Int)), ("base", .str base), ("signs", .ref a)] [(a, .list (acc.map .int))] _ _ _ (rngItems ((k + 1 : Nat) : Int) 1 m) _) (points - 1) 0 [g0] (by omega) rfl hA
  intro m
  induction m with
  | zero =>
    intro k acc hk hal hacc
    refine Fo.nil (Xs.nil ?_)
    refine Xs.freeze0 (x := "signs") rfl ?_
    refine Xs.sub (σ' := [("plain", .int (plain : Int)), ("strange", .int (strange : Int)), ("points", .int (points : Int)), ("base", .str base), ("signs", .lst (acc.map .int))]) (by wtm_at "sub") ?_
    exact law_tail H hbl (hacc.ok (by omega) q6) hB p3 s1 s3 q1 q6 hbc
  | succ m ih =>
    intro k acc hk hal hacc
    obtain ⟨l, hl⟩ : ∃ l, acc.getLast? = some l := ⟨_, List.getLast?_eq_some_getLast hacc.ne⟩
    obtain ⟨z, hz⟩ : ∃ z : Int, (stepL ns (some ((k + 1 : Nat) : Int)) none (points : Int)).sum % 997 = z := ⟨_, rfl⟩
    have hz0 : 0 ≤ z ∧ z < 997 := by omega
    have hlast : (-1 : Int) < 0 ∧ -((acc.map PV.int).length : Int) ≤ -1 ∧ (acc.map PV.int)[(-1 + ((acc.map PV.int).length : Int)).toNat]? = some (.int l) := by
      obtain ⟨ms, rfl⟩ := List.getLast?_eq_some_iff.mp hl
      refine ⟨by decide, by simp; omega, ?_⟩
      have : (-1 + (((ms ++ [l]).map PV.int).length : Int)).toNat = ms.length := by simp; omega
      rw [this]; simp
    show Fo _ _ _ _ _ _ _ _ (.int ((k + 1 : Nat) : Int) :: rngItems (((k + 1 : Nat) : Int) + 1) 1 m) _
    refine Fo.cons As.name ?_
    refine Xs.cons (X1.meth (μ₁ := []) (μ₂ := []) (a := a) (o := .list (acc.map .int)) rfl (Es.cons (v := .int (l + 1 + z)) ?_ Es.nil) (MethOk.list_append (by simp; omega)) PySem.F.plainAttrs_list PySem.F.slot_list_append PySem.F.type_list_append (Xs.nil ?_))
    · rw [← hz]
      exact Ev.bin (Ev.bin (Ev.subOwn (μ₁ := []) (μ₂ := []) (xs := acc.map .int) rfl (by wtm_at "ev") (.inr hlast) (by simp; omega)) (by wtm_at "ev") Op2.add) (Ev.bin (Ev.call (by wtm_at "ev") (by wtm_at "kp") (Es.cons (Ev.slice3 (Ev.name rfl) (Pt.some (Ev.name rfl)) Pt.none (by wtm_at "ev") (hsl _ _ (by omega)) HasItem.lst) Es.nil) CallOk.sum) (by wtm_at "ev") (Op2.mod (by decide))) Op2.add
    · have e3 : acc.map PV.int ++ [PV.int (l + 1 + z)] = (acc ++ [l + 1 + z]).map PV.int := by simp
      have e4 : (((k + 1 : Nat) : Int) + 1) = ((k + 1 + 1 : Nat) : Int) := by omega
      have hnext := ih (k + 1) (acc ++ [l + 1 + z]) (by omega) (by simp [hal]) (hacc.snoc hl hz0.1 hz0.2)
      rw [← e3] at hnext
      rw [e4]
      exact Fo.sub (by wtm_at "sub") hnext
end

end Mine

namespace Mine
theorem law_ok {w : World} {B : Heap} {aT aG aA aI aD aS aM aR aL aW : Addr} (H : Has10 w B aT aG aA aI aD aS aM aR aL) (hW : DefAt (G10 w B aT aG aA aI aD aS aM aR aL) aW "law" (fnAt pg 12)) {ns : List Int} (hn : ns.length ≤ 63) :
    CallOk (G10 w B aT aG aA aI aD aS aM aR aL) 6 (.ref aW) [.lst (ns.map .int)] (.bool true) := by
  have hz : (fnAt pg 12).1.args.map (·.arg) = ([("script" : Str)] : List Str) := by kernel_rfl
  refine DefAt.callC (params := (fnAt pg 12).1) (body := (fnAt pg 12).2.1) (scope := (fnAt pg 12).2.2) hW ?_ ?_
  · have hz2 : ((fnAt pg 12).1.args.map (·.arg)).zip [PV.lst (ns.map .int)] = [(("script" : Str), PV.lst (ns.map .int))] := by rw [hz]; rfl
    rw [hz2]
    with_reducible exact law_body H hn
  intro pm cd doc vals h
  obtain ⟨x, rfl⟩ := len1 h
  kernel_rfl

def tokOf (o : Option (Option Value)) : Tok := match o with | some (some (.bytes _ t)) => t | _ => 0
theorem GlOk.topBytes {p : Program} {loose : List Str} {mean : ExcName → Option Value} {mg mb : Str → Option Value} {B : Heap} (T : Top p loose mean mg mb B) {K : Frag} (X : K.In B) {x : Str} {l : List UInt8}
    (e : nsIn K mainGlobals x = some (some (.bytes l.toArray (tokOf (nsIn K mainGlobals x))))) : ∃ v', GloV B x v' ∧ ∀ D h, V D h (.bytes l) v' := GlOk.bytes (GloV.top T X e)
theorem GlOk.bi1 {p : Program} {loose : List Str} {mean : ExcName → Option Value} {mg mb : Str → Option Value} {B : Heap} (T : Top p loose mean mg mb B) {K : Frag} (X : K.In B) {x : Str} {v : Value} (e : nsIn K mainGlobals x = some none) (hv : bootBuiltins x = some v) (hn : x ≠ "__name__") :
    ∃ v', GloV B x v' ∧ ∀ D h, V D h (.obj v) v' := GlOk.one (GloV.bi T X e hv hn)
set_option maxRecDepth 100000 in
set_option maxHeartbeats 8000000 in
theorem holds10 : PySem.Challenge.rw_dm0101_10.Holds := by
  w_on
  o_law
  k_head
  (case hw => w_witness2)
  k_fill
  intro w s₀ s₁ mg mb G Y fa o pm cd doc dV kV ho hd hcd hD hmg hg args vals as hpre hlay hrd hwl hlo
  have KX := kIn_of Y
  refine Ground.open G ?_
  intro T B D TE TW
  wrow_args hpre hlay hrd hwl hlo
  rename_i ns hs hlay0 hL1 hr1 hl2 w4 w3 l vs w0 hL ra w1 r0 hI hr hcond1 hcond
  obtain ⟨aT, eaT, daT⟩ := DefAt.of T 0 1 "T" PySem.Challenge.pw_dm0101_10 (by kernel_rfl)
  obtain ⟨aG, eaG, daG⟩ := DefAt.of T 1 3 "generate_generalized_integer" PySem.Challenge.pw_dm0101_10 (by kernel_rfl)
  obtain ⟨aA, eaA, daA⟩ := DefAt.of T 2 4 "adapt" PySem.Challenge.pw_dm0101_10 (by kernel_rfl)
  obtain ⟨aI, eaI, daI⟩ := DefAt.of T 3 5 "generate_integers" PySem.Challenge.pw_dm0101_10 (by kernel_rfl)
  obtain ⟨aD, eaD, daD⟩ := DefAt.of T 4 6 "decode_generalized_number" PySem.Challenge.pw_dm0101_10 (by kernel_rfl)
  obtain ⟨aS, eaS, daS⟩ := DefAt.of T 5 7 "insertion_sort" PySem.Challenge.pw_dm0101_10 (by kernel_rfl)
  obtain ⟨aM, eaM, daM⟩ := DefAt.of T 6 9 "_law_marks" PySem.Challenge.pw_dm0101_10 (by kernel_rfl)
  obtain ⟨aR, eaR, daR⟩ := DefAt.of T 7 10 "_law_run" PySem.Challenge.pw_dm0101_10 (by kernel_rfl)
  obtain ⟨aL, eaL, daL⟩ := DefAt.of T 8 11 "_law_told" PySem.Challenge.pw_dm0101_10 (by kernel_rfl)
  obtain ⟨aW, eW, dW⟩ := DefAt.of T 9 12 "law" PySem.Challenge.pw_dm0101_10 (by kernel_rfl)
  have efa : fa = aW := by have := hmg.symm.trans eW; cases this; rfl
  subst efa
  refine law_called (Γ := G10 w s₁.heap aT aG aA aI aD aS aM aR aL) (k := 6) (ns := ns) ⟨?_, T.nolimit⟩ rfl (by decide) hL hI (law_ok ⟨daT _ rfl, daG _ rfl, daA _ rfl, daI _ rfl, daD _ rfl, daS _ rfl, daM _ rfl, daR _ rfl, daL _ rfl⟩ (dW _ rfl) (by omega)) ?_
  · refine GlOk.to ⟨GlOk.one (GloV.fn T eaT), GlOk.topBytes T KX ?_, GlOk.one (GloV.fn T eaG), GlOk.one (GloV.fn T eaA), GlOk.one (GloV.fn T eaI), GlOk.one (GloV.fn T eaD), GlOk.one (GloV.fn T eaS), GlOk.one (GloV.fn T eaM), GlOk.one (GloV.fn T eaR), GlOk.one (GloV.fn T eaL), GlOk.bi1 T KX (by k_is) (by boot_by_name) (by decide), GlOk.bi1 T KX (by k_is) (by boot_by_name) (by decide), GlOk.bi1 T KX (by k_is) (by boot_by_name) (by decide), GlOk.bi1 T KX (by k_is) (by boot_by_name) (by decide), GlOk.bi1 T KX (by k_is) (by boot_by_name) (by decide), GlOk.bi1 T KX (by k_is) (by boot_by_name) (by decide), GlOk.bi1 T KX (by k_is) (by boot_by_name) (by decide), GlOk.bi1 T KX (by k_is) (by boot_by_name) (by decide), GlOk.bi1 T KX (by k_is) (by boot_by_name) (by decide), trivial⟩
    kernel_rfl
  · intro s' hk hgens hos
    refine GoodW.toG ⟨.inl ⟨_, _, [], rfl, fun cls => rfl, .bool true, postW_of rfl (w_eq_bool (w_res rfl) w_lit) rfl, unshared_nil⟩, hk, hos, hgens.trans hg⟩
end Mine
theorem PySem.Challenge.cw_dm0101_10_holds : PySem.Challenge.rw_dm0101_10.Holds :=
  Mine.holds10
