import PyProof.Rows.All
import Wide.All
import OpenK.AllK
import Wide.FinOn
import PySem.Challenge.RW_dm0101_01
open PySem PySem.W PyProof.Rows PySem.Calls
set_option Elab.async false
set_option linter.all false

namespace Mine

/-! ## pure data and how a heap bears it -/

/-- everything that stood stands -/
abbrev Kp (h h' : Heap) : Prop := ∀ b o, h.get? b = some o → h'.get? b = some o

inductive PV where
  | none
  | bool (b : Bool)
  | int (i : Int)
  | str (l : List Nat)
  | bytes (l : List UInt8)
  | obj (v : Value)
  | tup (xs : List PV)
  | lst (xs : List PV)
  | ref (a : Addr)
  | rng (a b c : Int)

mutual
def V (D : Addr → Prop) (h : Heap) : PV → Value → Prop
  | .none, v => v = .none
  | .bool b, v => v = .bool b
  | .int i, v => ∃ t, v = .int i t
  | .str l, v => ∃ t, v = .str ⟨l.toArray⟩ t
  | .bytes l, v => ∃ t, v = .bytes l.toArray t
  | .obj w, v => v = w
  | .tup xs, v => ∃ a items, v = .ref a ∧ IsTup h a items ∧ Vs D h xs items.toList
  | .lst xs, v => ∃ a items, v = .ref a ∧ ¬ D a ∧ h.IsList a items ∧ Vs D h xs items.toList
  | .ref a, v => v = .ref a
  | .rng a b c, v => ∃ r t u z, v = .ref r ∧ h.get? r = some { cls := .type "range", dict := none, data := .fields #[.int a t, .int b u, .int c z], slots := #[] }
def Vs (D : Addr → Prop) (h : Heap) : List PV → List Value → Prop
  | [], vs => vs = []
  | x :: xs, vs => ∃ v r, vs = v :: r ∧ V D h x v ∧ Vs D h xs r
end

section
variable {D : Addr → Prop} {h : Heap}
theorem V_none {v} : V D h .none v ↔ v = .none := by simp only [V]
theorem V_bool {b v} : V D h (.bool b) v ↔ v = .bool b := by simp only [V]
theorem V_int {i v} : V D h (.int i) v ↔ ∃ t, v = .int i t := by simp only [V]
theorem V_str {l v} : V D h (.str l) v ↔ ∃ t, v = .str ⟨l.toArray⟩ t := by simp only [V]
theorem V_bytes {l v} : V D h (.bytes l) v ↔ ∃ t, v = .bytes l.toArray t := by simp only [V]
theorem V_obj {w v} : V D h (.obj w) v ↔ v = w := by simp only [V]
theorem V_tup {xs v} : V D h (.tup xs) v ↔ ∃ a items, v = .ref a ∧ IsTup h a items ∧ Vs D h xs items.toList := by simp only [V]
theorem V_lst {xs v} : V D h (.lst xs) v ↔ ∃ a items, v = .ref a ∧ ¬ D a ∧ h.IsList a items ∧ Vs D h xs items.toList := by simp only [V]
theorem V_ref {a v} : V D h (.ref a) v ↔ v = .ref a := by simp only [V]
theorem V_rng {a b c v} : V D h (.rng a b c) v ↔ ∃ r t u z, v = .ref r ∧ h.get? r = some { cls := .type "range", dict := none, data := .fields #[.int a t, .int b u, .int c z], slots := #[] } := by simp only [V]
theorem Vs_nil {vs} : Vs D h [] vs ↔ vs = [] := by simp only [Vs]
theorem Vs_cons {x xs vs} : Vs D h (x :: xs) vs ↔ ∃ v r, vs = v :: r ∧ V D h x v ∧ Vs D h xs r := by simp only [Vs]

theorem V.int (i : Int) (t : Tok) : V D h (.int i) (.int i t) := V_int.mpr ⟨t, rfl⟩
theorem V.bool (b : Bool) : V D h (.bool b) (.bool b) := V_bool.mpr rfl
theorem V.none : V D h .none .none := V_none.mpr rfl
theorem V.bytes (l : List UInt8) (t : Tok) : V D h (.bytes l) (.bytes l.toArray t) := V_bytes.mpr ⟨t, rfl⟩
theorem V.str (l : List Nat) (t : Tok) : V D h (.str l) (.str ⟨l.toArray⟩ t) := V_str.mpr ⟨t, rfl⟩

theorem Vs.length : ∀ {xs : List PV} {vs : List Value}, Vs D h xs vs → vs.length = xs.length
  | [], vs, e => by rw [Vs_nil] at e; subst e; rfl
  | x :: xs, vs, e => by
    rw [Vs_cons] at e
    obtain ⟨v, r, rfl, _, e3⟩ := e
    simp [Vs.length e3]
theorem Vs.get : ∀ {xs : List PV} {vs : List Value} (i : Nat) {x : PV}, Vs D h xs vs → xs[i]? = some x → ∃ v, vs[i]? = some v ∧ V D h x v
  | [], vs, i, x, e, hx => by simp at hx
  | y :: xs, vs, i, x, e, hx => by
    rw [Vs_cons] at e
    obtain ⟨v, r, rfl, e2, e3⟩ := e
    cases i with
    | zero => simp at hx; subst hx; exact ⟨v, rfl, e2⟩
    | succ i => simp at hx; obtain ⟨v', h1, h2⟩ := Vs.get i e3 hx; exact ⟨v', by simpa using h1, h2⟩
theorem Vs.append : ∀ {xs ys : List PV} {vs us : List Value}, Vs D h xs vs → Vs D h ys us → Vs D h (xs ++ ys) (vs ++ us)
  | [], ys, vs, us, e, f => by rw [Vs_nil] at e; subst e; simpa using f
  | x :: xs, ys, vs, us, e, f => by
    rw [Vs_cons] at e
    obtain ⟨v, r, rfl, e2, e3⟩ := e
    rw [List.cons_append, Vs_cons]
    exact ⟨v, r ++ us, rfl, e2, Vs.append e3 f⟩
theorem Vs.take : ∀ (n : Nat) {xs : List PV} {vs : List Value}, Vs D h xs vs → Vs D h (xs.take n) (vs.take n)
  | 0, xs, vs, e => by simp [Vs_nil]
  | n + 1, [], vs, e => by rw [Vs_nil] at e; subst e; simp [Vs_nil]
  | n + 1, x :: xs, vs, e => by
    rw [Vs_cons] at e
    obtain ⟨v, r, rfl, e2, e3⟩ := e
    rw [List.take_succ_cons, List.take_succ_cons, Vs_cons]
    exact ⟨v, _, rfl, e2, Vs.take n e3⟩
theorem Vs.drop : ∀ (n : Nat) {xs : List PV} {vs : List Value}, Vs D h xs vs → Vs D h (xs.drop n) (vs.drop n)
  | 0, xs, vs, e => by simpa using e
  | n + 1, [], vs, e => by rw [Vs_nil] at e; subst e; simp [Vs_nil]
  | n + 1, x :: xs, vs, e => by
    rw [Vs_cons] at e
    obtain ⟨v, r, rfl, e2, e3⟩ := e
    simpa using Vs.drop n e3
theorem Vs.reverse {xs : List PV} {vs : List Value} (e : Vs D h xs vs) : Vs D h xs.reverse vs.reverse := by
  induction xs generalizing vs with
  | nil => rw [Vs_nil] at e; subst e; simp [Vs_nil]
  | cons x xs ih =>
    rw [Vs_cons] at e
    obtain ⟨v, r, rfl, e2, e3⟩ := e
    rw [List.reverse_cons, List.reverse_cons]
    exact (ih e3).append (Vs_cons.mpr ⟨v, [], rfl, e2, Vs_nil.mpr rfl⟩)
theorem Vs.ints : ∀ {ns : List Int} {vs : List Value}, Vs D h (ns.map PV.int) vs → IntsAre vs ns
  | [], vs, e => by
    simp only [List.map_nil, Vs_nil] at e; subst e; exact .nil
  | n :: ns, vs, e => by
    simp only [List.map_cons, Vs_cons] at e
    obtain ⟨v, r, rfl, e2, e3⟩ := e
    obtain ⟨t, rfl⟩ := V_int.mp e2
    exact .cons _ _ (Vs.ints e3)
theorem Vs.of_ints : ∀ {ns : List Int} {vs : List Value}, IntsAre vs ns → Vs D h (ns.map PV.int) vs
  | _, _, .nil => by simp [Vs_nil]
  | _, _, .cons _ _ e => by
    simp only [List.map_cons, Vs_cons]
    exact ⟨_, _, rfl, V.int _ _, Vs.of_ints e⟩
end

/-- an object whose data is one that a value's tree, or an iterator, reads -/
def DataOk (d : Data) : Prop := match d with
  | .seq _ _ => True
  | .fields _ => True
  | _ => False

/-- a node of a value's tree -/
def Node (D : Addr → Prop) (b : Addr) (o : Obj) : Prop :=
  (∃ xs n, o.data = .seq xs n ∧ (¬ D b ∨ o.cls = .type "tuple")) ∨ (o.cls = .type "range" ∧ ∃ vs, o.data = .fields vs)
theorem Node.ok {D : Addr → Prop} {b : Addr} {o : Obj} (x : Node D b o) : DataOk o.data ∧ (¬ D b ∨ o.cls = .type "tuple" ∨ o.cls = .type "range") := by
  rcases x with ⟨xs, n, hd, hc⟩ | ⟨hc, vs, hd⟩
  · exact ⟨by rw [hd]; trivial, hc.elim .inl fun c => .inr (.inl c)⟩
  · exact ⟨by rw [hd]; trivial, .inr (.inr hc)⟩

mutual
theorem V.move {D D' : Addr → Prop} {h h' : Heap}
    (hk : ∀ b o, h.get? b = some o → Node D b o → h'.get? b = some o)
    (hD : ∀ b o, h.get? b = some o → D' b → D b) : ∀ {x : PV} {v : Value}, V D h x v → V D' h' x v
  | .none, v, e => by rw [V_none] at *; exact e
  | .bool b, v, e => by rw [V_bool] at *; exact e
  | .int i, v, e => by rw [V_int] at *; exact e
  | .str l, v, e => by rw [V_str] at *; exact e
  | .bytes l, v, e => by rw [V_bytes] at *; exact e
  | .obj w, v, e => by rw [V_obj] at *; exact e
  | .ref k, v, e => by rw [V_ref] at *; exact e
  | .rng a b c, v, e => by
    rw [V_rng] at *
    obtain ⟨r, t, u, z, e1, e2⟩ := e
    exact ⟨r, t, u, z, e1, hk _ _ e2 (.inr ⟨rfl, _, rfl⟩)⟩
  | .tup xs, v, e => by
    rw [V_tup] at *
    obtain ⟨a, items, e1, ⟨o, ho, hc, n, hd⟩, e3⟩ := e
    exact ⟨a, items, e1, ⟨o, hk _ _ ho (.inl ⟨_, _, hd, .inr hc⟩), hc, n, hd⟩, Vs.move hk hD e3⟩
  | .lst xs, v, e => by
    rw [V_lst] at *
    obtain ⟨a, items, e1, e2, ⟨o, ho, hc, n, hd⟩, e3⟩ := e
    exact ⟨a, items, e1, fun d => e2 (hD _ _ ho d), ⟨o, hk _ _ ho (.inl ⟨_, _, hd, .inl e2⟩), hc, n, hd⟩, Vs.move hk hD e3⟩
theorem Vs.move {D D' : Addr → Prop} {h h' : Heap}
    (hk : ∀ b o, h.get? b = some o → Node D b o → h'.get? b = some o)
    (hD : ∀ b o, h.get? b = some o → D' b → D b) : ∀ {xs : List PV} {vs : List Value}, Vs D h xs vs → Vs D' h' xs vs
  | [], vs, e => by rw [Vs_nil] at *; exact e
  | x :: xs, vs, e => by
    rw [Vs_cons] at *
    obtain ⟨v, r, e1, e2, e3⟩ := e
    exact ⟨v, r, e1, V.move hk hD e2, Vs.move hk hD e3⟩
end
mutual
/-- growth alone -/
theorem V.grow {D : Addr → Prop} {h h' : Heap} (hk : Kp h h') : ∀ {x : PV} {v : Value}, V D h x v → V D h' x v
  | .none, v, e => by rw [V_none] at *; exact e
  | .bool b, v, e => by rw [V_bool] at *; exact e
  | .int i, v, e => by rw [V_int] at *; exact e
  | .str l, v, e => by rw [V_str] at *; exact e
  | .bytes l, v, e => by rw [V_bytes] at *; exact e
  | .obj w, v, e => by rw [V_obj] at *; exact e
  | .ref k, v, e => by rw [V_ref] at *; exact e
  | .rng a b c, v, e => by
    rw [V_rng] at *
    obtain ⟨r, t, u, z, e1, e2⟩ := e
    exact ⟨r, t, u, z, e1, hk _ _ e2⟩
  | .tup xs, v, e => by
    rw [V_tup] at *
    obtain ⟨a, items, e1, e2, e3⟩ := e
    exact ⟨a, items, e1, e2.keeps hk, Vs.grow hk e3⟩
  | .lst xs, v, e => by
    rw [V_lst] at *
    obtain ⟨a, items, e1, e2, ⟨o, ho, r⟩, e3⟩ := e
    exact ⟨a, items, e1, e2, ⟨o, hk _ _ ho, r⟩, Vs.grow hk e3⟩
theorem Vs.grow {D : Addr → Prop} {h h' : Heap} (hk : Kp h h') : ∀ {xs : List PV} {vs : List Value}, Vs D h xs vs → Vs D h' xs vs
  | [], vs, e => by rw [Vs_nil] at *; exact e
  | x :: xs, vs, e => by
    rw [Vs_cons] at *
    obtain ⟨v, r, e1, e2, e3⟩ := e
    exact ⟨v, r, e1, V.grow hk e2, Vs.grow hk e3⟩
end
mutual
/-- fewer owned addresses (among those that stand) -/
theorem V.less {D D' : Addr → Prop} {h : Heap} (hD : ∀ b o, h.get? b = some o → D' b → D b) : ∀ {x : PV} {v : Value}, V D h x v → V D' h x v
  | .none, v, e => by rw [V_none] at *; exact e
  | .bool b, v, e => by rw [V_bool] at *; exact e
  | .int i, v, e => by rw [V_int] at *; exact e
  | .str l, v, e => by rw [V_str] at *; exact e
  | .bytes l, v, e => by rw [V_bytes] at *; exact e
  | .obj w, v, e => by rw [V_obj] at *; exact e
  | .ref k, v, e => by rw [V_ref] at *; exact e
  | .rng a b c, v, e => by rw [V_rng] at *; exact e
  | .tup xs, v, e => by
    rw [V_tup] at *
    obtain ⟨a, items, e1, e2, e3⟩ := e
    exact ⟨a, items, e1, e2, Vs.less hD e3⟩
  | .lst xs, v, e => by
    rw [V_lst] at *
    obtain ⟨a, items, e1, e2, ⟨o, ho, r⟩, e3⟩ := e
    exact ⟨a, items, e1, fun d => e2 (hD _ _ ho d), ⟨o, ho, r⟩, Vs.less hD e3⟩
theorem Vs.less {D D' : Addr → Prop} {h : Heap} (hD : ∀ b o, h.get? b = some o → D' b → D b) : ∀ {xs : List PV} {vs : List Value}, Vs D h xs vs → Vs D' h xs vs
  | [], vs, e => by rw [Vs_nil] at *; exact e
  | x :: xs, vs, e => by
    rw [Vs_cons] at *
    obtain ⟨v, r, e1, e2, e3⟩ := e
    exact ⟨v, r, e1, V.less hD e2, Vs.less hD e3⟩
end
end Mine

namespace Mine

/-! ## states and judgements -/

inductive PO where
  | list (xs : List PV)
  | barr (l : List UInt8)

abbrev Loc := List (Str × PV)
abbrev Own := List (Addr × PO)

def POat (D : Addr → Prop) (h : Heap) (a : Addr) : PO → Prop
  | .list xs => ∃ items, h.IsList a items ∧ Vs D h xs items.toList
  | .barr l => ∃ o, h.get? a = some o ∧ o.cls = .type "bytearray" ∧ o.data = .bytearray l.toArray 0

structure Cx where
  prog : Program
  w : World
  B : Heap
  gl : List (Str × PV)

def GloV (B : Heap) (x : Str) (v : Value) : Prop :=
  ∃ mg, B.Ns mainGlobals mg ∧ (mg x = some v ∨ (mg x = none ∧ ∃ mb, B.Ns builtinsNs mb ∧ mb x = some v))

structure Cx.Ok (Γ : Cx) : Prop where
  glob : ∀ x p, Γ.gl.lookup x = some p → ∃ v, GloV Γ.B x v ∧ ∀ D h, V D h p v
  nolimit : Γ.B.NoLimit

abbrev Cx.M (Γ : Cx) : Model := model Γ.prog Γ.w

structure Fm where
  L : Addr
  cl : List (Str × Addr)
  q : Str
  f : Option Addr
  cd : Value
  fr : Option Addr
  /-- what the callers own -/
  D : Addr → Prop

/-- owned: by the callers, or here -/
def Dm (F : Fm) (μ : Own) (b : Addr) : Prop := F.D b ∨ b ∈ μ.map (·.1)

abbrev Fm.env (F : Fm) (sc : Scope) : Env :=
  { scope := sc, locals := F.L, globals := mainGlobals, cells := F.cl, qual := F.q, func := F.f, code := F.cd, frame := F.fr, builtins := builtinsNs }

structure Lv (n : Nat) (A : Around) : Prop where
  handled : A.handled = none
  depth : A.depth ≤ 310 + 10 * n
  units : A.units ≤ 100 + 100 * n

structure Gr (s s' : Shared) : Prop where
  keep : Kp s.heap s'.heap
  gens : s'.gens = s.gens
  os : s'.os = s.os
theorem Gr.refl (s : Shared) : Gr s s := ⟨fun _ _ e => e, rfl, rfl⟩
theorem Gr.trans {s s' s'' : Shared} (a : Gr s s') (b : Gr s' s'') : Gr s s'' :=
  ⟨fun x o e => b.keep x o (a.keep x o e), b.gens.trans a.gens, b.os.trans a.os⟩
theorem Gr.toks {s : Shared} (n : Nat) : Gr s { s with toks := n } := ⟨fun _ _ e => e, rfl, rfl⟩
theorem Gr.heap {s : Shared} {h' : Heap} (n : Nat) (hk : Kp s.heap h') : Gr s { s with heap := h', toks := n } := ⟨hk, rfl, rfl⟩
theorem Kp.push (h : Heap) (o : Obj) : Kp h (h.push o) := fun _ _ e => Heap.get?_push_of_some o e
theorem Kp.trans {a b c : Heap} (x : Kp a b) (y : Kp b c) : Kp a c := fun p o e => y p o (x p o e)

structure St (Γ : Cx) (sc : Scope) (F : Fm) (σ : Loc) (μ : Own) (s : Shared) : Prop where
  ok : Γ.Ok
  base : Kp Γ.B s.heap
  ns : ∃ m, s.heap.Ns F.L m ∧ ∀ x v, σ.lookup x = some v → sc.names.lookup x = some .local → ∃ val, m x = some val ∧ V (Dm F μ) s.heap v val
  cel : ∀ x v, σ.lookup x = some v → (sc.names.lookup x = some .cell ∨ sc.names.lookup x = some .free) →
    ∃ c val, F.cl.lookup x = some c ∧ s.heap.IsCell c (some val) ∧ V (Dm F μ) s.heap v val
  own : ∀ a o, (a, o) ∈ μ → POat (Dm F μ) s.heap a o
  dal : ∀ b, F.D b → (s.heap.get? b).isSome

theorem Kp.alive {h h' : Heap} (x : Kp h h') : ∀ b, (h.get? b).isSome → (h'.get? b).isSome := fun b e => by
  obtain ⟨o, ho⟩ := Option.isSome_iff_exists.mp e
  rw [x b o ho]; rfl
theorem POat.grow {D : Addr → Prop} {h h' : Heap} {a : Addr} {o : PO} (hk : Kp h h') (x : POat D h a o) : POat D h' a o := by
  cases o with
  | list xs => obtain ⟨items, ⟨o, ho, r⟩, e⟩ := x; exact ⟨items, ⟨o, hk _ _ ho, r⟩, e.grow hk⟩
  | barr l => obtain ⟨o, ho, r⟩ := x; exact ⟨o, hk _ _ ho, r⟩

theorem St.grow {Γ sc F σ μ s s'} (x : St Γ sc F σ μ s) (g : Gr s s') : St Γ sc F σ μ s' where
  ok := x.ok
  base := x.base.trans g.keep
  ns := let ⟨m, hn, hv⟩ := x.ns; ⟨m, hn.keeps g.keep, fun y v a b => let ⟨val, e, e'⟩ := hv y v a b; ⟨val, e, e'.grow g.keep⟩⟩
  cel := fun y v a b => let ⟨c, val, e1, e2, e3⟩ := x.cel y v a b; ⟨c, val, e1, e2.keeps g.keep, e3.grow g.keep⟩
  own := fun a o hm => (x.own a o hm).grow g.keep
  dal := fun b hb => g.keep.alive b (x.dal b hb)

def Ev (Γ : Cx) (k : Nat) (sc : Scope) (σ : Loc) (μ : Own) (e : Expr) (v : PV) : Prop :=
  ∀ (A : Around) (n : Nat) (F : Fm) (s : Shared) (Q : Value → Shared → Prop) (E : Value → Shared → Prop), n + k ≤ 8 → Lv n A → St Γ sc F σ μ s →
    (∀ val s', Gr s s' → V (Dm F μ) s'.heap v val → Q val s') → wpAny Γ.M A (eval e (F.env sc)) Q E s

/-- a test -/
def Tr (Γ : Cx) (k : Nat) (sc : Scope) (σ : Loc) (μ : Own) (e : Expr) (b : Bool) : Prop :=
  ∀ (A : Around) (n : Nat) (F : Fm) (s : Shared) (Q : Bool → Shared → Prop) (E : Value → Shared → Prop), n + k ≤ 8 → Lv n A → St Γ sc F σ μ s →
    (∀ s', Gr s s' → Q b s') → wpAny Γ.M A (isTrue e (F.env sc) (eval e (F.env sc))) Q E s

/-- the arguments of a call -/
def Es (Γ : Cx) (k : Nat) (sc : Scope) (σ : Loc) (μ : Own) (pos : Pos) (es : List Expr) (vs : List PV) : Prop :=
  ∀ (A : Around) (n : Nat) (F : Fm) (s : Shared) (Q : List Value → Shared → Prop) (E : Value → Shared → Prop), n + k ≤ 8 → Lv n A → St Γ sc F σ μ s →
    (∀ vals s', Gr s s' → Vs (Dm F μ) s'.heap vs vals → Q vals s') → wpAny Γ.M A (spliced (backTo pos (starEach es (F.env sc)))) Q E s

/-- what a call of a value gives: the answer's lists are new -/
def CallOk (Γ : Cx) (k : Nat) (f : Value) (args : List PV) (r : PV) : Prop :=
  ∀ (A : Around) (n : Nat) (D : Addr → Prop) (s : Shared) (vals : List Value) (Q : Value → Shared → Prop) (E : Value → Shared → Prop), n + k ≤ 8 → Lv n A → Γ.Ok → Kp Γ.B s.heap →
    Vs D s.heap args vals → (∀ b, D b → (s.heap.get? b).isSome) → (∀ val s', Gr s s' → V D s'.heap r val → Q val s') → wpAny Γ.M A (call f vals) Q E s

/-! ## expressions -/

section
variable {Γ : Cx} {k : Nat} {sc : Scope} {σ : Loc} {μ : Own} {pos : Pos}

theorem Ev.mono {k' : Nat} {e v} (h : Ev Γ k sc σ μ e v) (hk : k ≤ k') : Ev Γ k' sc σ μ e v :=
  fun A n F s Q E hn => h A n F s Q E (by omega)

def isVar : Option NameKind → Bool
  | some .local | some .cell | some .free => true
  | _ => false

theorem Ev.name {x : Str} {v : PV} (h : σ.lookup x = some v) (hl : isVar (sc.names.lookup x) = true := by decide +kernel) (hk : sc.kind = .function := by kernel_rfl)
    (hd : (x == ("__debug__" : Str)) = false := by decide +kernel) (hc : (x == ("__classdict__" : Str)) = false := by decide +kernel) : Ev Γ k sc σ μ (.Name x pos) v := by
  intro A n F s Q E _ _ st hQ
  have hk' : (F.env sc).scope.kind = .function := hk
  refine wpAny_Name ?_ hd
  cases hn : sc.names.lookup x with
  | none => rw [hn] at hl; cases hl
  | some kd =>
    rw [hn] at hl
    have hkd : (F.env sc).kindOf x = some kd := hn
    cases kd with
    | «local» =>
      obtain ⟨m, hm, hv⟩ := st.ns
      obtain ⟨val, e, ev⟩ := hv x v h hn
      exact wpAny_loadName_local hk' hkd hm e (hQ _ _ (Gr.refl s) ev)
    | cell =>
      obtain ⟨c, val, e1, e2, e3⟩ := st.cel x v h (.inl hn)
      exact wpAny_loadName_cell hk' hkd e1 e2 (hQ _ _ (Gr.refl s) e3)
    | free =>
      obtain ⟨c, val, e1, e2, e3⟩ := st.cel x v h (.inr hn)
      exact wpAny_loadName_free hk' hkd e1 e2 (hQ _ _ (Gr.refl s) e3) hc
    | _ => cases hl

theorem Ev.glob {x : Str} {v : PV} (h : Γ.gl.lookup x = some v) (hl : sc.names.lookup x = some .globalImplicit := by kernel_rfl) (hk : sc.kind = .function := by kernel_rfl)
    (hd : (x == ("__debug__" : Str)) = false := by decide +kernel) : Ev Γ k sc σ μ (.Name x pos) v := by
  intro A n F s Q E _ _ st hQ
  obtain ⟨val, ⟨mg, hg, hx⟩, hv⟩ := st.ok.glob x v h
  have hq : Q val s := hQ _ _ (Gr.refl s) (hv _ _)
  refine Name_function_global (env := F.env sc) hk hl ?_ hd
  rcases hx with hx | ⟨hx, mb, hb, hy⟩
  · exact loadGlobal_global (env := F.env sc) (hg.keeps st.base) hx hq
  · exact loadGlobal_builtin (env := F.env sc) (hg.keeps st.base) hx (hb.keeps st.base) hy hq

theorem Ev.cint {i : Int} {kd : Nat} : Ev Γ k sc σ μ (.Constant (.int i) kd pos) (.int i) :=
  fun _ _ _ _ _ _ _ _ _ hQ => wpAny_Constant_int (hQ _ _ (Gr.toks _) (V.int _ _))
theorem Ev.cbool {b : Bool} {kd : Nat} : Ev Γ k sc σ μ (.Constant (.bool b) kd pos) (.bool b) :=
  fun _ _ _ _ _ _ _ _ _ hQ => wpAny_Constant_bool (hQ _ _ (Gr.refl _) (V.bool _))
theorem Ev.cnone {kd : Nat} : Ev Γ k sc σ μ (.Constant .none kd pos) .none :=
  fun _ _ _ _ _ _ _ _ _ hQ => wpAny_Constant_none (hQ _ _ (Gr.refl _) V.none)
theorem Ev.cstr {x : Str} {kd : Nat} {l : List Nat} (e : x.cps.toList = l) : Ev Γ k sc σ μ (.Constant (.str x) kd pos) (.str l) := by
  intro _ _ _ _ _ _ _ _ _ hQ
  refine wpAny_Constant_str (hQ _ _ (Gr.toks _) ?_)
  subst e; exact V_str.mpr ⟨_, rfl⟩
theorem Ev.cbytes {b : List UInt8} {kd : Nat} : Ev Γ k sc σ μ (.Constant (.bytes b) kd pos) (.bytes b) := by
  intro _ _ _ s _ _ _ _ _ hQ
  exact fun _ _ _ => hQ (.bytes b.toArray s.toks) { s with toks := s.toks + 1 } (Gr.toks _) (V.bytes _ _)

/-- two operands and an operation on values -/
def Op2 (Γ : Cx) (f : Value → Value → Sem Value) (a b r : PV) : Prop :=
  ∀ (A : Around) (n : Nat) (D : Addr → Prop) (s : Shared) (x y : Value) (Q : Value → Shared → Prop) (E : Value → Shared → Prop), n ≤ 8 → Lv n A → Γ.Ok → Kp Γ.B s.heap → V D s.heap a x → V D s.heap b y → (∀ b, D b → (s.heap.get? b).isSome) →
    (∀ val s', Gr s s' → V D s'.heap r val → Q val s') → wpAny Γ.M A (f x y) Q E s

theorem St.dom {Γ sc F σ μ s} (st : St Γ sc F σ μ s) : ∀ b, Dm F μ b → (s.heap.get? b).isSome := by
  intro b hb
  rcases hb with hb | hb
  · exact st.dal b hb
  obtain ⟨p, hp, rfl⟩ := List.mem_map.mp hb
  have := st.own p.1 p.2 hp
  cases hq : p.2 with
  | list xs => rw [hq] at this; obtain ⟨items, ⟨o, ho, _⟩, _⟩ := this; rw [ho]; rfl
  | barr l => rw [hq] at this; obtain ⟨o, ho, _⟩ := this; rw [ho]; rfl

theorem Ev.bin {l r : Expr} {op : Operator} {a b c : PV} (hl : Ev Γ k sc σ μ l a) (hr : Ev Γ k sc σ μ r b) (ho : Op2 Γ (binaryOp op) a b c) : Ev Γ k sc σ μ (.BinOp l op r pos) c := by
  intro A n F s Q E hn hA st hQ
  refine wpAny_BinOp (hl A n F s _ _ hn hA st fun x s₁ g₁ hx => ?_)
  refine hr A n F s₁ _ _ hn hA (st.grow g₁) fun y s₂ g₂ hy => ?_
  exact ho A n _ s₂ x y _ _ (by omega) hA st.ok ((st.grow g₁).grow g₂).base (hx.grow g₂.keep) hy ((st.grow g₁).grow g₂).dom fun v s₃ g₃ hv => hQ v s₃ ((g₁.trans g₂).trans g₃) hv

theorem Ev.cmp {l r : Expr} {op : CmpOp} {a b c : PV} (hl : Ev Γ k sc σ μ l a) (hr : Ev Γ k sc σ μ r b) (ho : Op2 Γ (compareOp op) a b c)
    (hm : behindInMarks op r = false := by kernel_rfl) : Ev Γ k sc σ μ (.Compare l [op] [r] pos) c := by
  intro A n F s Q E hn hA st hQ
  refine wpAny_Compare1 (hl A n F s _ _ hn hA st fun x s₁ g₁ hx => ?_) hm
  refine hr A n F s₁ _ _ hn hA (st.grow g₁) fun y s₂ g₂ hy => ?_
  exact ho A n _ s₂ x y _ _ (by omega) hA st.ok ((st.grow g₁).grow g₂).base (hx.grow g₂.keep) hy ((st.grow g₁).grow g₂).dom fun v s₃ g₃ hv => hQ v s₃ ((g₁.trans g₂).trans g₃) hv

theorem Tr.cmp {l r : Expr} {op : CmpOp} {a b : PV} {c : Bool} (hl : Ev Γ k sc σ μ l a) (hr : Ev Γ k sc σ μ r b) (ho : Op2 Γ (compareOp op) a b (.bool c))
    (hm : behindInMarks op r = false := by kernel_rfl) : Tr Γ k sc σ μ (.Compare l [op] [r] pos) c := by
  intro A n F s Q E hn hA st hQ
  refine wpAny_isTrue_Compare1 (hl A n F s _ _ hn hA st fun x s₁ g₁ hx => ?_) hm
  refine hr A n F s₁ _ _ hn hA (st.grow g₁) fun y s₂ g₂ hy => ?_
  refine ho A n _ s₂ x y _ _ (by omega) hA st.ok ((st.grow g₁).grow g₂).base (hx.grow g₂.keep) hy ((st.grow g₁).grow g₂).dom fun v s₃ g₃ hv => ?_
  rw [V_bool] at hv; subst hv
  exact wpAny_truthy_bool (hQ s₃ ((g₁.trans g₂).trans g₃))

/-- `a <= x <= b` -/
theorem Tr.cmp2 {l r t : Expr} {op op' : CmpOp} {a b d : PV} {c c' : Bool} (hl : Ev Γ k sc σ μ l a) (hr : Ev Γ k sc σ μ r b) (ho : Op2 Γ (compareOp op) a b (.bool c))
    (ht : c = true → Ev Γ k sc σ μ t d) (ho' : c = true → Op2 Γ (compareOp op') b d (.bool c'))
    (hm : ∀ env, markedEach [op, op'] [r, t] (evalEach [r, t] env) = [eval r env, eval t env] := by intro _; kernel_rfl) : Tr Γ k sc σ μ (.Compare l [op, op'] [r, t] pos) (c && c') := by
  intro A n F s Q E hn hA st hQ
  show wpAny _ _ (do testChain pos (← eval l (F.env sc)) [op, op'] (markedEach [op, op'] [r, t] (evalEach [r, t] (F.env sc)))) Q E s
  rw [hm]
  refine wpAny_bind (hl A n F s _ _ hn hA st fun x s₁ g₁ hx => ?_)
  show wpAny _ _ (do
    let rv ← holding [x] (eval r (F.env sc))
    standAt pos
    let c ← holding [x, rv] (compareOp op x rv)
    release [x, rv] [c]
    if ← holding [c, rv] (truthy c) then testChain pos rv [op'] [eval t (F.env sc)] else pure false) Q E s₁
  refine wpAny_bind (wpAny_holding (hr A n F s₁ _ _ hn hA (st.grow g₁) fun y s₂ g₂ hy => wpAny_bind (wpAny_standAt (wpAny_bind (wpAny_holding ?_)))))
  refine ho A n _ s₂ x y _ _ (by omega) hA st.ok ((st.grow g₁).grow g₂).base (hx.grow g₂.keep) hy ((st.grow g₁).grow g₂).dom fun v s₃ g₃ hv => ?_
  rw [V_bool] at hv; subst hv
  refine wpAny_bind (wpAny_release' ?_)
  refine wpAny_bind (wpAny_holding (wpAny_truthy_bool ?_))
  cases c with
  | false => exact wpAny_pure (hQ s₃ ((g₁.trans g₂).trans g₃))
  | true =>
    simp only [if_true]
    show wpAny _ _ (do
      let rv ← holding [y] (eval t (F.env sc))
      standAt pos
      let c ← operate [y, rv] (compareOp op' y rv)
      holding [c] (truthy c)) Q E s₃
    refine wpAny_bind (wpAny_holding (ht rfl A n F s₃ _ _ hn hA (((st.grow g₁).grow g₂).grow g₃) fun z s₄ g₄ hz => wpAny_bind (wpAny_standAt (wpAny_bind ?_))))
    refine wpAny_operate' ?_
    refine ho' rfl A n _ s₄ y z _ _ (by omega) hA st.ok ((((st.grow g₁).grow g₂).grow g₃).grow g₄).base ((hy.grow g₃.keep).grow g₄.keep) hz ((((st.grow g₁).grow g₂).grow g₃).grow g₄).dom fun v s₅ g₅ hv => ?_
    rw [V_bool] at hv; subst hv
    exact wpAny_holding (wpAny_truthy_bool (hQ s₅ ((((g₁.trans g₂).trans g₃).trans g₄).trans g₅)))

/-- a value's truth -/
def Truth (Γ : Cx) (a : PV) (b : Bool) : Prop :=
  ∀ (A : Around) (n : Nat) (D : Addr → Prop) (s : Shared) (x : Value) (Q : Bool → Shared → Prop) (E : Value → Shared → Prop), n ≤ 8 → Lv n A → Kp Γ.B s.heap → V D s.heap a x → (∀ s', Gr s s' → Q b s') → wpAny Γ.M A (truthy x) Q E s

theorem Tr.val {e : Expr} {a : PV} {b : Bool} (h : Ev Γ k sc σ μ e a) (ht : Truth Γ a b)
    (he : ∀ env, isTrue e env (eval e env) = (do let v ← eval e env; standAt e.pos; holding [v] (truthy v)) := by intro _; kernel_rfl) : Tr Γ k sc σ μ e b := by
  intro A n F s Q E hn hA st hQ
  refine wpAny_isTrue_value (h A n F s _ _ hn hA st fun x s₁ g₁ hx => ?_) (he _)
  exact ht A n _ s₁ x _ _ (by omega) hA (st.grow g₁).base hx fun s₂ g₂ => hQ s₂ (g₁.trans g₂)
theorem Truth.bool {b : Bool} : Truth Γ (.bool b) b := by
  intro A n D s x Q E _ _ _ hx hQ
  rw [V_bool] at hx; subst hx
  exact wpAny_truthy_bool (hQ s (Gr.refl s))
theorem Tr.not {e : Expr} {b : Bool} (h : Tr Γ k sc σ μ e b) : Tr Γ k sc σ μ (.UnaryOp .Not e pos) (!b) := by
  intro A n F s Q E hn hA st hQ
  exact wpAny_isTrue_Not (h A n F s _ _ hn hA st fun s₁ g₁ => hQ s₁ g₁)
theorem Tr.and2 {e f : Expr} {a b : Bool} (he : Tr Γ k sc σ μ e a) (hf : a = true → Tr Γ k sc σ μ f b) : Tr Γ k sc σ μ (.BoolOp .And [e, f] pos) (a && b) := by
  intro A n F s Q E hn hA st hQ
  refine wpAny_isTrue_BoolOp (wpAny_allTrue_And_cons (he A n F s _ _ hn hA st fun s₁ g₁ => ?_))
  cases a with
  | false => exact hQ s₁ g₁
  | true =>
    refine wpAny_allTrue_And_cons (hf rfl A n F s₁ _ _ hn hA (st.grow g₁) fun s₂ g₂ => ?_)
    cases b with
    | false => exact hQ s₂ (g₁.trans g₂)
    | true => exact wpAny_allTrue_And_nil (hQ s₂ (g₁.trans g₂))
theorem Tr.or2 {e f : Expr} {a b : Bool} (he : Tr Γ k sc σ μ e a) (hf : a = false → Tr Γ k sc σ μ f b) : Tr Γ k sc σ μ (.BoolOp .Or [e, f] pos) (a || b) := by
  intro A n F s Q E hn hA st hQ
  refine wpAny_isTrue_BoolOp (wpAny_allTrue_Or_cons (he A n F s _ _ hn hA st fun s₁ g₁ => ?_))
  cases a with
  | true => exact hQ s₁ g₁
  | false =>
    refine wpAny_allTrue_Or_cons (hf rfl A n F s₁ _ _ hn hA (st.grow g₁) fun s₂ g₂ => ?_)
    cases b with
    | true => exact hQ s₂ (g₁.trans g₂)
    | false => exact wpAny_allTrue_Or_nil (hQ s₂ (g₁.trans g₂))

theorem Ev.ifexp {t a b : Expr} {c : Bool} {v : PV} (ht : Tr Γ k sc σ μ t c) (ha : c = true → Ev Γ k sc σ μ a v) (hb : c = false → Ev Γ k sc σ μ b v) : Ev Γ k sc σ μ (.IfExp t a b pos) v := by
  intro A n F s Q E hn hA st hQ
  refine wpAny_IfExp (ht A n F s _ _ hn hA st fun s₁ g₁ => ?_)
  cases c with
  | true => exact ha rfl A n F s₁ _ _ hn hA (st.grow g₁) fun v s₂ g₂ hv => hQ v s₂ (g₁.trans g₂) hv
  | false => exact hb rfl A n F s₁ _ _ hn hA (st.grow g₁) fun v s₂ g₂ hv => hQ v s₂ (g₁.trans g₂) hv

theorem Ev.neg {e : Expr} {i : Int} (h : Ev Γ k sc σ μ e (.int i)) : Ev Γ k sc σ μ (.UnaryOp .USub e pos) (.int (-i)) := by
  intro A n F s Q E hn hA st hQ
  refine wpAny_UnaryOp (h A n F s _ _ hn hA st fun v s₁ g₁ hv => ?_)
  obtain ⟨t, rfl⟩ := V_int.mp hv
  exact neg_int (hQ _ _ (g₁.trans (Gr.toks _)) (V.int _ _))

theorem Es.nil : Es Γ k sc σ μ pos [] [] := fun _ _ _ s _ _ _ _ _ hQ => wpAny_items_nil (hQ _ _ (Gr.refl s) (Vs_nil.mpr rfl))
theorem Es.cons {e : Expr} {es : List Expr} {v : PV} {vs : List PV} (h : Ev Γ k sc σ μ e v) (hs : Es Γ k sc σ μ pos es vs)
    (he : ∀ env, starEach (e :: es) env = (false, eval e env) :: starEach es env := by intro _; kernel_rfl) : Es Γ k sc σ μ pos (e :: es) (v :: vs) := by
  intro A n F s Q E hn hA st hQ
  refine wpAny_items_cons (h A n F s _ _ hn hA st fun x s₁ g₁ hx => ?_) (he _)
  exact hs A n F s₁ _ _ hn hA (st.grow g₁) fun xs s₂ g₂ hxs => hQ _ s₂ (g₁.trans g₂) (Vs_cons.mpr ⟨x, xs, rfl, hx.grow g₂.keep, hxs⟩)
end

/-! ## operations on ints -/
section
variable {Γ : Cx} {a b : Int}
theorem Op2.add : Op2 Γ (binaryOp .Add) (.int a) (.int b) (.int (a + b)) := by
  intro A n D s x y Q E _ _ _ _ hx hy _ hQ
  obtain ⟨t, rfl⟩ := V_int.mp hx; obtain ⟨u, rfl⟩ := V_int.mp hy
  exact PyProof.Rows.add_int (hQ _ _ (Gr.toks _) (V.int _ _))
theorem Op2.sub : Op2 Γ (binaryOp .Sub) (.int a) (.int b) (.int (a - b)) := by
  intro A n D s x y Q E _ _ _ _ hx hy _ hQ
  obtain ⟨t, rfl⟩ := V_int.mp hx; obtain ⟨u, rfl⟩ := V_int.mp hy
  exact PyProof.Rows.sub_int (hQ _ _ (Gr.toks _) (V.int _ _))
theorem Op2.mul (hm : IntMulOk a b) : Op2 Γ (binaryOp .Mult) (.int a) (.int b) (.int (a * b)) := by
  intro A n D s x y Q E _ _ _ _ hx hy _ hQ
  obtain ⟨t, rfl⟩ := V_int.mp hx; obtain ⟨u, rfl⟩ := V_int.mp hy
  exact PyProof.Rows.mul_int (hQ _ _ (Gr.toks _) (V.int _ _)) hm
theorem Op2.fdiv (hb : 0 < b) (hs : b < 2 ^ 64) : Op2 Γ (binaryOp .FloorDiv) (.int a) (.int b) (.int (a / b)) := by
  intro A n D s x y Q E _ _ _ _ hx hy _ hQ
  obtain ⟨t, rfl⟩ := V_int.mp hx; obtain ⟨u, rfl⟩ := V_int.mp hy
  refine PyProof.Rows.floordiv_int (by omega) ?_ (.inl (PyProof.noPylong_of_log2 ?_))
  · rw [Int.fdiv_eq_ediv_of_nonneg _ (by omega)]; exact hQ _ _ (Gr.toks _) (V.int _ _)
  · have : b.natAbs < 2 ^ 64 := by omega
    have h1 : b.natAbs.log2 < 64 := (Nat.log2_lt (by omega)).mpr this
    omega
theorem Op2.mod (hb : 0 < b) : Op2 Γ (binaryOp .Mod) (.int a) (.int b) (.int (a % b)) := by
  intro A n D s x y Q E _ _ _ _ hx hy _ hQ
  obtain ⟨t, rfl⟩ := V_int.mp hx; obtain ⟨u, rfl⟩ := V_int.mp hy
  refine PyProof.Rows.mod_int' (by omega) ?_
  rw [Int.fmod_eq_emod_of_nonneg _ (by omega)]; exact hQ _ _ (Gr.toks _) (V.int _ _)
theorem Op2.pow {m : Nat} (hm : m ≤ 1000000) (ha : a.natAbs < 2 ^ 64) (hb : b = (m : Int)) : Op2 Γ (binaryOp .Pow) (.int a) (.int b) (.int (a ^ m)) := by
  intro A n D s x y Q E _ _ _ _ hx hy _ hQ
  obtain ⟨t, rfl⟩ := V_int.mp hx; obtain ⟨u, rfl⟩ := V_int.mp hy
  subst hb
  refine PyProof.Rows.pow_int_small (by omega) (by omega) ha ?_
  exact hQ _ _ (Gr.toks _) (by simpa using V.int (a ^ m) _)
theorem Op2.lt : Op2 Γ (compareOp .Lt) (.int a) (.int b) (.bool (decide (a < b))) := by
  intro A n D s x y Q E _ _ _ _ hx hy _ hQ
  obtain ⟨t, rfl⟩ := V_int.mp hx; obtain ⟨u, rfl⟩ := V_int.mp hy
  exact PyProof.Rows.lt_int (hQ _ _ (Gr.refl _) (V.bool _))
theorem Op2.gt : Op2 Γ (compareOp .Gt) (.int a) (.int b) (.bool (decide (b < a))) := by
  intro A n D s x y Q E _ _ _ _ hx hy _ hQ
  obtain ⟨t, rfl⟩ := V_int.mp hx; obtain ⟨u, rfl⟩ := V_int.mp hy
  exact PyProof.Rows.gt_int (hQ _ _ (Gr.refl _) (V.bool _))
theorem Op2.eq : Op2 Γ (compareOp .Eq) (.int a) (.int b) (.bool (decide (a = b))) := by
  intro A n D s x y Q E _ _ _ _ hx hy _ hQ
  obtain ⟨t, rfl⟩ := V_int.mp hx; obtain ⟨u, rfl⟩ := V_int.mp hy
  refine PyProof.Rows.eq_int ?_
  have := hQ (.bool (decide (a = b))) s (Gr.refl _) (V.bool _)
  rwa [show (a == b) = decide (a = b) from by rw [Bool.eq_iff_iff]; simp]
theorem Op2.ne : Op2 Γ (compareOp .NotEq) (.int a) (.int b) (.bool (decide (a ≠ b))) := by
  intro A n D s x y Q E _ _ _ _ hx hy _ hQ
  obtain ⟨t, rfl⟩ := V_int.mp hx; obtain ⟨u, rfl⟩ := V_int.mp hy
  refine PyProof.Rows.ne_int ?_
  have := hQ (.bool (decide (a ≠ b))) s (Gr.refl _) (V.bool _)
  rwa [show (a != b) = decide (a ≠ b) from by rw [Bool.eq_iff_iff]; simp]
theorem Op2.le : Op2 Γ (compareOp .LtE) (.int a) (.int b) (.bool (decide (a ≤ b))) := by
  intro A n D s x y Q E _ _ _ _ hx hy _ hQ
  obtain ⟨t, rfl⟩ := V_int.mp hx; obtain ⟨u, rfl⟩ := V_int.mp hy
  exact PyProof.Rows.le_int (hQ _ _ (Gr.refl _) (V.bool _))
theorem Op2.ge : Op2 Γ (compareOp .GtE) (.int a) (.int b) (.bool (decide (b ≤ a))) := by
  intro A n D s x y Q E _ _ _ _ hx hy _ hQ
  obtain ⟨t, rfl⟩ := V_int.mp hx; obtain ⟨u, rfl⟩ := V_int.mp hy
  exact PyProof.Rows.ge_int (hQ _ _ (Gr.refl _) (V.bool _))
theorem Op2.iadd : Op2 Γ (inplaceOp .Add) (.int a) (.int b) (.int (a + b)) := by
  intro A n D s x y Q E _ _ _ _ hx hy _ hQ
  obtain ⟨t, rfl⟩ := V_int.mp hx; obtain ⟨u, rfl⟩ := V_int.mp hy
  exact PyProof.Rows.iadd_int (hQ _ _ (Gr.toks _) (V.int _ _))
theorem Op2.isub : Op2 Γ (inplaceOp .Sub) (.int a) (.int b) (.int (a - b)) := by
  intro A n D s x y Q E _ _ _ _ hx hy _ hQ
  obtain ⟨t, rfl⟩ := V_int.mp hx; obtain ⟨u, rfl⟩ := V_int.mp hy
  exact PyProof.Rows.isub_int (hQ _ _ (Gr.toks _) (V.int _ _))
theorem Op2.imul (hm : IntMulOk a b) : Op2 Γ (inplaceOp .Mult) (.int a) (.int b) (.int (a * b)) := by
  intro A n D s x y Q E _ _ _ _ hx hy _ hQ
  obtain ⟨t, rfl⟩ := V_int.mp hx; obtain ⟨u, rfl⟩ := V_int.mp hy
  exact PyProof.Rows.imul_int (hQ _ _ (Gr.toks _) (V.int _ _)) hm
theorem Op2.ifdiv (hb : 0 < b) (hs : b < 2 ^ 64) : Op2 Γ (inplaceOp .FloorDiv) (.int a) (.int b) (.int (a / b)) := by
  intro A n D s x y Q E _ _ _ _ hx hy _ hQ
  obtain ⟨t, rfl⟩ := V_int.mp hx; obtain ⟨u, rfl⟩ := V_int.mp hy
  refine PyProof.Rows.ifloordiv_int (by omega) ?_ (.inl (PyProof.noPylong_of_log2 ?_))
  · rw [Int.fdiv_eq_ediv_of_nonneg _ (by omega)]; exact hQ _ _ (Gr.toks _) (V.int _ _)
  · have : b.natAbs < 2 ^ 64 := by omega
    have h1 : b.natAbs.log2 < 64 := (Nat.log2_lt (by omega)).mpr this
    omega
end
end Mine

namespace Mine

/-! ## statements -/

structure Sx (Γ : Cx) (h₀ : Heap) (sc : Scope) (F : Fm) (σ : Loc) (μ : Own) (s : Shared) : Prop extends St Γ sc F σ μ s where
  keep : Kp h₀ s.heap
  baseh : Kp Γ.B h₀
  newL : h₀.get? F.L = none
  cells : ∀ x, sc.names.lookup x = some .cell → ∃ c v, F.cl.lookup x = some c ∧ h₀.get? c = none ∧ s.heap.IsCell c v
  cellsAll : ∀ x c, F.cl.lookup x = some c → ∃ v, s.heap.IsCell c v
  cellsApart : ∀ x y c, F.cl.lookup x = some c → F.cl.lookup y = some c → x = y
  ownNew : ∀ b, b ∈ μ.map (·.1) → h₀.get? b = none
  dold : ∀ b, F.D b → (h₀.get? b).isSome
  apart : (μ.map (·.1)).Nodup

inductive Fl where
  | next | brk | cont
  | ret (v : PV)

def FlV (D : Addr → Prop) (h : Heap) : Fl → Flow → Prop
  | .next, f => f = .next
  | .brk, f => f = .brk
  | .cont, f => f = .cont
  | .ret v, f => ∃ val, f = .ret val ∧ V D h v val

structure Sp (F : Fm) (μ μ' : Own) (s s' : Shared) : Prop where
  keep : ∀ b o, s.heap.get? b = some o → b ≠ F.L → (∀ x, F.cl.lookup x ≠ some b) → ¬ Dm F μ b → s'.heap.get? b = some o
  alive : ∀ b, (s.heap.get? b).isSome → (s'.heap.get? b).isSome
  dom : ∀ b, (s.heap.get? b).isSome → Dm F μ' b → Dm F μ b
  gens : s'.gens = s.gens
  os : s'.os = s.os

theorem Sp.refl (F : Fm) (μ : Own) (s : Shared) : Sp F μ μ s s := ⟨fun _ _ e _ _ _ => e, fun _ e => e, fun _ _ e => e, rfl, rfl⟩
theorem Sp.gr {F : Fm} {μ : Own} {s s' : Shared} (g : Gr s s') : Sp F μ μ s s' := ⟨fun b o e _ _ _ => g.keep b o e, g.keep.alive, fun _ _ e => e, g.gens, g.os⟩
theorem Sp.trans {F : Fm} {μ μ' μ'' : Own} {s s' s'' : Shared} (a : Sp F μ μ' s s') (b : Sp F μ' μ'' s' s'') : Sp F μ μ'' s s'' where
  keep := fun x o e h1 h2 h3 => b.keep x o (a.keep x o e h1 h2 h3) h1 h2 fun d => h3 (a.dom x (by rw [e]; rfl) d)
  alive := fun x e => b.alive x (a.alive x e)
  dom := fun x e d => a.dom x e (b.dom x (a.alive x e) d)
  gens := b.gens.trans a.gens
  os := b.os.trans a.os

def Xs (Γ : Cx) (k : Nat) (sc : Scope) (σ : Loc) (μ : Own) (sts : List Stmt) (P : Fl → Loc → Own → Prop) : Prop :=
  ∀ (A : Around) (n : Nat) (F : Fm) (h₀ : Heap) (s : Shared) (Q : Flow → Shared → Prop) (E : Value → Shared → Prop), n + k ≤ 8 → Lv n A → Sx Γ h₀ sc F σ μ s →
    (∀ fl σ' μ' f s', P fl σ' μ' → Sx Γ h₀ sc F σ' μ' s' → Sp F μ μ' s s' → FlV (Dm F μ') s'.heap fl f → Q f s') → wpAny Γ.M A (execs sts (F.env sc)) Q E s
def X1 (Γ : Cx) (k : Nat) (sc : Scope) (σ : Loc) (μ : Own) (st : Stmt) (P : Fl → Loc → Own → Prop) : Prop :=
  ∀ (A : Around) (n : Nat) (F : Fm) (h₀ : Heap) (s : Shared) (Q : Flow → Shared → Prop) (E : Value → Shared → Prop), n + k ≤ 8 → Lv n A → Sx Γ h₀ sc F σ μ s →
    (∀ fl σ' μ' f s', P fl σ' μ' → Sx Γ h₀ sc F σ' μ' s' → Sp F μ μ' s s' → FlV (Dm F μ') s'.heap fl f → Q f s') → wpAny Γ.M A (exec st (F.env sc)) Q E s

theorem Sx.grow {Γ h₀ sc F σ μ s s'} (x : Sx Γ h₀ sc F σ μ s) (g : Gr s s') : Sx Γ h₀ sc F σ μ s' :=
  { x.toSt.grow g with
    keep := x.keep.trans g.keep
    baseh := x.baseh
    newL := x.newL
    cells := fun y e => let ⟨c, v, a, b, d⟩ := x.cells y e; ⟨c, v, a, b, d.keeps g.keep⟩
    cellsAll := fun y c e => let ⟨v, d⟩ := x.cellsAll y c e; ⟨v, d.keeps g.keep⟩
    cellsApart := x.cellsApart
    ownNew := x.ownNew
    dold := x.dold
    apart := x.apart }

/-- what an update of an object that no tree reads leaves -/
theorem V.same {D : Addr → Prop} {h h' : Heap} {c : Addr} {o : Obj} (hs : Heap.SameBut c h h') (ho : h.get? c = some o) (hd : ¬ DataOk o.data) {x : PV} {v : Value} (e : V D h x v) : V D h' x v :=
  V.move (fun b o' hb hd' => (hs.2 b (fun q => by subst q; rw [ho] at hb; cases hb; exact hd hd'.ok.1)).trans hb) (fun _ _ _ d => d) e
theorem Vs.same {D : Addr → Prop} {h h' : Heap} {c : Addr} {o : Obj} (hs : Heap.SameBut c h h') (ho : h.get? c = some o) (hd : ¬ DataOk o.data) {x : List PV} {v : List Value} (e : Vs D h x v) : Vs D h' x v :=
  Vs.move (fun b o' hb hd' => (hs.2 b (fun q => by subst q; rw [ho] at hb; cases hb; exact hd hd'.ok.1)).trans hb) (fun _ _ _ d => d) e
theorem POat.same {D : Addr → Prop} {h h' : Heap} {c a : Addr} {o : Obj} {p : PO} (hs : Heap.SameBut c h h') (ho : h.get? c = some o) (hd : ¬ DataOk o.data) (hb : ∀ l n, o.data ≠ .bytearray l n) (e : POat D h a p) : POat D h' a p := by
  cases p with
  | list xs =>
    obtain ⟨items, ⟨o', ho', hc, n, hd'⟩, e⟩ := e
    refine ⟨items, ⟨o', (hs.2 a (fun q => ?_)).trans ho', hc, n, hd'⟩, e.same hs ho hd⟩
    subst q; rw [ho] at ho'; cases ho'; rw [hd'] at hd; exact hd trivial
  | barr l =>
    obtain ⟨o', ho', hc, hd'⟩ := e
    refine ⟨o', (hs.2 a (fun q => ?_)).trans ho', hc, hd'⟩
    subst q; rw [ho] at ho'; cases ho'; exact hb _ _ hd'

section
variable {Γ : Cx} {k : Nat} {sc : Scope} {σ : Loc} {μ : Own} {pos : Pos} {P : Fl → Loc → Own → Prop} {A : Around} {F : Fm} {h₀ : Heap} {s : Shared} {E : Value → Shared → Prop}

theorem lookup_cons_ne {x y : Str} {v : PV} {σ : Loc} (h : y ≠ x) : ((x, v) :: σ : Loc).lookup y = σ.lookup y := by
  rw [List.lookup_cons]
  have : (y == x) = false := beq_eq_false_iff_ne.mpr h
  rw [this]
theorem lookup_cons_self {x : Str} {v : PV} {σ : Loc} : ((x, v) :: σ : Loc).lookup x = some v := by
  rw [List.lookup_cons]; simp

def isPlace : Option NameKind → Bool
  | some .local | some .cell => true
  | _ => false

theorem Sx.store {x : Str} {v : PV} {val : Value} {Q : Unit → Shared → Prop} (X : Sx Γ h₀ sc F σ μ s) (hv : V (Dm F μ) s.heap v val) (hl : isPlace (sc.names.lookup x) = true) (hk : sc.kind = .function)
    (hQ : ∀ s', Sx Γ h₀ sc F ((x, v) :: σ) μ s' → Sp F μ μ s s' → V (Dm F μ) s'.heap v val → Q () s') : wpAny Γ.M A (storeName (F.env sc) x val) Q E s := by
  obtain ⟨m, hn, hvs⟩ := X.ns
  obtain ⟨oL, es, ep, hoL, hdL, hkL, hfL⟩ := id hn
  have hnotL : ¬ DataOk oL.data := by rw [hdL]; exact id
  have hbL : ∀ l n, oL.data ≠ .bytearray l n := by rw [hdL]; intro _ _ q; cases q
  cases hx : sc.names.lookup x with
  | none => rw [hx] at hl; cases hl
  | some kd =>
    rw [hx] at hl
    have hkd : (F.env sc).kindOf x = some kd := hx
    cases kd with
    | «local» =>
      refine wpAny_storeName_local (env := F.env sc) hkd hn (fun h' hn' hs => ?_) (by show (sc.kind == .class || (sc.kind == .module && _)) = false; rw [hk]; rfl)
      have hne : ∀ b o, h₀.get? b = some o → b ≠ F.L := fun b o e q => by rw [q, X.newL] at e; cases e
      have hcell : ∀ c w, s.heap.IsCell c w → c ≠ F.L := fun c w ⟨o, ho, hd⟩ q => by subst q; rw [hoL] at ho; cases ho; rw [hdL] at hd; cases hd
      have hv' := hv.same hs hoL hnotL
      have halive : ∀ b, (s.heap.get? b).isSome → (h'.get? b).isSome := fun b e => by
        by_cases q : b = F.L
        · subst q; obtain ⟨o', _, _, ho', _⟩ := hn'; rw [ho']; rfl
        · rw [hs.2 b q]; exact e
      refine hQ _ ⟨⟨X.ok, fun b o e => (hs.2 b (hne b o (X.baseh b o e))).trans (X.base b o e), ⟨_, hn', fun y w a b => ?_⟩, fun y w a b => ?_, fun a o hm => (X.own a o hm).same hs hoL hnotL hbL, fun b hb => halive b (X.dal b hb)⟩,
        fun b o e => (hs.2 b (hne b o e)).trans (X.keep b o e), X.baseh, X.newL, fun y e => ?_, fun y c' e => ?_, X.cellsApart, X.ownNew, X.dold, X.apart⟩
        ⟨fun b o e h1 _ _ => (hs.2 b h1).trans e, fun b e => ?_, fun _ _ e => e, rfl, rfl⟩ hv'
      · by_cases q : y = x
        · subst q; rw [lookup_cons_self] at a; cases a; exact ⟨val, if_pos rfl, hv'⟩
        · rw [lookup_cons_ne q] at a
          obtain ⟨w', e1, e2⟩ := hvs y w a b
          exact ⟨w', by show (if y = x then some val else m y) = some w'; rw [if_neg q]; exact e1, e2.same hs hoL hnotL⟩
      · have q : y ≠ x := by rintro rfl; rw [hx] at b; rcases b with b | b <;> cases b
        rw [lookup_cons_ne q] at a
        obtain ⟨c, w', e1, e2, e3⟩ := X.cel y w a b
        exact ⟨c, w', e1, e2.sameBut hs (hcell _ _ e2), e3.same hs hoL hnotL⟩
      · obtain ⟨c, w, a1, a2, a3⟩ := X.cells y e
        exact ⟨c, w, a1, a2, a3.sameBut hs (hcell _ _ a3)⟩
      · obtain ⟨w, a3⟩ := X.cellsAll y c' e
        exact ⟨w, a3.sameBut hs (hcell _ _ a3)⟩
      · exact halive b e
    | cell =>
      obtain ⟨c, w, c1, c2, c3⟩ := X.cells x hx
      obtain ⟨oc, hoc, hdc⟩ := id c3
      have hnotc : ¬ DataOk oc.data := by rw [hdc]; exact id
      have hbc : ∀ l n, oc.data ≠ .bytearray l n := by rw [hdc]; intro _ _ q; cases q
      refine wpAny_storeName_cell (env := F.env sc) hk hkd c1 c3 fun h' hc' hs => ?_
      have hLc : F.L ≠ c := fun q => by rw [q, hoc] at hoL; cases hoL; rw [hdL] at hdc; cases hdc
      have hne : ∀ b o, h₀.get? b = some o → b ≠ c := fun b o e q => by rw [q, c2] at e; cases e
      have hv' := hv.same hs hoc hnotc
      have halive : ∀ b, (s.heap.get? b).isSome → (h'.get? b).isSome := fun b e => by
        by_cases q : b = c
        · subst q; obtain ⟨o', ho', _⟩ := hc'; rw [ho']; rfl
        · rw [hs.2 b q]; exact e
      refine hQ _ ⟨⟨X.ok, fun b o e => (hs.2 b (hne b o (X.baseh b o e))).trans (X.base b o e), ⟨m, hn.sameBut hs hLc, fun y w a b => ?_⟩, fun y w a b => ?_, fun a o hm => (X.own a o hm).same hs hoc hnotc hbc, fun b hb => halive b (X.dal b hb)⟩,
        fun b o e => (hs.2 b (hne b o e)).trans (X.keep b o e), X.baseh, X.newL, fun y e => ?_, fun y c' e => ?_, X.cellsApart, X.ownNew, X.dold, X.apart⟩
        ⟨fun b o e _ h2 _ => (hs.2 b (fun q => h2 x (by rw [q]; exact c1))).trans e, fun b e => ?_, fun _ _ e => e, rfl, rfl⟩ hv'
      · have q : y ≠ x := by rintro rfl; rw [hx] at b; cases b
        rw [lookup_cons_ne q] at a
        obtain ⟨w', e1, e2⟩ := hvs y w a b
        exact ⟨w', e1, e2.same hs hoc hnotc⟩
      · by_cases q : y = x
        · subst q; rw [lookup_cons_self] at a; cases a; exact ⟨c, val, c1, hc', hv'⟩
        · rw [lookup_cons_ne q] at a
          obtain ⟨c', w', e1, e2, e3⟩ := X.cel y w a b
          have : c' ≠ c := fun z => q (X.cellsApart y x c (z ▸ e1) c1)
          exact ⟨c', w', e1, e2.sameBut hs this, e3.same hs hoc hnotc⟩
      · by_cases q : y = x
        · subst q; exact ⟨c, _, c1, c2, hc'⟩
        · obtain ⟨c', w, a1, a2, a3⟩ := X.cells y e
          have : c' ≠ c := fun z => q (X.cellsApart y x c (z ▸ a1) c1)
          exact ⟨c', w, a1, a2, a3.sameBut hs this⟩
      · by_cases q : c' = c
        · subst q; exact ⟨_, hc'⟩
        · obtain ⟨w, a3⟩ := X.cellsAll y c' e
          exact ⟨w, a3.sameBut hs q⟩
      · exact halive b e
    | _ => cases hl

theorem Xs.nil (h : P .next σ μ) : Xs Γ k sc σ μ [] P :=
  fun A n F h₀ s Q E _ _ X hQ => wpAny_execs_nil (hQ .next σ μ _ s h X (Sp.refl F μ s) rfl)

theorem Xs.cons {st : Stmt} {rest : List Stmt} (h : X1 Γ k sc σ μ st (fun fl σ' μ' => match fl with | .next => Xs Γ k sc σ' μ' rest P | fl => P fl σ' μ')) : Xs Γ k sc σ μ (st :: rest) P := by
  intro A n F h₀ s Q E hn hA X hQ
  refine wpAny_execs_cons (h A n F h₀ s _ _ hn hA X fun fl σ' μ' f s' hP X' sp hf => ?_)
  cases fl with
  | next =>
    have : f = .next := hf
    subst this
    exact hP A n F h₀ s' _ _ hn hA X' fun fl2 σ2 μ2 f2 s2 hP2 X2 sp2 hf2 => hQ fl2 σ2 μ2 f2 s2 hP2 X2 (sp.trans sp2) hf2
  | brk => have : f = .brk := hf; subst this; exact hQ _ _ _ _ _ hP X' sp rfl
  | cont => have : f = .cont := hf; subst this; exact hQ _ _ _ _ _ hP X' sp rfl
  | ret v =>
    obtain ⟨val, rfl, hv⟩ := hf
    exact hQ _ _ _ _ _ hP X' sp ⟨val, rfl, hv⟩

theorem St.less {σ' : Loc} (X : St Γ sc F σ μ s) (h : ∀ x v, σ'.lookup x = some v → σ.lookup x = some v) : St Γ sc F σ' μ s :=
  { X with
    ns := let ⟨m, hn, hv⟩ := X.ns; ⟨m, hn, fun x v a b => hv x v (h x v a) b⟩
    cel := fun x v a b => X.cel x v (h x v a) b }
theorem Ev.less {σ' : Loc} {e : Expr} {v : PV} (h : ∀ x v, σ'.lookup x = some v → σ.lookup x = some v) (he : Ev Γ k sc σ' μ e v) : Ev Γ k sc σ μ e v :=
  fun A n F s Q E hn hA st hQ => he A n F s Q E hn hA (st.less h) hQ
theorem Tr.less {σ' : Loc} {e : Expr} {b : Bool} (h : ∀ x v, σ'.lookup x = some v → σ.lookup x = some v) (he : Tr Γ k sc σ' μ e b) : Tr Γ k sc σ μ e b :=
  fun A n F s Q E hn hA st hQ => he A n F s Q E hn hA (st.less h) hQ
/-- a state that says less (fewer names) -/
theorem Sx.less {σ' : Loc} (X : Sx Γ h₀ sc F σ μ s) (h : ∀ x v, σ'.lookup x = some v → σ.lookup x = some v) : Sx Γ h₀ sc F σ' μ s :=
  { X with
    ns := let ⟨m, hn, hv⟩ := X.ns; ⟨m, hn, fun x v a b => hv x v (h x v a) b⟩
    cel := fun x v a b => X.cel x v (h x v a) b }
theorem Xs.less {σ' : Loc} {sts : List Stmt} (h : ∀ x v, σ'.lookup x = some v → σ.lookup x = some v) (hx : Xs Γ k sc σ' μ sts P) : Xs Γ k sc σ μ sts P :=
  fun A n F h₀ s Q E hn hA X hQ => hx A n F h₀ s Q E hn hA (X.less h) hQ
theorem X1.less {σ' : Loc} {st : Stmt} (h : ∀ x v, σ'.lookup x = some v → σ.lookup x = some v) (hx : X1 Γ k sc σ' μ st P) : X1 Γ k sc σ μ st P :=
  fun A n F h₀ s Q E hn hA X hQ => hx A n F h₀ s Q E hn hA (X.less h) hQ
theorem Xs.mono {P' : Fl → Loc → Own → Prop} {sts : List Stmt} (hx : Xs Γ k sc σ μ sts P') (h : ∀ fl σ' μ', P' fl σ' μ' → P fl σ' μ') : Xs Γ k sc σ μ sts P :=
  fun A n F h₀ s Q E hn hA X hQ => hx A n F h₀ s Q E hn hA X fun fl σ' μ' f s' hP => hQ fl σ' μ' f s' (h _ _ _ hP)
theorem X1.mono {P' : Fl → Loc → Own → Prop} {st : Stmt} (hx : X1 Γ k sc σ μ st P') (h : ∀ fl σ' μ', P' fl σ' μ' → P fl σ' μ') : X1 Γ k sc σ μ st P :=
  fun A n F h₀ s Q E hn hA X hQ => hx A n F h₀ s Q E hn hA X fun fl σ' μ' f s' hP => hQ fl σ' μ' f s' (h _ _ _ hP)

theorem X1.assign {x : Str} {p' : Pos} {e : Expr} {v : PV} (he : Ev Γ k sc σ μ e v) (h : P .next ((x, v) :: σ) μ) (hl : isPlace (sc.names.lookup x) = true := by decide +kernel) (hk : sc.kind = .function := by kernel_rfl)
    (hs : ∀ F : Fm, swapsWith e (some (.Name x p')) pos.line (F.env sc) = pure false := by intro _; kernel_rfl) : X1 Γ k sc σ μ (.Assign [.Name x p'] e pos) P := by
  intro A n F h₀ s Q E hn hA X hQ
  refine wpAny_Assign_Name (he A n F s _ _ hn hA X.toSt fun val s₁ g hv => ?_) (hs F)
  exact (X.grow g).store hv hl hk fun s₂ X₂ sp₂ _ => hQ .next _ μ _ s₂ h X₂ ((Sp.gr g).trans sp₂) rfl

theorem X1.aug {x : Str} {p' : Pos} {op : Operator} {e : Expr} {a b c : PV} (ha : σ.lookup x = some a) (he : Ev Γ k sc σ μ e b) (ho : Op2 Γ (inplaceOp op) a b c) (h : P .next ((x, c) :: σ) μ)
    (hl : isPlace (sc.names.lookup x) = true := by decide +kernel) (hk : sc.kind = .function := by kernel_rfl) (hd : (x == ("__debug__" : Str)) = false := by decide +kernel) (hc : (x == ("__classdict__" : Str)) = false := by decide +kernel) :
    X1 Γ k sc σ μ (.AugAssign (.Name x p') op e pos) P := by
  intro A n F h₀ s Q E hn hA X hQ
  refine wpAny_AugAssign_Name ?_
  have hld : ∀ (Q' : Value → Shared → Prop), (∀ val, V (Dm F μ) s.heap a val → Q' val s) → wpAny Γ.M A (loadName (F.env sc) x) Q' E s := by
    intro Q' hq
    cases hx : sc.names.lookup x with
    | none => rw [hx] at hl; cases hl
    | some kd =>
      rw [hx] at hl
      have hkd : (F.env sc).kindOf x = some kd := hx
      cases kd with
      | «local» =>
        obtain ⟨m, hm, hv⟩ := X.ns
        obtain ⟨val, e, ev⟩ := hv x a ha hx
        exact wpAny_loadName_local (env := F.env sc) hk hkd hm e (hq _ ev)
      | cell =>
        obtain ⟨c, val, e1, e2, e3⟩ := X.cel x a ha (.inl hx)
        exact wpAny_loadName_cell (env := F.env sc) hk hkd e1 e2 (hq _ e3)
      | _ => cases hl
  refine hld _ fun va hva => he A n F s _ _ hn hA X.toSt fun vb s₁ g hvb => ?_
  refine ho A n _ s₁ va vb _ _ (by omega) hA X.ok (X.grow g).base (hva.grow g.keep) hvb (X.grow g).toSt.dom fun vc s₂ g₂ hvc => ?_
  exact ((X.grow g).grow g₂).store hvc hl hk fun s₃ X₃ sp₃ _ => hQ .next _ μ _ s₃ h X₃ ((Sp.gr (g.trans g₂)).trans sp₃) rfl

theorem X1.ite {t : Expr} {body orelse : List Stmt} {c : Bool} (ht : Tr Γ k sc σ μ t c) (h1 : c = true → Xs Γ k sc σ μ body P) (h2 : c = false → Xs Γ k sc σ μ orelse P) : X1 Γ k sc σ μ (.If t body orelse pos) P := by
  intro A n F h₀ s Q E hn hA X hQ
  refine wpAny_If (ht A n F s _ _ hn hA X.toSt fun s₁ g => ?_)
  cases c with
  | true => exact h1 rfl A n F h₀ s₁ _ _ hn hA (X.grow g) fun fl σ' μ' f s' hP X' sp hf => hQ fl σ' μ' f s' hP X' ((Sp.gr g).trans sp) hf
  | false => exact h2 rfl A n F h₀ s₁ _ _ hn hA (X.grow g) fun fl σ' μ' f s' hP X' sp hf => hQ fl σ' μ' f s' hP X' ((Sp.gr g).trans sp) hf

theorem X1.ret {e : Expr} {v : PV} (he : Ev Γ k sc σ μ e v) (h : P (.ret v) σ μ) : X1 Γ k sc σ μ (.Return (some e) pos) P := by
  intro A n F h₀ s Q E hn hA X hQ
  exact wpAny_Return_some (he A n F s _ _ hn hA X.toSt fun val s₁ g hv => hQ (.ret v) σ μ _ s₁ h (X.grow g) (Sp.gr g) ⟨val, rfl, hv⟩)
theorem X1.brk (h : P .brk σ μ) : X1 Γ k sc σ μ (.Break pos) P :=
  fun A n F h₀ s Q E hn hA X hQ => wpAny_Break (hQ .brk σ μ _ s h X (Sp.refl F μ s) rfl)

/-! ### while -/
theorem codeAny_while1 {prog : Program} {w : World} {R : Result → Shared → Prop} {test : Expr} {body orelse : List Stmt} {env : Env}
    (h : wpAny (model prog w) A (isTrue test env (eval test env)) (fun b s₂ =>
        if b then wpAny (model prog w) A (execs body env) (fun f s₃ => match f with
            | .next | .cont => codeAny (model prog w) A (.whileLoop test body orelse env) R s₃
            | .brk => R (.ok .next) s₃
            | .ret v => R (.ok (.ret v)) s₃) (notedBy (model prog w) A env fun e s' => R (.error e) s') s₂
        else wpAny (model prog w) A (execs orelse env) (fun f s₃ => R (.ok f) s₃) (notedBy (model prog w) A env fun e s' => R (.error e) s') s₂)
      (notedBy (model prog w) A env fun e s' => R (.error e) s') s) :
    codeAny (model prog w) A (.whileLoop test body orelse env) R s := by
  refine codeAny_of_tree ?_
  show wpAny _ A ((whileTurn test body orelse env).onRaise (fun x => do noteFrame x env; theTreesLotGoes x)) _ _ s
  refine wpAny_noted ?_
  simp only [whileTurn]
  refine wpAny_bind (wpAny_mono h (fun b s₂ h₂ => ?_) fun _ _ h' => h')
  cases b with
  | false =>
    simp only [Bool.false_eq_true, if_false] at h₂ ⊢
    exact wpAny_bind (wpAny_mono h₂ (fun f s₃ h₃ => wpAny_pure h₃) fun _ _ h' => h')
  | true =>
    simp only [if_true] at h₂ ⊢
    refine wpAny_bind (wpAny_mono h₂ (fun f s₃ h₃ => ?_) fun _ _ h' => h')
    cases f with
    | next => exact wpAny_pure ⟨rfl, h₃⟩
    | cont => exact wpAny_pure ⟨rfl, h₃⟩
    | brk => exact wpAny_pure h₃
    | ret v => exact wpAny_pure h₃

def Wh (Γ : Cx) (k : Nat) (sc : Scope) (σ : Loc) (μ : Own) (test : Expr) (body orelse : List Stmt) (P : Fl → Loc → Own → Prop) : Prop :=
  ∀ (A : Around) (n : Nat) (F : Fm) (h₀ : Heap) (s : Shared) (R : Result → Shared → Prop), n + k ≤ 8 → Lv n A → Sx Γ h₀ sc F σ μ s →
    (∀ fl σ' μ' f s', P fl σ' μ' → Sx Γ h₀ sc F σ' μ' s' → Sp F μ μ' s s' → FlV (Dm F μ') s'.heap fl f → R (.ok f) s') → codeAny Γ.M A (.whileLoop test body orelse (F.env sc)) R s
theorem X1.while {t : Expr} {body orelse : List Stmt} (h : Wh Γ k sc σ μ t body orelse P) : X1 Γ k sc σ μ (.While t body orelse pos) P := by
  intro A n F h₀ s Q E hn hA X hQ
  exact wpAny_While (h A n F h₀ s _ hn hA X fun fl σ' μ' f s' hP X' sp hf => hQ fl σ' μ' f s' hP X' sp hf)
theorem Wh.step {t : Expr} {body orelse : List Stmt} {c : Bool} (ht : Tr Γ k sc σ μ t c)
    (h1 : c = true → Xs Γ k sc σ μ body (fun fl σ' μ' => match fl with | .next | .cont => Wh Γ k sc σ' μ' t body orelse P | .brk => P .next σ' μ' | .ret v => P (.ret v) σ' μ'))
    (h2 : c = false → Xs Γ k sc σ μ orelse P) : Wh Γ k sc σ μ t body orelse P := by
  intro A n F h₀ s R hn hA X hR
  refine codeAny_while1 (ht A n F s _ _ hn hA X.toSt fun s₁ g => ?_)
  cases c with
  | true =>
    refine h1 rfl A n F h₀ s₁ _ _ hn hA (X.grow g) fun fl σ' μ' f s' hP X' sp hf => ?_
    have sp' := (Sp.gr g).trans sp
    cases fl with
    | next => have : f = .next := hf; subst this; exact hP A n F h₀ s' R hn hA X' fun fl2 σ2 μ2 f2 s2 hP2 X2 sp2 hf2 => hR fl2 σ2 μ2 f2 s2 hP2 X2 (sp'.trans sp2) hf2
    | cont => have : f = .cont := hf; subst this; exact hP A n F h₀ s' R hn hA X' fun fl2 σ2 μ2 f2 s2 hP2 X2 sp2 hf2 => hR fl2 σ2 μ2 f2 s2 hP2 X2 (sp'.trans sp2) hf2
    | brk => have : f = .brk := hf; subst this; exact hR .next σ' μ' _ s' hP X' sp' rfl
    | ret v => obtain ⟨val, rfl, hv⟩ := hf; exact hR (.ret v) σ' μ' _ s' hP X' sp' ⟨val, rfl, hv⟩
  | false => exact h2 rfl A n F h₀ s₁ _ _ hn hA (X.grow g) fun fl σ' μ' f s' hP X' sp hf => hR fl σ' μ' f s' hP X' ((Sp.gr g).trans sp) hf
theorem Wh.less {σ' : Loc} {t : Expr} {body orelse : List Stmt} (h : ∀ x v, σ'.lookup x = some v → σ.lookup x = some v) (hx : Wh Γ k sc σ' μ t body orelse P) : Wh Γ k sc σ μ t body orelse P :=
  fun A n F h₀ s R hn hA X hR => hx A n F h₀ s R hn hA (X.less h) hR
end
end Mine

namespace Mine

/-! ## calls -/

def KeepOk (Γ : Cx) (f : Value) : Prop := ∀ h, Kp Γ.B h → ∃ k, (k = Keeper.frame ∨ k = Keeper.machine ∨ k = Keeper.boundFrame) ∧ Looks Γ.M h (keeperOf f) k

theorem KeepOk.builtin {Γ : Cx} {id : String} : KeepOk Γ (.builtin id) := fun h _ => ⟨.machine, .inr (.inl rfl), Looks.of_pure rfl⟩
theorem KeepOk.type {Γ : Cx} {id : String} : KeepOk Γ (.type id) := fun h _ => ⟨.machine, .inr (.inl rfl), Looks.of_pure rfl⟩
theorem KeepOk.fn {Γ : Cx} {a : Addr} {o : Obj} {fd : FuncData} (ho : Γ.B.get? a = some o) (hd : o.data = .func fd) : KeepOk Γ (.ref a) := fun h hk =>
  ⟨.frame, .inl rfl, by
    obtain ⟨c, d, dt, sl⟩ := o
    simp only at hd
    subst hd
    exact (Looks.ld (part := none) (hk a _ ho)).andThen Looks.now⟩

theorem starEach_plain_any {env : Env} {pos : Pos} : ∀ (es : List Expr), es.any isStarred = false → (backTo pos (starEach es env)).any (·.1) = false
  | [], _ => rfl
  | e :: es, h => by
    rw [List.any_cons, Bool.or_eq_false_iff] at h
    have ih := starEach_plain_any (env := env) (pos := pos) es h.2
    have he := h.1
    cases e with
    | Starred v p => cases he
    | _ => exact ih

section
variable {Γ : Cx} {k : Nat} {sc : Scope} {σ : Loc} {μ : Own} {pos : Pos}

theorem evalArgs_any {M : Model} {A : Around} {E : Value → Shared → Prop} {s : Shared} {f : Value} {env : Env} {es : List Expr} {Q : Args → Shared → Prop} (hp : es.any isStarred = false)
    (h : wpAny M A (spliced (backTo pos (starEach es env))) (fun vs s' => Q ⟨vs, []⟩ s') E s) : wpAny M A (evalArgs f true (backTo pos (starEach es env)) []) Q E s := by
  cases es with
  | nil =>
    unfold evalArgs
    show wpAny M A (spliced [] >>= _) Q E s
    refine wpAny_bind (wpAny_mono h (fun vs s' h' => ?_) fun _ _ x => x)
    refine wpAny_bind (wpAny_pure ?_)
    refine wpAny_holding ?_
    exact wpAny_bind (wpAny_pure (wpAny_bind (wpAny_pure (wpAny_pure h'))))
  | cons e es =>
    rw [List.any_cons, Bool.or_eq_false_iff] at hp
    have he := hp.1
    cases e with
    | Starred v p => cases he
    | _ => exact evalArgs_plain h

theorem Ev.call {x : Str} {p : Pos} {args : List Expr} {f : Value} {vs : List PV} {r : PV} (hf : Ev Γ k sc σ μ (.Name x p) (.obj f)) (hkp : KeepOk Γ f) (ha : Es Γ k sc σ μ pos args vs) (hc : CallOk Γ k f vs r)
    (hp : args.any isStarred = false := by kernel_rfl) : Ev Γ k sc σ μ (.Call (.Name x p) args [] pos) r := by
  intro A n F s Q E hn hA st hQ
  refine wpAny_Call_NameR (hf A n F s _ _ hn hA st fun fv s₁ g₁ hfv => ?_)
  rw [V_obj] at hfv; subst hfv
  refine callWith_of (P := fun h => Kp Γ.B h) (by rw [starEach_plain_any args hp]; rfl) hkp ?_
  refine evalArgs_any hp (ha A n F s₁ _ _ hn hA (st.grow g₁) fun vals s₂ g₂ hvs => ?_)
  have st₂ := (st.grow g₁).grow g₂
  refine ⟨st₂.base, ?_⟩
  show wpAny _ _ (PySem.call fv ([] ++ vals) []) Q E s₂
  exact hc A n (Dm F μ) s₂ vals Q E hn hA st.ok st₂.base hvs st₂.dom fun val s₃ g₃ hv => hQ val s₃ ((g₁.trans g₂).trans g₃) hv

theorem Lv.deeper {n : Nat} {A : Around} {env : Env} (h : Lv n A) : Lv (n + 1) (A.deeper env) :=
  ⟨h.handled, by have := h.depth; show A.depth + 1 ≤ _; omega, by have := h.units; show A.units + 3 ≤ _; omega⟩

theorem lookup_zip_V {D : Addr → Prop} {h : Heap} : ∀ (names : List Str) (args : List PV) (vals : List Value) (x : Str) (v : PV), names.Nodup → Vs D h args vals → (names.zip args).lookup x = some v →
    ∃ val, (names.zip vals).reverse.lookup x = some val ∧ V D h v val := by
  intro names args vals x v hnd hvs hl
  have key : ∀ (names : List Str) (args : List PV) (vals : List Value), Vs D h args vals → (names.zip args).lookup x = some v → ∃ val, (names.zip vals).lookup x = some val ∧ V D h v val := by
    intro names
    induction names with
    | nil => intro args vals _ hl; simp at hl
    | cons y ys ih =>
      intro args vals hvs hl
      cases args with
      | nil => simp at hl
      | cons a as =>
        rw [Vs_cons] at hvs
        obtain ⟨w, r, rfl, h1, h2⟩ := hvs
        rw [List.zip_cons_cons, List.lookup_cons] at hl ⊢
        cases hxy : (x == y) with
        | true => rw [hxy] at hl; simp at hl; subst hl; exact ⟨w, rfl, h1⟩
        | false => rw [hxy] at hl; exact ih as r h2 hl
  obtain ⟨val, h1, h2⟩ := key names args vals hvs hl
  refine ⟨val, ?_, h2⟩
  have rev : ∀ (l : List (Str × Value)), (l.map (·.1)).Nodup → l.reverse.lookup x = l.lookup x := by
    intro l
    induction l with
    | nil => intro _; rfl
    | cons p l ih =>
      intro hn
      obtain ⟨a, b⟩ := p
      simp only [List.map_cons, List.nodup_cons] at hn
      rw [List.reverse_cons, List.lookup_append, ih hn.2, List.lookup_cons]
      cases hxa : (x == a) with
      | true =>
        have hx := beq_iff_eq.mp hxa
        subst hx
        have : l.lookup x = none := by
          rw [List.lookup_eq_none_iff]
          intro p hp
          have : p.1 ≠ x := fun q => hn.1 (List.mem_map.mpr ⟨p, hp, q⟩)
          exact beq_eq_false_iff_ne.mpr this.symm |> fun h => by simpa using h
        rw [this, List.lookup_cons]; simp
      | false =>
        rw [List.lookup_cons, hxa]; simp
  rw [rev _ ?_]
  · exact h1
  · have : ∀ (ns : List Str) (vs : List Value), ((ns.zip vs).map (·.1)).Sublist ns := by
      intro ns
      induction ns with
      | nil => intro vs; simp
      | cons n ns ih =>
        intro vs
        cases vs with
        | nil => simp
        | cons v vs => simpa using ih vs
    exact hnd.sublist (this _ _)

/-- a call of a plain def of the text -/
theorem CallOk.fn {a : Addr} {o : Obj} {name : Str} {params : Arguments} {body : List Stmt} {scope : Scope} {pm cd doc : Value} {args : List PV} {r : PV}
    (ho : Γ.B.get? a = some o) (hd : o.data = .func (docDef name params body scope pm cd doc)) (hcd : Γ.B.CodeRec cd name)
    (hbind : ∀ vals : List Value, vals.length = args.length → bindArgs (docDef name params body scope pm cd doc) ⟨vals, []⟩ = pure ((params.args.map (·.arg)).zip vals))
    (hbody : Xs Γ k scope ((params.args.map (·.arg)).zip args) [] body (fun fl _ μ' => fl = .ret r))
    (hnd : (params.args.map (·.arg)).Nodup := by decide +kernel)
    (hloc : (params.args.map (·.arg)).all (fun x => decide (scope.names.lookup x = some .local)) = true := by decide +kernel)
    (hco : scope.isCoroutine = false := by kernel_rfl) (hgen : scope.isGenerator = false := by kernel_rfl) (hk : scope.kind = .function := by kernel_rfl)
    (hcell : (scope.names.all fun x => decide (x.2 ≠ .cell)) = true := by decide +kernel) : CallOk Γ (k + 1) (.ref a) args r := by
  intro A n D s vals Q E hn hA ok hB hvs hD hQ
  have hcell' : ∀ x ∈ scope.names, x.2 ≠ .cell := fun x hx => of_decide_eq_true (List.all_eq_true.mp hcell x hx)
  have hlen := hvs.length
  refine wpAny_call (call_plain (binds := (params.args.map (·.arg)).zip vals) (by have := hA.depth; show _ < 1000; omega) (hB a o ho) hd (ok.nolimit.keeps hB) (hcd.keeps hB) (hbind vals hlen) ?_ (fun h₁ F₁ => ?_) hco hgen hk hcell')
  · intro x hx
    have := List.of_mem_zip hx
    exact of_decide_eq_true (List.all_eq_true.mp hloc x.1 this.1)
  · let F : Fm := ⟨s.heap.objs.size, [], name ++ ".<locals>.", some a, cd, some s.heap.objs.size, D⟩
    have hkeep : Kp s.heap h₁ := F₁.keep
    have hL : s.heap.get? s.heap.objs.size = none := by
      cases q : s.heap.get? s.heap.objs.size with
      | none => rfl
      | some o' => exact absurd (Heap.lt_size q) (Nat.lt_irrefl _)
    have X : Sx Γ s.heap scope F ((params.args.map (·.arg)).zip args) [] { s with heap := h₁, toks := s.toks + ((params.args.map (·.arg)).zip vals).length } := by
      have hvs' : Vs (Dm F []) h₁ args vals := (hvs.grow hkeep).less fun b o _ hb => by
        rcases hb with hb | hb
        · exact hb
        · simp at hb
      refine ⟨⟨ok, hB.trans hkeep, ⟨_, F₁.ns, fun x v h1 h2 => lookup_zip_V _ _ _ x v hnd hvs' h1⟩, fun x v h1 h2 => ?_, fun _ _ hm => (nomatch hm), fun b hb => hkeep.alive b (hD b hb)⟩,
        hkeep, hB, hL, fun x hx => ?_, fun x c h1 => (nomatch h1), fun x y c h1 => (nomatch h1), fun b hb => (nomatch hb), hD, List.nodup_nil⟩
      · exfalso
        have hx : x ∈ (params.args.map (·.arg)) := by
          obtain ⟨⟨a', b'⟩, hm, he⟩ : ∃ p ∈ (params.args.map (·.arg)).zip args, p.1 = x := by
            have := List.lookup_isSome_iff.mp (show (((params.args.map (·.arg)).zip args).lookup x).isSome from by rw [h1]; rfl)
            obtain ⟨p, hp, hpx⟩ := this
            exact ⟨p, hp, (beq_iff_eq.mp hpx).symm⟩
          have := List.of_mem_zip hm
          simp only at he; subst he; exact this.1
        have := of_decide_eq_true (List.all_eq_true.mp hloc x hx)
        rw [this] at h2
        rcases h2 with h2 | h2 <;> cases h2
      · exfalso
        have hm : (x, NameKind.cell) ∈ scope.names := by
          have := List.lookup_eq_some_iff.mp hx
          obtain ⟨l₁, l₂, he, _⟩ := this
          rw [he]; simp
        exact hcell' _ hm rfl
    refine hbody (A.deeper (F.env scope)) (n + 1) F s.heap _ _ _ (by omega) hA.deeper X fun fl σ' μ' f s' hP X' sp hf => ?_
    subst hP
    obtain ⟨val, rfl, hv⟩ := hf
    refine hQ val s' ⟨X'.keep, sp.gens, sp.os⟩ (hv.less fun b o _ hb => .inl hb)
end
end Mine

namespace Mine

/-! ## iteration -/

structure Iter (Γ : Cx) (A : Around) (it : Addr) (wr : List Addr) (J : (Addr → Prop) → List PV → Heap → Prop) : Prop where
  move : ∀ D D' xs h h', (∀ b o, h.get? b = some o → DataOk o.data → (¬ D b ∨ o.cls = .type "tuple" ∨ o.cls = .type "range") → h'.get? b = some o) → (∀ b o, h.get? b = some o → D' b → D b) → J D xs h → J D' xs h'
  wrs : ∀ D xs h, J D xs h → ∀ b ∈ wr, ¬ D b ∧ ∃ o vs, h.get? b = some o ∧ o.data = .fields vs ∧ o.cls ≠ .type "range"
  item : ∀ (D : Addr → Prop) x xs (s : Shared) target (Q : Value → Shared → Prop) (E : Value → Shared → Prop), J D (x :: xs) s.heap → (∀ b, D b → (s.heap.get? b).isSome) →
    (∀ v h' tk, V D h' x v → J D xs h' → (∀ b o, b ∉ wr → s.heap.get? b = some o → h'.get? b = some o) → Q v { s with heap := h', toks := tk }) →
    wpAny Γ.M A (pyNext (.ref it)) (fun r s₁ => match r with | some v => wpAny Γ.M A (letOwnedTupleGo target (.ref it) v) (fun _ s₂ => Q v s₂) E s₁ | none => False) E s
  done : ∀ D (s : Shared) (Q : Shared → Prop) (E : Value → Shared → Prop), J D [] s.heap →
    (∀ h' tk, (∀ b o, b ∉ wr → s.heap.get? b = some o → h'.get? b = some o) → Q { s with heap := h', toks := tk }) → wpAny Γ.M A (pyNext (.ref it)) (fun r s₁ => r = none ∧ Q s₁) E s
  self : ∀ D xs (s : Shared) (Q : Value → Shared → Prop) (E : Value → Shared → Prop), J D xs s.heap → Q (.ref it) s → wpAny Γ.M A (pyIter (.ref it)) Q E s

def IterOk (Γ : Cx) (p : PV) (xs : List PV) : Prop :=
  ∀ (A : Around) (n : Nat) (D : Addr → Prop) (s : Shared) (v : Value) (Q : Value → Shared → Prop) (E : Value → Shared → Prop), n ≤ 8 → Lv n A → Kp Γ.B s.heap → V D s.heap p v → (∀ b, D b → (s.heap.get? b).isSome) →
    (∀ it wr J s', Iter Γ A it wr J → J D xs s'.heap → Gr s s' → (∀ b ∈ wr, s.heap.get? b = none) → Q (.ref it) s') → wpAny Γ.M A (pyIter v) Q E s

theorem letOwned_other {M : Model} {A : Around} {E : Value → Shared → Prop} {s : Shared} {target : Expr} {it : Addr} {v : Value} {o : Obj} {n : String} {vs : Array Value} {Q : Unit → Shared → Prop}
    (ho : s.heap.get? it = some o) (hc : o.cls = .type n) (hd : o.data = .fields vs)
    (hn : ["enumerate", "zip", "dict_itemiterator", "dict_reverseitemiterator", "odict_iterator", "itertools.zip_longest", "itertools.pairwise"].contains n = false) (h : Q () s) :
    wpAny M A (letOwnedTupleGo target (.ref it) v) Q E s := by
  have key : ∀ a, wpAny M A (do
      let o ← load it
      match o.cls, o.data with
      | .type n, .fields vs =>
        if ["enumerate", "zip", "dict_itemiterator", "dict_reverseitemiterator", "odict_iterator", "itertools.zip_longest", "itertools.pairwise"].contains n && vs[0]? == some (rawInt a) then
          rule "for.unpacks-the-owned-tuple"
          updateField it 0 .none
      | _, _ => pure ()) Q E s := by
    intro a
    refine wpAny_bind (wpAny_load ho ?_)
    rw [hc, hd]
    dsimp only
    rw [hn]
    exact wpAny_pure h
  unfold letOwnedTupleGo
  split
  · cases v with
    | ref a => exact key a
    | _ => exact wpAny_pure h
  · cases v with
    | ref a => exact key a
    | _ => exact wpAny_pure h
  · exact wpAny_pure h

def JList (it : Addr) (D : Addr → Prop) (xs : List PV) (h : Heap) : Prop :=
  ∃ l i items, ¬ D it ∧ ¬ D l ∧ l ≠ it ∧ h.IsListIter it l i ∧ h.IsList l items ∧ Vs D h xs (items.toList.drop i)
def JTup (it : Addr) (D : Addr → Prop) (xs : List PV) (h : Heap) : Prop :=
  ∃ l i items, ¬ D it ∧ l ≠ it ∧ h.IsTupleIter it l i ∧ h.IsTuple l items ∧ Vs D h xs (items.toList.drop i)
def rngItems (a c : Int) : Nat → List PV
  | 0 => []
  | n + 1 => .int a :: rngItems (a + c) c n
def JRng (it : Addr) (D : Addr → Prop) (xs : List PV) (h : Heap) : Prop :=
  ∃ a c n, ¬ D it ∧ IsRangeIter h it a ((n : Nat) : Int) c ∧ xs = rngItems a c n

theorem Vs.move' {D D' : Addr → Prop} {h h' : Heap}
    (hk : ∀ b o, h.get? b = some o → DataOk o.data → (¬ D b ∨ o.cls = .type "tuple" ∨ o.cls = .type "range") → h'.get? b = some o)
    (hD : ∀ b o, h.get? b = some o → D' b → D b) {xs : List PV} {vs : List Value} (e : Vs D h xs vs) : Vs D' h' xs vs :=
  Vs.move (fun b o hb hn => hk b o hb hn.ok.1 hn.ok.2) hD e

theorem dropStep {xs : List PV} {x : PV} {items : Array Value} {i : Nat} {D : Addr → Prop} {h : Heap} (e : Vs D h (x :: xs) (items.toList.drop i)) :
    ∃ v, items[i]? = some v ∧ V D h x v ∧ Vs D h xs (items.toList.drop (i + 1)) := by
  rw [Vs_cons] at e
  obtain ⟨v, r, h1, h2, h3⟩ := e
  refine ⟨v, ?_, h2, ?_⟩
  · have : (items.toList.drop i)[0]? = some v := by rw [h1]; rfl
    rw [List.getElem?_drop] at this
    simpa using this
  · have : items.toList.drop (i + 1) = r := by
      have : (items.toList.drop i).drop 1 = r := by rw [h1]; rfl
      rwa [List.drop_drop] at this
    rw [this]; exact h3
theorem dropEnd {items : Array Value} {i : Nat} {D : Addr → Prop} {h : Heap} (e : Vs D h [] (items.toList.drop i)) : items[i]? = none := by
  rw [Vs_nil] at e
  have : (items.toList.drop i)[0]? = none := by rw [e]; rfl
  rw [List.getElem?_drop] at this
  simpa using this

theorem Iter.list {Γ : Cx} {A : Around} (hh : A.handled = none) (it : Addr) : Iter Γ A it [it] (JList it) where
  move := by
    rintro D D' xs h h' hk hD ⟨l, i, items, h1, h2, h3, h4, h5, h6⟩
    have k1 : ∀ o, h.get? it = some o → h'.get? it = some o := fun o ho => by
      obtain ⟨o', ho', hc, hd⟩ := h4
      rw [ho] at ho'; cases ho'
      exact hk it o ho (by rw [hd]; trivial) (.inl h1)
    have k2 : ∀ o, h.get? l = some o → h'.get? l = some o := fun o ho => by
      obtain ⟨o', ho', hc, n, hd⟩ := h5
      rw [ho] at ho'; cases ho'
      exact hk l o ho (by rw [hd]; trivial) (.inl h2)
    have a1 : ¬ D' it := fun d => by obtain ⟨o', ho', _⟩ := h4; exact h1 (hD it o' ho' d)
    have a2 : ¬ D' l := fun d => by obtain ⟨o', ho', _⟩ := h5; exact h2 (hD l o' ho' d)
    obtain ⟨o, ho, r⟩ := h4
    obtain ⟨ol, hol, rl⟩ := h5
    exact ⟨l, i, items, a1, a2, h3, ⟨o, k1 o ho, r⟩, ⟨ol, k2 ol hol, rl⟩, h6.move' hk hD⟩
  wrs := by
    rintro D xs h ⟨l, i, items, h1, h2, h3, ⟨o, ho, hc, hd⟩, h5, h6⟩ b hb
    rw [List.mem_singleton] at hb; subst hb
    exact ⟨h1, o, _, ho, hd, by rw [hc]; decide⟩
  item := by
    rintro D x xs s target Q E ⟨l, i, items, h1, h2, h3, h4, h5, h6⟩ hal hQ
    obtain ⟨v, e1, e2, e3⟩ := dropStep h6
    refine wpAny_pyNext_list_item h4 h5 e1 fun h' hi' hs' => ?_
    obtain ⟨o, ho, hc, hd⟩ := id h4
    have hk : ∀ b o', s.heap.get? b = some o' → Node D b o' → h'.get? b = some o' := fun b o' hb hn => (hs'.2 b (fun q => by
      subst q; rw [ho] at hb; cases hb
      rcases hn with ⟨_, _, hn, _⟩ | ⟨hn, _⟩
      · rw [hd] at hn; cases hn
      · rw [hc] at hn; exact absurd hn (by decide))).trans hb
    obtain ⟨o2, ho2, hc2, hd2⟩ := id hi'
    refine letOwned_other ho2 hc2 hd2 (by decide) (hQ v h' _ (e2.move hk fun _ _ _ d => d) ⟨l, i + 1, items, h1, h2, h3, hi', ?_, e3.move hk fun _ _ _ d => d⟩ fun b o' hb e => (hs'.2 b (by simpa using hb)).trans e)
    obtain ⟨ol, hol, rl⟩ := h5
    exact ⟨ol, (hs'.2 l h3).trans hol, rl⟩
  done := by
    rintro D s Q E ⟨l, i, items, h1, h2, h3, h4, h5, h6⟩ hQ
    exact wpAny_pyNext_list_end hh h4 h5 (dropEnd h6) fun h' he => ⟨rfl, hQ h' _ fun b o hb e => he b o (by simpa using hb) e⟩
  self := by
    rintro D xs s Q E ⟨l, i, items, h1, h2, h3, h4, h5, h6⟩ hQ
    exact wpAny_pyIter_listiter h4 hQ

theorem Iter.tup {Γ : Cx} {A : Around} (hh : A.handled = none) (it : Addr) : Iter Γ A it [it] (JTup it) where
  move := by
    rintro D D' xs h h' hk hD ⟨l, i, items, h1, h3, h4, h5, h6⟩
    have k1 : ∀ o, h.get? it = some o → h'.get? it = some o := fun o ho => by
      obtain ⟨o', ho', hc, hd⟩ := h4
      rw [ho] at ho'; cases ho'
      exact hk it o ho (by rw [hd]; trivial) (.inl h1)
    have k2 : ∀ o, h.get? l = some o → h'.get? l = some o := fun o ho => by
      obtain ⟨o', ho', hc, n, hd⟩ := h5
      rw [ho] at ho'; cases ho'
      exact hk l o ho (by rw [hd]; trivial) (.inr (.inl hc))
    have a1 : ¬ D' it := fun d => by obtain ⟨o', ho', _⟩ := h4; exact h1 (hD it o' ho' d)
    obtain ⟨o, ho, r⟩ := h4
    obtain ⟨ol, hol, rl⟩ := h5
    exact ⟨l, i, items, a1, h3, ⟨o, k1 o ho, r⟩, ⟨ol, k2 ol hol, rl⟩, h6.move' hk hD⟩
  wrs := by
    rintro D xs h ⟨l, i, items, h1, h3, ⟨o, ho, hc, hd⟩, h5, h6⟩ b hb
    rw [List.mem_singleton] at hb; subst hb
    exact ⟨h1, o, _, ho, hd, by rw [hc]; decide⟩
  item := by
    rintro D x xs s target Q E ⟨l, i, items, h1, h3, h4, h5, h6⟩ hal hQ
    obtain ⟨v, e1, e2, e3⟩ := dropStep h6
    refine wpAny_pyNext_tuple_item h4 h5 e1 fun h' hi' hs' => ?_
    obtain ⟨o, ho, hc, hd⟩ := id h4
    have hk : ∀ b o', s.heap.get? b = some o' → Node D b o' → h'.get? b = some o' := fun b o' hb hn => (hs'.2 b (fun q => by
      subst q; rw [ho] at hb; cases hb
      rcases hn with ⟨_, _, hn, _⟩ | ⟨hn, _⟩
      · rw [hd] at hn; cases hn
      · rw [hc] at hn; exact absurd hn (by decide))).trans hb
    obtain ⟨o2, ho2, hc2, hd2⟩ := id hi'
    refine letOwned_other ho2 hc2 hd2 (by decide) (hQ v h' _ (e2.move hk fun _ _ _ d => d) ⟨l, i + 1, items, h1, h3, hi', ?_, e3.move hk fun _ _ _ d => d⟩ fun b o' hb e => (hs'.2 b (by simpa using hb)).trans e)
    obtain ⟨ol, hol, rl⟩ := h5
    exact ⟨ol, (hs'.2 l h3).trans hol, rl⟩
  done := by
    rintro D s Q E ⟨l, i, items, h1, h3, h4, h5, h6⟩ hQ
    exact wpAny_pyNext_tuple_end hh h4 h5 (dropEnd h6) fun h' he => ⟨rfl, hQ h' _ fun b o hb e => he b o (by simpa using hb) e⟩
  self := by
    rintro D xs s Q E ⟨l, i, items, h1, h3, h4, h5, h6⟩ hQ
    exact wpAny_pyIter_tupleiter h4 hQ

theorem Iter.rng {Γ : Cx} {A : Around} (hh : A.handled = none) (it : Addr) : Iter Γ A it [it] (JRng it) where
  move := by
    rintro D D' xs h h' hk hD ⟨a, c, n, h1, h2, h3⟩
    exact ⟨a, c, n, fun d => h1 (hD it _ h2 d), hk it _ h2 trivial (.inl h1), h3⟩
  wrs := by
    rintro D xs h ⟨a, c, n, h1, h2, h3⟩ b hb
    rw [List.mem_singleton] at hb; subst hb
    exact ⟨h1, _, _, h2, rfl, by show Value.type "range_iterator" ≠ Value.type "range"; decide⟩
  item := by
    rintro D x xs s target Q E ⟨a, c, n, h1, h2, h3⟩ hal hQ
    cases n with
    | zero => cases h3
    | succ n =>
      cases h3
      refine wpAny_pyNext_range_item h2 (by omega) fun h' hi' hs' => ?_
      refine letOwned_other (n := "range_iterator") hi' rfl rfl (by decide) (hQ _ h' _ (V.int _ _) ⟨a + c, c, n, h1, ?_, rfl⟩ fun b o' hb e => (hs'.2 b (by simpa using hb)).trans e)
      have e : ((n + 1 : Nat) : Int) - 1 = (n : Int) := by omega
      rw [e] at hi'
      exact hi'
  done := by
    rintro D s Q E ⟨a, c, n, h1, h2, h3⟩ hQ
    cases n with
    | zero => exact wpAny_pyNext_range_end hh h2 (by omega) fun h' he => ⟨rfl, hQ h' _ fun b o hb e => he b o (by simpa using hb) e⟩
    | succ n => cases h3
  self := by
    rintro D xs s Q E ⟨a, c, n, h1, h2, h3⟩ hQ
    exact wpAny_pyIter_rangeiter h2 hQ

theorem fresh_addr (h : Heap) : h.get? h.objs.size = none := by
  cases q : h.get? h.objs.size with
  | none => rfl
  | some o' => exact absurd (Heap.lt_size q) (Nat.lt_irrefl _)
theorem not_dom {D : Addr → Prop} {h : Heap} (hD : ∀ b, D b → (h.get? b).isSome) : ¬ D h.objs.size := fun d => by
  have := hD _ d; rw [fresh_addr] at this; cases this

theorem IterOk.lst {Γ : Cx} {xs : List PV} : IterOk Γ (.lst xs) xs := by
  intro A n D s v Q E _ hA hB hv hD hQ
  obtain ⟨l, items, rfl, h1, h2, h3⟩ := V_lst.mp hv
  refine wpAny_pyIter_list h2 (hQ _ _ (JList s.heap.objs.size) _ (Iter.list hA.handled _) ?_ (Gr.heap _ (Kp.push _ _)) fun b hb => by rw [List.mem_singleton] at hb; subst hb; exact fresh_addr _)
  have hlt : l ≠ s.heap.objs.size := by obtain ⟨o, ho, _⟩ := h2; exact Nat.ne_of_lt (Heap.lt_size ho)
  refine ⟨l, 0, items, not_dom hD, h1, hlt, ⟨_, Heap.get?_push_size _ rfl, rfl, rfl⟩, h2.push _, ?_⟩
  simpa using h3.grow (Kp.push _ _)
theorem IterOk.tup {Γ : Cx} {xs : List PV} : IterOk Γ (.tup xs) xs := by
  intro A n D s v Q E _ hA hB hv hD hQ
  obtain ⟨l, items, rfl, h2, h3⟩ := V_tup.mp hv
  have h2' : s.heap.IsTuple l items := h2
  refine wpAny_pyIter_tuple h2' (hQ _ _ (JTup s.heap.objs.size) _ (Iter.tup hA.handled _) ?_ (Gr.heap _ (Kp.push _ _)) fun b hb => by rw [List.mem_singleton] at hb; subst hb; exact fresh_addr _)
  have hlt : l ≠ s.heap.objs.size := by obtain ⟨o, ho, _⟩ := h2; exact Nat.ne_of_lt (Heap.lt_size ho)
  refine ⟨l, 0, items, not_dom hD, hlt, ⟨_, Heap.get?_push_size _ rfl, rfl, rfl⟩, IsTup.keeps h2 (Kp.push _ _), ?_⟩
  simpa using h3.grow (Kp.push _ _)
theorem IterOk.rng {Γ : Cx} {a b c : Int} (hs : Builtin.Range.small a b c = true) (n : Nat) (hn : Builtin.Range.rangeSize a b c = (n : Int)) : IterOk Γ (.rng a b c) (rngItems a c n) := by
  intro A m D s v Q E _ hA hB hv hD hQ
  obtain ⟨r, t, u, z, rfl, h1⟩ := V_rng.mp hv
  refine wpAny_pyIter_range h1 hs (hQ _ _ (JRng s.heap.objs.size) _ (Iter.rng hA.handled _) ?_ (Gr.heap _ (Kp.push _ _)) fun b hb => by rw [List.mem_singleton] at hb; subst hb; exact fresh_addr _)
  refine ⟨a, c, n, not_dom hD, ?_, rfl⟩
  rw [← hn]
  exact Heap.get?_push_size _ rfl

/-! ## for -/

/-- as Sp, but for what an iterator writes -/
structure SpW (F : Fm) (wr : List Addr) (μ μ' : Own) (s s' : Shared) : Prop where
  keep : ∀ b o, b ∉ wr → s.heap.get? b = some o → b ≠ F.L → (∀ x, F.cl.lookup x ≠ some b) → ¬ Dm F μ b → s'.heap.get? b = some o
  alive : ∀ b, b ∉ wr → (s.heap.get? b).isSome → (s'.heap.get? b).isSome
  dom : ∀ b, b ∉ wr → (s.heap.get? b).isSome → Dm F μ' b → Dm F μ b
  gens : s'.gens = s.gens
  os : s'.os = s.os
theorem SpW.trans {F : Fm} {wr : List Addr} {μ μ' μ'' : Own} {s s' s'' : Shared} (a : SpW F wr μ μ' s s') (b : SpW F wr μ' μ'' s' s'') : SpW F wr μ μ'' s s'' where
  keep := fun x o hw e h1 h2 h3 => b.keep x o hw (a.keep x o hw e h1 h2 h3) h1 h2 fun d => h3 (a.dom x hw (by rw [e]; rfl) d)
  alive := fun x hw e => b.alive x hw (a.alive x hw e)
  dom := fun x hw e d => a.dom x hw e (b.dom x hw (a.alive x hw e) d)
  gens := b.gens.trans a.gens
  os := b.os.trans a.os
theorem Sp.toW {F : Fm} {wr : List Addr} {μ μ' : Own} {s s' : Shared} (a : Sp F μ μ' s s') : SpW F wr μ μ' s s' :=
  ⟨fun b o _ e h1 h2 h3 => a.keep b o e h1 h2 h3, fun b _ e => a.alive b e, fun b _ e d => a.dom b e d, a.gens, a.os⟩
theorem SpW.wr {F : Fm} {wr : List Addr} {μ : Own} {s : Shared} {h' : Heap} {tk : Nat} (hk : ∀ b o, b ∉ wr → s.heap.get? b = some o → h'.get? b = some o) : SpW F wr μ μ s { s with heap := h', toks := tk } :=
  ⟨fun b o hw e _ _ _ => hk b o hw e, fun b hw e => by obtain ⟨o, ho⟩ := Option.isSome_iff_exists.mp e; show (h'.get? b).isSome; rw [hk b o hw ho]; rfl, fun _ _ _ d => d, rfl, rfl⟩

section
variable {Γ : Cx} {k : Nat} {sc : Scope} {σ : Loc} {μ : Own} {pos : Pos} {P : Fl → Loc → Own → Prop} {F : Fm} {h₀ : Heap} {s : Shared}

/-- what a statement keeps for trees and iterators -/
theorem Sx.hk {σ' : Loc} {μ' : Own} {s' : Shared} (X : Sx Γ h₀ sc F σ μ s) (X' : Sx Γ h₀ sc F σ' μ' s') (sp : Sp F μ μ' s s') :
    ∀ b o, s.heap.get? b = some o → DataOk o.data → (¬ Dm F μ b ∨ o.cls = .type "tuple" ∨ o.cls = .type "range") → s'.heap.get? b = some o := by
  intro b o hb hd hc
  by_cases hFD : F.D b
  · obtain ⟨o', ho'⟩ := Option.isSome_iff_exists.mp (X.dold b hFD)
    have := X.keep b o' ho'
    rw [hb] at this; cases this
    exact X'.keep b o ho'
  · have hn : ¬ Dm F μ b := by
      rcases hc with hc | hc
      · exact hc
      · rintro (q | q)
        · exact hFD q
        · obtain ⟨p, hp, rfl⟩ := List.mem_map.mp q
          have := X.own p.1 p.2 hp
          cases hq : p.2 with
          | list xs =>
            rw [hq] at this; obtain ⟨items, ⟨o', ho', hc', _⟩, _⟩ := this
            rw [hb] at ho'; cases ho'
            rw [hc'] at hc; rcases hc with hc | hc <;> exact absurd hc (by decide)
          | barr l =>
            rw [hq] at this; obtain ⟨o', ho', hc', _⟩ := this
            rw [hb] at ho'; cases ho'
            rw [hc'] at hc; rcases hc with hc | hc <;> exact absurd hc (by decide)
    refine sp.keep b o hb (fun q => ?_) (fun x q => ?_) hn
    · obtain ⟨m, ⟨oL, es, ep, hoL, hdL, _⟩, _⟩ := X.ns
      rw [q, hoL] at hb; cases hb; rw [hdL] at hd; exact hd
    · obtain ⟨v, oc, hoc, hdc⟩ := X.cellsAll x b q
      rw [hoc] at hb; cases hb; rw [hdc] at hd; exact hd
theorem Sx.step {σ' : Loc} {μ' : Own} {s' : Shared} (X : Sx Γ h₀ sc F σ μ s) (X' : Sx Γ h₀ sc F σ' μ' s') (sp : Sp F μ μ' s s') {x : PV} {v : Value} (hv : V (Dm F μ) s.heap x v) : V (Dm F μ') s'.heap x v :=
  hv.move (fun b o hb hn => X.hk X' sp b o hb hn.ok.1 hn.ok.2) fun b o hb d => sp.dom b (by rw [hb]; rfl) d

/-- what an iterator's step leaves -/
theorem Sx.wr {wr : List Addr} {h' : Heap} {tk : Nat} (X : Sx Γ h₀ sc F σ μ s) (hk : ∀ b o, b ∉ wr → s.heap.get? b = some o → h'.get? b = some o)
    (hw : ∀ b ∈ wr, ¬ Dm F μ b ∧ ∃ o vs, s.heap.get? b = some o ∧ o.data = .fields vs ∧ o.cls ≠ .type "range") (hn : ∀ b ∈ wr, h₀.get? b = none) : Sx Γ h₀ sc F σ μ { s with heap := h', toks := tk } := by
  have hnode : ∀ b o, s.heap.get? b = some o → Node (Dm F μ) b o → h'.get? b = some o := fun b o hb hn => hk b o (fun q => by
    obtain ⟨_, o', vs, ho', hd', hc'⟩ := hw b q
    rw [hb] at ho'; cases ho'
    rcases hn with ⟨_, _, hn, _⟩ | ⟨hn, _⟩
    · rw [hd'] at hn; cases hn
    · exact hc' hn) hb
  have hv : ∀ {x v}, V (Dm F μ) s.heap x v → V (Dm F μ) h' x v := fun e => e.move hnode fun _ _ _ d => d
  have hvs : ∀ {x v}, Vs (Dm F μ) s.heap x v → Vs (Dm F μ) h' x v := fun e => e.move hnode fun _ _ _ d => d
  have hold : ∀ b o, h₀.get? b = some o → h'.get? b = some o := fun b o e => hk b o (fun q => by rw [hn b q] at e; cases e) (X.keep b o e)
  have hcell : ∀ c v, s.heap.IsCell c v → h'.IsCell c v := fun c v ⟨o, ho, hd⟩ => ⟨o, hk c o (fun q => by
    obtain ⟨_, o', vs, ho', hd', _⟩ := hw c q
    rw [ho] at ho'; cases ho'; rw [hd] at hd'; cases hd') ho, hd⟩
  obtain ⟨m, hm, hmv⟩ := X.ns
  have hm' : h'.Ns F.L m := by
    obtain ⟨o, es, ep, ho, hd, r⟩ := hm
    exact ⟨o, es, ep, hk _ o (fun q => by
      obtain ⟨_, o', vs, ho', hd', _⟩ := hw _ q
      rw [ho] at ho'; cases ho'; rw [hd] at hd'; cases hd') ho, hd, r⟩
  refine ⟨⟨X.ok, fun b o e => hold b o (X.baseh b o e), ⟨m, hm', fun x v a b => let ⟨val, e1, e2⟩ := hmv x v a b; ⟨val, e1, hv e2⟩⟩, fun x v a b => let ⟨c, val, e1, e2, e3⟩ := X.cel x v a b; ⟨c, val, e1, hcell _ _ e2, hv e3⟩, fun a o hm => ?_, fun b hb => ?_⟩,
    hold, X.baseh, X.newL, fun x e => let ⟨c, v, a1, a2, a3⟩ := X.cells x e; ⟨c, v, a1, a2, hcell _ _ a3⟩, fun x c e => let ⟨v, a3⟩ := X.cellsAll x c e; ⟨v, hcell _ _ a3⟩, X.cellsApart, X.ownNew, X.dold, X.apart⟩
  · have hnw : a ∉ wr := fun q => (hw a q).1 (.inr (List.mem_map.mpr ⟨_, hm, rfl⟩))
    have := X.own a o hm
    cases o with
    | list xs => obtain ⟨items, ⟨o, ho, r⟩, e⟩ := this; exact ⟨items, ⟨o, hk a o hnw ho, r⟩, hvs e⟩
    | barr l => obtain ⟨o, ho, r⟩ := this; exact ⟨o, hk a o hnw ho, r⟩
  · obtain ⟨o, ho⟩ := Option.isSome_iff_exists.mp (X.dold b hb)
    show (h'.get? b).isSome
    rw [hold b o ho]; rfl

/-- a target takes a value -/
def As (Γ : Cx) (k : Nat) (sc : Scope) (σ : Loc) (μ : Own) (target : Expr) (v : PV) (σ' : Loc) : Prop :=
  ∀ (A : Around) (n : Nat) (F : Fm) (h₀ : Heap) (s : Shared) (val : Value) (Q : Unit → Shared → Prop) (E : Value → Shared → Prop), n + k ≤ 8 → Lv n A → Sx Γ h₀ sc F σ μ s → V (Dm F μ) s.heap v val →
    (∀ s', Sx Γ h₀ sc F σ' μ s' → Sp F μ μ s s' → Q () s') → wpAny Γ.M A (assign target (F.env sc) val) Q E s
theorem As.name {x : Str} {v : PV} (hl : isPlace (sc.names.lookup x) = true := by decide +kernel) (hk : sc.kind = .function := by kernel_rfl) : As Γ k sc σ μ (.Name x pos) v ((x, v) :: σ) :=
  fun A n F h₀ s val Q E hn hA X hv hQ => wpAny_assign_Name (X.store hv hl hk fun s' X' sp _ => hQ s' X' sp)

theorem codeAny_for1 {prog : Program} {w : World} {A : Around} {R : Result → Shared → Prop} {target : Expr} {it : Addr} {body orelse : List Stmt} {env : Env}
    (h : wpAny (model prog w) A (pyNext (.ref it)) (fun r s₁ => match r with
      | none => wpAny (model prog w) A (execs orelse env) (fun f s₃ => R (.ok f) s₃) (notedBy (model prog w) A env fun e s' => R (.error e) s') s₁
      | some v => wpAny (model prog w) A (letOwnedTupleGo target (.ref it) v) (fun _ s₁' => wpAny (model prog w) A (assign target env v) (fun _ s₂ => wpAny (model prog w) A (execs body env) (fun f s₃ => match f with
          | .next | .cont => codeAny (model prog w) A (.forLoop target (.ref it) body orelse env) R s₃
          | .brk => R (.ok .next) s₃
          | .ret v => R (.ok (.ret v)) s₃) (notedBy (model prog w) A env fun e s' => R (.error e) s') s₂) (notedBy (model prog w) A env fun e s' => R (.error e) s') s₁') (notedBy (model prog w) A env fun e s' => R (.error e) s') s₁)
      (notedBy (model prog w) A env fun e s' => R (.error e) s') s) :
    codeAny (model prog w) A (.forLoop target (.ref it) body orelse env) R s := by
  refine codeAny_of_tree ?_
  show wpAny _ _ ((forTurn target (.ref it) body orelse env).onRaise (fun x => do noteFrame x env; theTreesLotGoes x)) _ _ s
  refine wpAny_noted ?_
  simp only [forTurn]
  refine wpAny_bind (wpAny_standAt (wpAny_bind (wpAny_onRaise (wpAny_mono h (fun r s₁ h₁ => ?_) fun _ _ h' => wpAny_standAt h'))))
  cases r with
  | none => exact wpAny_pure ⟨rfl, codeAny_block h₁⟩
  | some v =>
    refine wpAny_bind (wpAny_mono h₁ (fun _ s₁' h₁' => ?_) fun _ _ h' => h')
    refine wpAny_bind (wpAny_mono h₁' (fun _ s₂ h₂ => wpAny_bind (wpAny_mono h₂ (fun f s₃ h₃ => ?_) fun _ _ h' => h')) fun _ _ h' => h')
    cases f with
    | next => exact wpAny_pure ⟨rfl, h₃⟩
    | cont => exact wpAny_pure ⟨rfl, h₃⟩
    | brk => exact wpAny_pure h₃
    | ret v => exact wpAny_pure h₃

def Fo (Γ : Cx) (k : Nat) (sc : Scope) (σ : Loc) (μ : Own) (target : Expr) (body orelse : List Stmt) (xs : List PV) (P : Fl → Loc → Own → Prop) : Prop :=
  ∀ (A : Around) (n : Nat) (F : Fm) (h₀ : Heap) (s : Shared) (R : Result → Shared → Prop) (it : Addr) (wr : List Addr) (J : (Addr → Prop) → List PV → Heap → Prop), n + k ≤ 8 → Lv n A → Sx Γ h₀ sc F σ μ s →
    Iter Γ A it wr J → J (Dm F μ) xs s.heap → (∀ b ∈ wr, h₀.get? b = none) →
    (∀ fl σ' μ' f s', P fl σ' μ' → Sx Γ h₀ sc F σ' μ' s' → SpW F wr μ μ' s s' → FlV (Dm F μ') s'.heap fl f → R (.ok f) s') → codeAny Γ.M A (.forLoop target (.ref it) body orelse (F.env sc)) R s

theorem X1.for {target iter : Expr} {body orelse : List Stmt} {p : PV} {xs : List PV} (he : Ev Γ k sc σ μ iter p) (hi : IterOk Γ p xs) (h : Fo Γ k sc σ μ target body orelse xs P)
    (hs : ∀ env x, foldedSetIterable iter env x = pure x := by intro _ _; kernel_rfl) : X1 Γ k sc σ μ (.For target iter body orelse pos) P := by
  intro A n F h₀ s Q E hn hA X hQ
  refine wpAny_For (he A n F s _ _ hn hA X.toSt fun v s₁ g₁ hv => ?_) (hs _)
  have X₁ := X.grow g₁
  refine hi A n (Dm F μ) s₁ v _ _ (by omega) hA X₁.base hv X₁.toSt.dom fun it wr J s₂ hI hJ g₂ hw => ?_
  have X₂ := X₁.grow g₂
  refine h A n F h₀ s₂ _ it wr J hn hA X₂ hI hJ (fun b hb => ?_) fun fl σ' μ' f s' hP X' sp hf => ?_
  · cases q : h₀.get? b with
    | none => rfl
    | some o => have := X₁.keep b o q; rw [hw b hb] at this; cases this
  · have hnw : ∀ b, (s₁.heap.get? b).isSome → b ∉ wr := fun b hb q => by rw [hw b q] at hb; cases hb
    have g := g₁.trans g₂
    refine hQ fl σ' μ' f s' hP X' ⟨fun b o e h1 h2 h3 => ?_, fun b e => ?_, fun b e d => ?_, sp.gens.trans g.gens, sp.os.trans g.os⟩ hf
    · exact sp.keep b o (hnw b (by rw [g₁.keep b o e]; rfl)) (g.keep b o e) h1 h2 h3
    · exact sp.alive b (hnw b (g₁.keep.alive b e)) (g.keep.alive b e)
    · exact sp.dom b (hnw b (g₁.keep.alive b e)) (g.keep.alive b e) d

theorem Fo.nil {target : Expr} {body orelse : List Stmt} (h : Xs Γ k sc σ μ orelse P) : Fo Γ k sc σ μ target body orelse [] P := by
  intro A n F h₀ s R it wr J hn hA X hI hJ hw hR
  refine codeAny_for1 (wpAny_mono (hI.done (Dm F μ) s (fun s₁ => wpAny Γ.M A (execs orelse (F.env sc)) (fun f s₃ => R (.ok f) s₃) (notedBy Γ.M A (F.env sc) fun e s' => R (.error e) s') s₁) _ hJ fun h' tk hk => ?_) (fun r s₁ hr => ?_) fun _ _ e => e)
  · have X' := X.wr (tk := tk) hk (hI.wrs _ _ _ hJ) hw
    exact h A n F h₀ _ _ _ hn hA X' fun fl σ' μ' f s' hP X'' sp hf => hR fl σ' μ' f s' hP X'' ((SpW.wr hk).trans sp.toW) hf
  · obtain ⟨rfl, hr⟩ := hr; exact hr

theorem Fo.cons {target : Expr} {body orelse : List Stmt} {x : PV} {xs : List PV} {σ₁ : Loc} (ha : As Γ k sc σ μ target x σ₁)
    (h : Xs Γ k sc σ₁ μ body (fun fl σ' μ' => match fl with | .next | .cont => Fo Γ k sc σ' μ' target body orelse xs P | .brk => P .next σ' μ' | .ret v => P (.ret v) σ' μ')) : Fo Γ k sc σ μ target body orelse (x :: xs) P := by
  intro A n F h₀ s R it wr J hn hA X hI hJ hw hR
  refine codeAny_for1 (wpAny_mono (hI.item (Dm F μ) x xs s target (fun v s₁ => wpAny Γ.M A (assign target (F.env sc) v) (fun _ s₂ => wpAny Γ.M A (execs body (F.env sc)) (fun f s₃ => match f with
          | .next | .cont => codeAny Γ.M A (.forLoop target (.ref it) body orelse (F.env sc)) R s₃
          | .brk => R (.ok .next) s₃
          | .ret v => R (.ok (.ret v)) s₃) (notedBy Γ.M A (F.env sc) fun e s' => R (.error e) s') s₂) (notedBy Γ.M A (F.env sc) fun e s' => R (.error e) s') s₁) _ hJ X.toSt.dom fun v h' tk hv hJ' hk => ?_) (fun r s₁ hr => ?_) fun _ _ e => e)
  · have X' := X.wr (tk := tk) hk (hI.wrs _ _ _ hJ) hw
    refine ha A n F h₀ _ v _ _ hn hA X' hv fun s₂ X₂ sp₂ => ?_
    refine h A n F h₀ s₂ _ _ hn hA X₂ fun fl σ' μ' f s' hP X'' sp hf => ?_
    have spa := sp₂.trans sp
    have spW : SpW F wr μ μ' s s' := (SpW.wr hk).trans spa.toW
    have next : Fo Γ k sc σ' μ' target body orelse xs P → codeAny Γ.M A (.forLoop target (.ref it) body orelse (F.env sc)) R s' := fun hfo =>
      hfo A n F h₀ s' R it wr J hn hA X'' hI (hI.move _ _ _ _ _ (X'.hk X'' spa) (fun b o hb d => spa.dom b (by rw [hb]; rfl) d) hJ') hw
        fun fl2 σ2 μ2 f2 s2 hP2 X2 sp2 hf2 => hR fl2 σ2 μ2 f2 s2 hP2 X2 (spW.trans sp2) hf2
    cases fl with
    | next => have : f = .next := hf; subst this; exact next hP
    | cont => have : f = .cont := hf; subst this; exact next hP
    | brk => have : f = .brk := hf; subst this; exact hR .next σ' μ' _ s' hP X'' spW rfl
    | ret v => obtain ⟨val, rfl, hv⟩ := hf; exact hR (.ret v) σ' μ' _ s' hP X'' spW ⟨val, rfl, hv⟩
  · cases r with
    | none => exact hr.elim
    | some v => exact hr
theorem Fo.less {σ' : Loc} {target : Expr} {body orelse : List Stmt} {xs : List PV} (h : ∀ x v, σ'.lookup x = some v → σ.lookup x = some v) (hx : Fo Γ k sc σ' μ target body orelse xs P) : Fo Γ k sc σ μ target body orelse xs P :=
  fun A n F h₀ s R it wr J hn hA X => hx A n F h₀ s R it wr J hn hA (X.less h)
end
end Mine

namespace Mine

section
variable {Γ : Cx} {k : Nat} {sc : Scope} {σ : Loc} {μ : Own} {pos : Pos}

theorem V.newList {D : Addr → Prop} {h : Heap} {xs : List PV} {vs : List Value} (hD : ∀ b, D b → (h.get? b).isSome) (e : Vs D h xs vs) :
    V D (h.push { cls := .type "list", data := .seq vs.toArray }) (.lst xs) (.ref h.objs.size) :=
  V_lst.mpr ⟨_, vs.toArray, rfl, not_dom hD, ⟨_, Heap.get?_push_size _ rfl, rfl, _, rfl⟩, by simpa using e.grow (Kp.push _ _)⟩
theorem V.newTup {D : Addr → Prop} {h : Heap} {xs : List PV} {vs : List Value} (e : Vs D h xs vs) :
    V D (h.push { cls := .type "tuple", data := .seq vs.toArray }) (.tup xs) (.ref h.objs.size) :=
  V_tup.mpr ⟨_, vs.toArray, rfl, ⟨_, Heap.get?_push_size _ rfl, rfl, _, rfl⟩, by simpa using e.grow (Kp.push _ _)⟩

theorem Ev.tuple {es : List Expr} {vs : List PV} {kd : Nat} (h : Es Γ k sc σ μ pos es vs) (hs : vs.length ≤ 1000) : Ev Γ k sc σ μ (.Tuple es kd pos) (.tup vs) := by
  intro A n F s Q E hn hA st hQ
  refine wpAny_Tuple (h A n F s _ _ hn hA st fun vals s₁ g₁ hv => ⟨?_, hQ _ _ (g₁.trans (Gr.heap _ (Kp.push _ _))) (V.newTup hv)⟩)
  have := hv.length; rw [sizeLine_eq]; omega
theorem Ev.list {es : List Expr} {vs : List PV} (h : Es Γ k sc σ μ pos es vs) (hs : vs.length ≤ 1000) : Ev Γ k sc σ μ (.List es pos) (.lst vs) := by
  intro A n F s Q E hn hA st hQ
  refine wpAny_List (h A n F s _ _ hn hA st fun vals s₁ g₁ hv => ⟨?_, hQ _ _ (g₁.trans (Gr.heap _ (Kp.push _ _))) (V.newList (st.grow g₁).dom hv)⟩)
  have := hv.length; rw [sizeLine_eq]; omega

/-! ### items -/
def HasItem (Γ : Cx) (a : PV) : Prop := ∀ (D : Addr → Prop) (s : Shared) (v : Value), V D s.heap a v → ∃ T id, s.TypeIs v T ∧ typeLookup (.type T) "__getitem__" = pure (some (.builtin id))
theorem HasItem.lst {xs : List PV} : HasItem Γ (.lst xs) := fun D s v hv => by
  obtain ⟨a, items, rfl, _, h, _⟩ := V_lst.mp hv
  exact ⟨_, _, h.typeIs, slot_list_getitem.lookup⟩
theorem HasItem.tup {xs : List PV} : HasItem Γ (.tup xs) := fun D s v hv => by
  obtain ⟨a, items, rfl, h, _⟩ := V_tup.mp hv
  exact ⟨_, _, h.typeIs, F.slot_tuple_getitem.lookup⟩
theorem HasItem.bytes {l : List UInt8} : HasItem Γ (.bytes l) := fun D s v hv => by
  obtain ⟨t, rfl⟩ := V_bytes.mp hv
  exact ⟨_, _, typeIs_bytes s _ _, FB.slot_bytes_getitem.lookup⟩
theorem HasItem.str {l : List Nat} : HasItem Γ (.str l) := fun D s v hv => by
  obtain ⟨t, rfl⟩ := V_str.mp hv
  exact ⟨_, _, typeIs_str s _ _, F.slot_str_getitem.lookup⟩

theorem Ev.sub {value slice : Expr} {a i r : PV} (hv : Ev Γ k sc σ μ value a) (hi : Ev Γ k sc σ μ slice i) (ho : Op2 Γ getItem a i r) (hT : HasItem Γ a)
    (hs : ∀ o i, subscripted slice false o i = operate [o, i] (getItem o i) := by intro _ _; kernel_rfl) : Ev Γ k sc σ μ (.Subscript value slice pos) r := by
  intro A n F s Q E hn hA st hQ
  refine Subscript_ (hv A n F s _ _ hn hA st fun o s₁ g₁ ho₁ => hi A n F s₁ _ _ hn hA (st.grow g₁) fun iv s₂ g₂ hi₂ => ?_)
  obtain ⟨T, id, hT, hl⟩ := hT _ s₂ o (ho₁.grow g₂.keep)
  have st₂ := (st.grow g₁).grow g₂
  exact tail_any hT hl (ho A n _ s₂ o iv _ _ (by omega) hA st.ok st₂.base (ho₁.grow g₂.keep) hi₂ st₂.dom fun v s₃ g₃ hv => hQ v s₃ ((g₁.trans g₂).trans g₃) hv) (hs o iv)

theorem Op2.item {xs : List PV} {i : Int} {r : PV} (h0 : 0 ≤ i) (hx : xs[i.toNat]? = some r) (hl : xs.length < 2 ^ 62) : Op2 Γ getItem (.lst xs) (.int i) r := by
  intro A n D s x y Q E _ _ _ _ hv hy _ hQ
  obtain ⟨a, items, rfl, _, h, hvs⟩ := V_lst.mp hv
  obtain ⟨t, rfl⟩ := V_int.mp hy
  obtain ⟨v, e1, e2⟩ := hvs.get _ hx
  have hlt : i.toNat < xs.length := (List.getElem?_eq_some_iff.mp hx).1
  exact wpAny_getItem_list h h0 (by omega) (by simpa using e1) (hQ _ _ (Gr.refl _) e2)
theorem Op2.itemNeg {xs : List PV} {i : Int} {r : PV} (h0 : i < 0) (h1 : -(xs.length : Int) ≤ i) (hx : xs[(i + xs.length).toNat]? = some r) (hl : xs.length < 2 ^ 62) : Op2 Γ getItem (.lst xs) (.int i) r := by
  intro A n D s x y Q E _ _ _ _ hv hy _ hQ
  obtain ⟨a, items, rfl, _, h, hvs⟩ := V_lst.mp hv
  obtain ⟨t, rfl⟩ := V_int.mp hy
  obtain ⟨v, e1, e2⟩ := hvs.get _ hx
  have hlen : items.size = xs.length := by simpa using hvs.length
  exact wpAny_getItem_list_neg h h0 (by omega) (by omega) (by rw [hlen]; simpa using e1) (hQ _ _ (Gr.refl _) e2)

/-! ### slices -/
def Pt (Γ : Cx) (k : Nat) (sc : Scope) (σ : Loc) (μ : Own) : Option Expr → Option Int → Prop
  | none, o => o = none
  | some e, o => ∃ i, o = some i ∧ Ev Γ k sc σ μ e (.int i)
theorem Pt.none : Pt Γ k sc σ μ none none := rfl
theorem Pt.some {e : Expr} {i : Int} (h : Ev Γ k sc σ μ e (.int i)) : Pt Γ k sc σ μ (some e) (some i) := ⟨i, rfl, h⟩
theorem Pt.run {o : Option Expr} {p : Option Int} (h : Pt Γ k sc σ μ o p) {A : Around} {n : Nat} {F : Fm} {s : Shared} {Q : Value → Shared → Prop} {E : Value → Shared → Prop} (hn : n + k ≤ 8) (hA : Lv n A) (st : St Γ sc F σ μ s)
    (hQ : ∀ v s', Gr s s' → IsPart v p → Q v s') : wpAny Γ.M A (evalPart o (F.env sc)) Q E s := by
  cases o with
  | none => have : p = .none := h; subst this; exact wpAny_pure (hQ _ _ (Gr.refl _) .none)
  | some e =>
    obtain ⟨i, rfl, h⟩ := h
    refine h A n F s _ _ hn hA st fun v s' g hv => ?_
    obtain ⟨t, rfl⟩ := V_int.mp hv
    exact hQ _ _ g (.int _ _)

def SliceOk (Γ : Cx) (a : PV) (lo hi st : Option Int) (r : PV) : Prop :=
  ∀ (A : Around) (n : Nat) (D : Addr → Prop) (s : Shared) (x : Value) (sl : Addr) (vl vu vs : Value) (Q : Value → Shared → Prop) (E : Value → Shared → Prop), n ≤ 8 → Lv n A → V D s.heap a x → (∀ b, D b → (s.heap.get? b).isSome) →
    s.heap.IsSliceOf sl vl vu vs → IsPart vl lo → IsPart vu hi → IsPart vs st →
    (∀ val s', Gr s s' → V D s'.heap r val → Q val s') → wpAny Γ.M A (getItem x (.ref sl)) Q E s

theorem IsPart.flat {v : Value} {p : Option Int} (h : IsPart v p) : True := trivial

theorem Ev.slice {value : Expr} {lower upper : Option Expr} {p : Pos} {a r : PV} {lo hi : Option Int} (hv : Ev Γ k sc σ μ value a) (hl : Pt Γ k sc σ μ lower lo) (hu : Pt Γ k sc σ μ upper hi) (ho : SliceOk Γ a lo hi none r) (hT : HasItem Γ a) :
    Ev Γ k sc σ μ (.Subscript value (.Slice lower upper none p) pos) r := by
  intro A n F s Q E hn hA st hQ
  refine Subscript_ (hv A n F s _ _ hn hA st fun o s₁ g₁ ho₁ => wpAny_Slice (hl.run hn hA (st.grow g₁) fun vl s₂ g₂ pl => hu.run hn hA ((st.grow g₁).grow g₂) fun vu s₃ g₃ pu => wpAny_pure ?_))
  have g : Gr s₁ { s₃ with heap := s₃.heap.push { cls := .type "slice", data := .fields #[vl, vu, .none] } } := (g₂.trans g₃).trans (Gr.heap _ (Kp.push _ _))
  have st₃ := (st.grow g₁).grow g
  have ho₃ := ho₁.grow g.keep
  obtain ⟨T, id, hT, hl⟩ := hT _ _ o ho₃
  exact tail_any hT hl (ho A n _ _ o _ vl vu .none _ _ (by omega) hA ho₃ st₃.dom (Heap.IsSliceOf.new ..) pl pu .none fun v s₄ g₄ hv => hQ v s₄ ((g₁.trans g).trans g₄) hv) rfl
theorem Ev.slice3 {value step : Expr} {lower upper : Option Expr} {p : Pos} {a r : PV} {lo hi : Option Int} {c : Int} (hv : Ev Γ k sc σ μ value a) (hl : Pt Γ k sc σ μ lower lo) (hu : Pt Γ k sc σ μ upper hi) (hc : Ev Γ k sc σ μ step (.int c)) (ho : SliceOk Γ a lo hi (some c) r) (hT : HasItem Γ a) :
    Ev Γ k sc σ μ (.Subscript value (.Slice lower upper (some step) p) pos) r := by
  intro A n F s Q E hn hA st hQ
  refine Subscript_ (hv A n F s _ _ hn hA st fun o s₁ g₁ ho₁ => wpAny_Slice (hl.run hn hA (st.grow g₁) fun vl s₂ g₂ pl => hu.run hn hA ((st.grow g₁).grow g₂) fun vu s₃ g₃ pu =>
    (Pt.some hc).run hn hA (((st.grow g₁).grow g₂).grow g₃) fun vs s₄ g₄ ps => ?_))
  have g : Gr s₁ { s₄ with heap := s₄.heap.push { cls := .type "slice", data := .fields #[vl, vu, vs] } } := ((g₂.trans g₃).trans g₄).trans (Gr.heap _ (Kp.push _ _))
  have st₃ := (st.grow g₁).grow g
  have ho₃ := ho₁.grow g.keep
  obtain ⟨T, id, hT, hl⟩ := hT _ _ o ho₃
  exact tail_any hT hl (ho A n _ _ o _ vl vu vs _ _ (by omega) hA ho₃ st₃.dom (Heap.IsSliceOf.new ..) pl pu ps fun v s₄ g₄ hv => hQ v s₄ ((g₁.trans g).trans g₄) hv) rfl

/-! ### built-ins of ints and lists -/
theorem CallOk.len_lst {xs : List PV} (h : xs.length < 2 ^ 62) : CallOk Γ k (.builtin "len") [.lst xs] (.int xs.length) := by
  intro A n D s vals Q E _ _ _ _ hvs _ hQ
  rw [Vs_cons] at hvs
  obtain ⟨v, r, rfl, hv, hr⟩ := hvs
  rw [Vs_nil] at hr; subst hr
  obtain ⟨a, items, rfl, _, hl, he⟩ := V_lst.mp hv
  have hlen : items.size = xs.length := by simpa using he.length
  refine PyProof.Rows.len_list hl (by omega) (hQ _ _ (Gr.toks _) ?_)
  rw [hlen]; exact V.int _ _
theorem CallOk.len_bytes {l : List UInt8} (h : l.length ≤ 1099511627776) : CallOk Γ k (.builtin "len") [.bytes l] (.int l.length) := by
  intro A n D s vals Q E _ _ _ _ hvs _ hQ
  rw [Vs_cons] at hvs
  obtain ⟨v, r, rfl, hv, hr⟩ := hvs
  rw [Vs_nil] at hr; subst hr
  obtain ⟨t, rfl⟩ := V_bytes.mp hv
  exact PySem.W.len_bytes (by simpa using h) (hQ _ _ (Gr.toks _) (by simpa using V.int _ _))
theorem CallOk.abs {i : Int} : CallOk Γ k (.builtin "abs") [.int i] (.int (if i < 0 then -i else i)) := by
  intro A n D s vals Q E _ _ _ _ hvs _ hQ
  rw [Vs_cons] at hvs
  obtain ⟨v, r, rfl, hv, hr⟩ := hvs
  rw [Vs_nil] at hr; subst hr
  obtain ⟨t, rfl⟩ := V_int.mp hv
  exact PyProof.Rows.call_abs_int fun u tk => hQ _ _ (Gr.toks _) (V.int _ _)
theorem CallOk.range1 {b : Int} : CallOk Γ k (.type "range") [.int b] (.rng 0 b 1) := by
  intro A n D s vals Q E _ _ _ _ hvs _ hQ
  rw [Vs_cons] at hvs
  obtain ⟨v, r, rfl, hv, hr⟩ := hvs
  rw [Vs_nil] at hr; subst hr
  obtain ⟨t, rfl⟩ := V_int.mp hv
  exact PySem.call_range_1 (hQ _ _ (Gr.heap _ (Kp.push _ _)) (V_rng.mpr ⟨_, _, _, _, rfl, Heap.get?_push_size _ rfl⟩))
theorem CallOk.range2 {a b : Int} : CallOk Γ k (.type "range") [.int a, .int b] (.rng a b 1) := by
  intro A n D s vals Q E _ _ _ _ hvs _ hQ
  rw [Vs_cons] at hvs
  obtain ⟨v, r, rfl, hv, hr⟩ := hvs
  rw [Vs_cons] at hr
  obtain ⟨v2, r2, rfl, hv2, hr2⟩ := hr
  rw [Vs_nil] at hr2; subst hr2
  obtain ⟨t, rfl⟩ := V_int.mp hv
  obtain ⟨u, rfl⟩ := V_int.mp hv2
  exact PySem.call_range_2 (hQ _ _ (Gr.heap _ (Kp.push _ _)) (V_rng.mpr ⟨_, _, _, _, rfl, Heap.get?_push_size _ rfl⟩))
theorem CallOk.range3 {a b c : Int} (hc : c ≠ 0) (hs : c.natAbs < 1000) : CallOk Γ k (.type "range") [.int a, .int b, .int c] (.rng a b c) := by
  intro A n D s vals Q E _ _ _ _ hvs _ hQ
  rw [Vs_cons] at hvs
  obtain ⟨v, r, rfl, hv, hr⟩ := hvs
  rw [Vs_cons] at hr
  obtain ⟨v2, r2, rfl, hv2, hr2⟩ := hr
  rw [Vs_cons] at hr2
  obtain ⟨v3, r3, rfl, hv3, hr3⟩ := hr2
  rw [Vs_nil] at hr3; subst hr3
  obtain ⟨t, rfl⟩ := V_int.mp hv
  obtain ⟨u, rfl⟩ := V_int.mp hv2
  obtain ⟨z, rfl⟩ := V_int.mp hv3
  exact call_range_3 hc (hQ _ _ (Gr.heap _ (Kp.push _ _)) (V_rng.mpr ⟨_, _, _, _, rfl, Heap.get?_push_size _ rfl⟩)) (.inl (PyProof.noPylong_small (by omega)))
theorem CallOk.list_lst {xs : List PV} (h : xs.length ≤ 1000000) : CallOk Γ k (.type "list") [.lst xs] (.lst xs) := by
  intro A n D s vals Q E _ _ _ _ hvs hD hQ
  rw [Vs_cons] at hvs
  obtain ⟨v, r, rfl, hv, hr⟩ := hvs
  rw [Vs_nil] at hr; subst hr
  obtain ⟨a, items, rfl, _, ⟨o, ho, hc, m, hd⟩, he⟩ := V_lst.mp hv
  have hlen : items.size = xs.length := by simpa using he.length
  refine PySem.call_list_seq (hsz := by rw [sizeLine_eq]; omega) a (.inl rfl) ho hc hd fun h' c' hk hD' => hQ _ _ (Gr.heap _ hk) ?_
  exact V_lst.mpr ⟨_, items, rfl, not_dom hD, ⟨_, hD', rfl, _, rfl⟩, he.grow hk⟩

theorem Truth.lst {xs : List PV} (h : xs.length < 2 ^ 62) : Truth Γ (.lst xs) (!xs.isEmpty) := by
  intro A n D s x Q E _ _ _ hx hQ
  obtain ⟨a, items, rfl, _, hl, he⟩ := V_lst.mp hx
  have hlen : items.size = xs.length := by simpa using he.length
  refine wpAny_truthy_list hl (by omega) ?_
  have e : items.isEmpty = xs.isEmpty := by
    unfold Array.isEmpty
    rw [hlen]; cases xs <;> simp
  rw [e]; exact hQ _ (Gr.toks _)
end

/-! ### saying less -/
def Sub (σ : Loc) : Loc → Prop
  | [] => True
  | (x, v) :: r => σ.lookup x = some v ∧ Sub σ r
theorem Sub.to {σ : Loc} : ∀ {σ' : Loc}, Sub σ σ' → ∀ x v, σ'.lookup x = some v → σ.lookup x = some v
  | [], _, x, v, e => nomatch e
  | (y, w) :: r, h, x, v, e => by
    rw [List.lookup_cons] at e
    cases q : (x == y) with
    | true => rw [q] at e; cases e; rw [beq_iff_eq.mp q]; exact h.1
    | false => rw [q] at e; exact Sub.to h.2 x v e
theorem Wh.sub {Γ : Cx} {k : Nat} {sc : Scope} {σ σ' : Loc} {μ : Own} {P : Fl → Loc → Own → Prop} {t : Expr} {body orelse : List Stmt} (h : Sub σ σ') (hx : Wh Γ k sc σ' μ t body orelse P) : Wh Γ k sc σ μ t body orelse P := Wh.less h.to hx
theorem Fo.sub {Γ : Cx} {k : Nat} {sc : Scope} {σ σ' : Loc} {μ : Own} {P : Fl → Loc → Own → Prop} {t : Expr} {body orelse : List Stmt} {xs : List PV} (h : Sub σ σ') (hx : Fo Γ k sc σ' μ t body orelse xs P) : Fo Γ k sc σ μ t body orelse xs P := Fo.less h.to hx
theorem Xs.sub {Γ : Cx} {k : Nat} {sc : Scope} {σ σ' : Loc} {μ : Own} {P : Fl → Loc → Own → Prop} {sts : List Stmt} (h : Sub σ σ') (hx : Xs Γ k sc σ' μ sts P) : Xs Γ k sc σ μ sts P := Xs.less h.to hx

def fnAt (p : Program) (i : Nat) : Arguments × List Stmt × Scope := match p.main.body[i]? with
  | some (.FunctionDef _ a b _ _ _ s _ _ _) => (a, b, s)
  | _ => (⟨[], [], none, [], [], none, []⟩, [], default)

/-- a plain def of the text at a written address of the top's heap -/
structure DefAt (Γ : Cx) (a : Addr) (name : Str) (d : Arguments × List Stmt × Scope) : Prop where
  out : ∃ o pm cd doc, Γ.B.get? a = some o ∧ o.data = .func (docDef name d.1 d.2.1 d.2.2 pm cd doc) ∧ Γ.B.CodeRec cd name
theorem DefAt.keep {Γ : Cx} {a : Addr} {name : Str} {d} (h : DefAt Γ a name d) : KeepOk Γ (.ref a) := by
  obtain ⟨o, pm, cd, doc, h1, h2, h3⟩ := h.out
  exact KeepOk.fn h1 h2
theorem DefAt.call {Γ : Cx} {k : Nat} {a : Addr} {name : Str} {params : Arguments} {body : List Stmt} {scope : Scope} {args : List PV} {r : PV} (h : DefAt Γ a name (params, body, scope))
    (hbody : Xs Γ k scope ((params.args.map (·.arg)).zip args) [] body (fun fl _ μ' => fl = .ret r))
    (hbind : ∀ (pm cd doc : Value) (vals : List Value), vals.length = args.length → bindArgs (docDef name params body scope pm cd doc) ⟨vals, []⟩ = pure ((params.args.map (·.arg)).zip vals))
    (hnd : (params.args.map (·.arg)).Nodup := by decide +kernel)
    (hloc : (params.args.map (·.arg)).all (fun x => decide (scope.names.lookup x = some .local)) = true := by decide +kernel)
    (hco : scope.isCoroutine = false := by kernel_rfl) (hgen : scope.isGenerator = false := by kernel_rfl) (hk : scope.kind = .function := by kernel_rfl)
    (hcell : (scope.names.all fun x => decide (x.2 ≠ .cell)) = true := by decide +kernel) : CallOk Γ (k + 1) (.ref a) args r := by
  obtain ⟨o, pm, cd, doc, h1, h2, h3⟩ := h.out
  exact CallOk.fn h1 h2 h3 (hbind pm cd doc) hbody hnd hloc hco hgen hk hcell
theorem CallOk.mono {Γ : Cx} {k k' : Nat} {f : Value} {args : List PV} {r : PV} (h : CallOk Γ k f args r) (hk : k ≤ k') : CallOk Γ k' f args r :=
  fun A n D s vals Q E hn => h A n D s vals Q E (by omega)
/-- a statement, by the state behind it -/
theorem Xs.cut {Γ : Cx} {k : Nat} {sc : Scope} {σ : Loc} {μ : Own} {P : Fl → Loc → Own → Prop} {st : Stmt} {rest : List Stmt} (σ₁ : Loc) (μ₁ : Own)
    (h : X1 Γ k sc σ μ st (fun fl σ' μ' => fl = .next ∧ Sub σ' σ₁ ∧ μ' = μ₁)) (hr : Xs Γ k sc σ₁ μ₁ rest P) : Xs Γ k sc σ μ (st :: rest) P := by
  refine Xs.cons (h.mono fun fl σ' μ' hh => ?_)
  obtain ⟨rfl, h1, rfl⟩ := hh
  exact hr.sub h1

/-! ### from the head -/
theorem DefAt.of {p : Program} {loose : List Str} {mean : ExcName → Option Value} {mg mb : Str → Option Value} {B : Heap} (T : Top p loose mean mg mb B) (i j : Nat) (name : Str) (pgm : Program)
    (hd : ((recsOf p)[i]?.map fun d => (d.name, d.params, d.body, d.scope)) = some (name, fnAt pgm j)) : ∃ a, mg name = some (.ref a) ∧ ∀ Γ : Cx, Γ.B = B → DefAt Γ a name (fnAt pgm j) := by
  cases hr : (recsOf p)[i]? with
  | none => rw [hr] at hd; cases hd
  | some d =>
    rw [hr] at hd
    obtain ⟨a, o, pm, cd, doc, h1, h2, h3, h4⟩ := T.fn d (List.mem_of_getElem? hr)
    simp only [Option.map_some, Option.some.injEq, Prod.mk.injEq] at hd
    obtain ⟨e1, e2⟩ := hd
    subst e1
    refine ⟨a, h1, fun Γ hB => ⟨o, pm, cd, doc, by rw [hB]; exact h2, ?_, by rw [hB]; exact h4⟩⟩
    rw [← e2]
    exact h3
theorem GloV.fn {p : Program} {loose : List Str} {mean : ExcName → Option Value} {mg mb : Str → Option Value} {B : Heap} (T : Top p loose mean mg mb B) {x : Str} {v : Value} (h : mg x = some v) : GloV B x v := ⟨mg, T.g, .inl h⟩
theorem GloV.bi {p : Program} {loose : List Str} {mean : ExcName → Option Value} {mg mb : Str → Option Value} {B : Heap} (T : Top p loose mean mg mb B) {K : Frag} (X : K.In B) {x : Str} {v : Value} (e : nsIn K mainGlobals x = some none) (hv : bootBuiltins x = some v) (hn : x ≠ "__name__") : GloV B x v :=
  ⟨mg, T.g, .inr ⟨mg_none_of X T.g e, mb, T.b, (T.builtins x hn).trans hv⟩⟩
theorem GloV.top {p : Program} {loose : List Str} {mean : ExcName → Option Value} {mg mb : Str → Option Value} {B : Heap} (T : Top p loose mean mg mb B) {K : Frag} (X : K.In B) {x : Str} {v : Value} (e : nsIn K mainGlobals x = some (some v)) : GloV B x v := ⟨mg, T.g, .inl (mg_of X T.g e)⟩

def GlOk (B : Heap) : List (Str × PV) → Prop
  | [] => True
  | (x, p) :: r => (∃ v, GloV B x v ∧ ∀ D h, V D h p v) ∧ GlOk B r
theorem GlOk.to {B : Heap} : ∀ {l : List (Str × PV)}, GlOk B l → ∀ x p, l.lookup x = some p → ∃ v, GloV B x v ∧ ∀ D h, V D h p v
  | [], _, _, _, e => nomatch e
  | (y, q) :: r, h, x, p, e => by
    rw [List.lookup_cons] at e
    cases c : (x == y) with
    | true => rw [c] at e; cases e; rw [beq_iff_eq.mp c]; exact h.1
    | false => rw [c] at e; exact GlOk.to h.2 x p e
theorem GlOk.one {B : Heap} {x : Str} {v : Value} (h : GloV B x v) : ∃ v', GloV B x v' ∧ ∀ D h, V D h (.obj v) v' := ⟨v, h, fun _ _ => V_obj.mpr rfl⟩
theorem GlOk.bytes {B : Heap} {x : Str} {l : List UInt8} {t : Tok} (h : GloV B x (.bytes l.toArray t)) : ∃ v', GloV B x v' ∧ ∀ D h, V D h (.bytes l) v' := ⟨_, h, fun _ _ => V.bytes _ _⟩

theorem Lv.caller {env : Env} : Lv 0 (callerA.deeper env) := ⟨rfl, by show 1 + 300 + 1 ≤ 310 + 10 * 0; decide, by show 4 + 3 ≤ 100 + 100 * 0; decide⟩

/-- the law's call: from its body's judgement to the head's goal -/
theorem law_runs {Γ : Cx} {k : Nat} {sc : Scope} {body : List Stmt} {ns : List Int} {l a : Addr} {vs : List Value} {cd : Value} {name : Str} {s₁ : Shared} {h₁ : Heap} {tk : Nat} {m : Str → Option Value} {x : Str}
    {Q : Flow → Shared → Prop} {E : Value → Shared → Prop}
    (ok : Γ.Ok) (hB : Γ.B = s₁.heap) (hk : k ≤ 8) (hl : s₁.heap.IsList l vs.toArray) (hi : IntsAre vs ns)
    (F : Fr s₁.heap s₁.heap.objs.size h₁ m) (hm : m x = some (.ref l)) (hx : sc.names.lookup x = some .local) (hc : (sc.names.all fun x => decide (x.2 ≠ .cell)) = true)
    (hb : Xs Γ k sc [(x, .lst (ns.map .int))] [] body (fun fl _ _ => fl = .ret (.bool true)))
    (hQ : ∀ s', Kp s₁.heap s'.heap → s'.gens = s₁.gens → s'.os = s₁.os → Q (.ret (.bool true)) s') :
    wpAny Γ.M (callerA.deeper (envOf name sc s₁.heap.objs.size a cd)) (execs body (envOf name sc s₁.heap.objs.size a cd)) Q E { s₁ with heap := h₁, toks := tk } := by
  let Fm' : Fm := ⟨s₁.heap.objs.size, [], name ++ ".<locals>.", some a, cd, some s₁.heap.objs.size, fun _ => False⟩
  have X : Sx Γ s₁.heap sc Fm' [(x, .lst (ns.map .int))] [] { s₁ with heap := h₁, toks := tk } := by
    have hkeep : Kp s₁.heap h₁ := F.keep
    have hl' : h₁.IsList l vs.toArray := let ⟨o, ho, r⟩ := hl; ⟨o, hkeep _ _ ho, r⟩
    refine ⟨⟨ok, by rw [hB]; exact hkeep, ⟨m, F.ns, fun y v h1 h2 => ?_⟩, fun y v h1 h2 => ?_, fun _ _ h => (nomatch h), fun b hb => hb.elim⟩, hkeep, by rw [hB]; exact fun _ _ e => e, fresh_addr _, fun y hy => ?_, fun y c h => (nomatch h), fun y z c h => (nomatch h), fun b h => (nomatch h), fun b h => h.elim, List.nodup_nil⟩
    · rw [List.lookup_cons] at h1
      cases q : (y == x) with
      | true =>
        rw [q] at h1; cases h1; rw [beq_iff_eq.mp q]
        exact ⟨_, hm, V_lst.mpr ⟨l, vs.toArray, rfl, (fun d => d.elim id fun q => (nomatch q)), hl', by simpa using Vs.of_ints hi⟩⟩
      | false => rw [q] at h1; cases h1
    · exfalso
      rw [List.lookup_cons] at h1
      cases q : (y == x) with
      | true => rw [beq_iff_eq.mp q, hx] at h2; rcases h2 with h2 | h2 <;> cases h2
      | false => rw [q] at h1; cases h1
    · exfalso
      obtain ⟨l₁, l₂, he, _⟩ := List.lookup_eq_some_iff.mp hy
      have := of_decide_eq_true (List.all_eq_true.mp hc (y, .cell) (by rw [he]; simp))
      exact this rfl
  refine hb _ 0 Fm' s₁.heap _ Q E (by omega) Lv.caller X fun fl σ' μ' f s' hP X' sp hf => ?_
  subst hP
  obtain ⟨val, rfl, hv⟩ := hf
  rw [V_bool] at hv; subst hv
  exact hQ s' X'.keep sp.gens sp.os

theorem IterOk.upTo {Γ : Cx} {b : Int} {n : Nat} (h0 : b = (n : Int)) (h1 : n < 2 ^ 62) : IterOk Γ (.rng 0 b 1) (rngItems ((0 : Nat) : Int) 1 n) := by
  subst h0
  refine IterOk.rng (small_one (by decide) (by decide) (by omega) (by omega)) n ?_
  rw [rangeSize_one]; split <;> omega
end Mine

namespace Mine

def adLoop (delta divs : Int) : Int := if h : 455 < delta then adLoop (delta / 35) (divs + 36) else divs + 36 * delta / (delta + 38)
termination_by delta.toNat
decreasing_by omega

def adaptF (delta : Int) (first : Bool) (n : Int) : Int := adLoop ((if first then delta / 700 else delta / 2) + (if first then delta / 700 else delta / 2) / n) 0

/-! ## adapt in numbers -/
theorem adLoop_small {e : Int} (h : e ≤ 455) (d : Int) : adLoop e d = d + 36 * e / (e + 38) := by
  rw [adLoop, dif_neg (by omega)]
theorem adLoop_big {e : Int} (h : 455 < e) (d : Int) : adLoop e d = adLoop (e / 35) (d + 36) := by
  rw [adLoop, dif_pos h]
theorem adLoop_acc (e : Int) : ∀ d : Int, adLoop e d = d + adLoop e 0 := by
  obtain ⟨m, hm⟩ : ∃ m : Nat, e.toNat ≤ m := ⟨_, Nat.le_refl _⟩
  induction m using Nat.strongRecOn generalizing e with
  | ind m ih =>
    intro d
    by_cases h : 455 < e
    · rw [adLoop_big h d, adLoop_big h 0, ih (e / 35).toNat (by omega) (e / 35) (Nat.le_refl _) (d + 36), ih (e / 35).toNat (by omega) (e / 35) (Nat.le_refl _) (0 + 36)]
      omega
    · rw [adLoop_small (by omega), adLoop_small (by omega)]; omega
theorem adLoop_step {e : Int} (h : 455 < e) : adLoop e 0 = 36 + adLoop (e / 35) 0 := by
  rw [adLoop_big h, adLoop_acc (e / 35) (0 + 36)]; omega

/-- e * b ≥ a is e ≥ the quotient rounded up -/
theorem ceil_le {a b e : Int} (hb : 0 < b) : (a + b - 1) / b ≤ e ↔ a ≤ e * b := by
  constructor
  · intro h
    have h1 : a + b - 1 < ((a + b - 1) / b + 1) * b := Int.lt_ediv_add_one_mul_self _ hb
    have h2 : ((a + b - 1) / b + 1) * b ≤ (e + 1) * b := Int.mul_le_mul_of_nonneg_right (by omega) (by omega)
    have h3 : (e + 1) * b = e * b + b := by rw [Int.add_mul, Int.one_mul]
    omega
  · intro h
    have h1 : (a + b - 1) / b * b ≤ a + b - 1 := Int.ediv_mul_le _ (by omega)
    by_cases hc : (a + b - 1) / b ≤ e
    · exact hc
    · have h2 : (e + 1) * b ≤ (a + b - 1) / b * b := Int.mul_le_mul_of_nonneg_right (by omega) (by omega)
      have h3 : (e + 1) * b = e * b + b := by rw [Int.add_mul, Int.one_mul]
      omega

/-- the step of a small number -/
theorem small_step {e s : Int} (he : 0 ≤ e) (hs : s < 36) : s ≤ 36 * e / (e + 38) ↔ (38 * s + 35 - s) / (36 - s) ≤ e := by
  have h1 : (38 * s + 35 - s) = 38 * s + (36 - s) - 1 := by omega
  rw [h1, ceil_le (by omega), Int.le_ediv_iff_mul_le (by omega)]
  have h2 : s * (e + 38) = s * e + s * 38 := Int.mul_add ..
  have h3 : e * (36 - s) = e * 36 - e * s := Int.mul_sub ..
  have h4 : s * e = e * s := Int.mul_comm ..
  omega

/-- the least number with a level and a step -/
def leastF (level step : Int) : Int := if 0 < level ∧ step = 9 then 456 * 35 ^ (level - 1).toNat else (38 * step + 35 - step) / (36 - step) * 35 ^ level.toNat

theorem small_le {e : Int} (he : 0 ≤ e) (h : e ≤ 455) : 36 * e / (e + 38) ≤ 33 := by
  have : 36 * e / (e + 38) < 34 := Int.ediv_lt_of_lt_mul (by omega) (by omega)
  omega
theorem adLoop_nonneg {e : Int} (he : 0 ≤ e) : 0 ≤ adLoop e 0 := by
  obtain ⟨m, hm⟩ : ∃ m : Nat, e.toNat ≤ m := ⟨_, Nat.le_refl _⟩
  induction m using Nat.strongRecOn generalizing e with
  | ind m ih =>
    by_cases h : 455 < e
    · rw [adLoop_step h]
      have := ih (e / 35).toNat (by omega) (e := e / 35) (by omega) (Nat.le_refl _)
      omega
    · rw [adLoop_small (by omega)]
      have : 0 ≤ 36 * e / (e + 38) := Int.ediv_nonneg (by omega) (by omega)
      omega

theorem ceil_pos {s : Int} (h : 9 ≤ s) (h2 : s ≤ 33) : 13 ≤ (38 * s + 35 - s) / (36 - s) := by
  rw [Int.le_ediv_iff_mul_le (by omega)]; omega
theorem ceil_pos' {s : Int} (h : 10 ≤ s) (h2 : s ≤ 33) : 15 ≤ (38 * s + 35 - s) / (36 - s) := by
  rw [Int.le_ediv_iff_mul_le (by omega)]; omega

theorem le_div35 {a e : Int} : a ≤ e / 35 ↔ a * 35 ≤ e := Int.le_ediv_iff_mul_le (by decide)

/-- the heart: from which number on the bias is at least 36 a level and a step -/
theorem bias_ge (level : Nat) : ∀ (step e : Int), 0 ≤ e → 0 ≤ step → step ≤ 33 → (level = 0 ∨ 9 ≤ step) → (36 * (level : Int) + step ≤ adLoop e 0 ↔ leastF level step ≤ e) := by
  induction level with
  | zero =>
    intro step e he h0 h1 _
    have hl : leastF ((0 : Nat) : Int) step = (38 * step + 35 - step) / (36 - step) := by
      unfold leastF
      rw [if_neg (by omega)]
      simp
    rw [hl]
    by_cases h : 455 < e
    · rw [adLoop_step h]
      have := adLoop_nonneg (e := e / 35) (by omega)
      have h2 : (38 * step + 35 - step) / (36 - step) ≤ 455 := by
        have : (38 * step + 35 - step) / (36 - step) < 456 := Int.ediv_lt_of_lt_mul (by omega) (by omega)
        omega
      constructor <;> intro <;> omega
    · rw [adLoop_small (by omega), ← small_step he (by omega)]
      constructor <;> intro <;> omega
  | succ level ih =>
    intro step e he h0 h1 h2
    have h9 : 9 ≤ step := by omega
    have hp : (0 : Int) < 35 ^ level := Int.pow_pos (by decide)
    have hp35 : (35 : Int) ^ (level + 1) = 35 ^ level * 35 := Int.pow_succ ..
    by_cases h : 455 < e
    · rw [adLoop_step h]
      have ih' := ih step (e / 35) (by omega) h0 h1 (.inr h9)
      have e1 : (36 * ((level + 1 : Nat) : Int) + step ≤ 36 + adLoop (e / 35) 0) ↔ (36 * (level : Int) + step ≤ adLoop (e / 35) 0) := by omega
      rw [e1, ih', le_div35]
      unfold leastF
      by_cases h10 : step = 9
      · subst h10
        rw [if_pos (show (0 : Int) < ((level + 1 : Nat) : Int) ∧ (9 : Int) = 9 from ⟨by omega, rfl⟩)]
        have e2 : (((level + 1 : Nat) : Int) - 1).toNat = level := by omega
        rw [e2]
        cases level with
        | zero =>
          rw [if_neg (by omega)]
          have : (38 * 9 + 35 - 9 : Int) / (36 - 9) * 35 ^ (((0 : Nat) : Int)).toNat * 35 = 455 := by decide
          rw [this]
          have : (456 : Int) * 35 ^ 0 = 456 := by decide
          rw [this]
          constructor <;> intro <;> omega
        | succ level =>
          rw [if_pos (show (0 : Int) < ((level + 1 : Nat) : Int) ∧ (9 : Int) = 9 from ⟨by omega, rfl⟩)]
          have e3 : (((level + 1 : Nat) : Int) - 1).toNat = level := by omega
          rw [e3]
          have : (456 : Int) * 35 ^ (level + 1) = 456 * 35 ^ level * 35 := by rw [Int.pow_succ, Int.mul_assoc]
          rw [this]
      · rw [if_neg (by omega), if_neg (by omega)]
        have e2 : (((level + 1 : Nat) : Int)).toNat = level + 1 := by omega
        have e3 : ((level : Nat) : Int).toNat = level := by omega
        rw [e2, e3, hp35, Int.mul_assoc]
    · rw [adLoop_small (by omega)]
      have h3 := small_le he (by omega)
      have h4 : (456 : Int) ≤ leastF ((level + 1 : Nat) : Int) step := by
        unfold leastF
        by_cases h10 : step = 9
        · rw [if_pos ⟨by omega, h10⟩]
          have : (1 : Int) ≤ 35 ^ (((level + 1 : Nat) : Int) - 1).toNat := Int.pow_pos (by decide)
          omega
        · rw [if_neg (by omega)]
          have e2 : (((level + 1 : Nat) : Int)).toNat = level + 1 := by omega
          rw [e2, hp35]
          have h5 := ceil_pos' (s := step) (by omega) h1
          have h6 : 15 * (35 ^ level * 35) ≤ (38 * step + 35 - step) / (36 - step) * ((35 : Int) ^ level * 35) := Int.mul_le_mul_of_nonneg_right h5 (by omega)
          omega
      constructor <;> intro <;> omega

/-- no bias is 34 or 35 above a level's 36, nor, from level one on, less than 9 -/
theorem bias_shape (e : Int) (he : 0 ≤ e) : ∃ (l : Nat) (s : Int), adLoop e 0 = 36 * (l : Int) + s ∧ 0 ≤ s ∧ s ≤ 33 ∧ (l = 0 ∨ 9 ≤ s) := by
  obtain ⟨m, hm⟩ : ∃ m : Nat, e.toNat ≤ m := ⟨_, Nat.le_refl _⟩
  induction m using Nat.strongRecOn generalizing e with
  | ind m ih =>
    by_cases h : 455 < e
    · obtain ⟨l, s, h1, h2, h3, h4⟩ := ih (e / 35).toNat (by omega) (e / 35) (by omega) (Nat.le_refl _)
      refine ⟨l + 1, s, ?_, h2, h3, .inr ?_⟩
      · rw [adLoop_step h, h1]; omega
      · rcases h4 with h4 | h4
        · subst h4
          have := (bias_ge 0 9 (e / 35) (by omega) (by decide) (by decide) (.inl rfl)).mpr (by
            have : leastF ((0 : Nat) : Int) 9 = 13 := by decide
            rw [this]; omega)
          omega
        · exact h4
    · have h1 := small_le he (by omega)
      have h2 : 0 ≤ 36 * e / (e + 38) := Int.ediv_nonneg (by omega) (by omega)
      exact ⟨0, 36 * e / (e + 38), by rw [adLoop_small (by omega)]; omega, h2, h1, .inl rfl⟩

/-- a number and its share reach m just from the number on that the law reckons -/
theorem share_ge {d m n : Int} (hn : 0 < n) (hd : 0 ≤ d) : m ≤ d + d / n ↔ m - m / (n + 1) ≤ d := by
  have h1 := Int.ediv_mul_le d (show n ≠ 0 by omega)
  have h2 := Int.lt_ediv_add_one_mul_self d hn
  have h3 := Int.ediv_mul_le m (show n + 1 ≠ 0 by omega)
  have h4 := Int.lt_ediv_add_one_mul_self m (show 0 < n + 1 by omega)
  generalize hq : d / n = q at *
  generalize hp : m / (n + 1) = p at *
  have e1 : (q + 1) * n = q * n + n := by rw [Int.add_mul, Int.one_mul]
  have e2 : p * (n + 1) = p * n + p := by rw [Int.mul_add, Int.mul_one]
  have e3 : (p + 1) * (n + 1) = p * n + p + n + 1 := by rw [Int.add_mul, e2, Int.one_mul]; omega
  constructor
  · intro h
    by_cases hc : p ≤ q
    · have : p * n ≤ q * n := Int.mul_le_mul_of_nonneg_right hc (by omega)
      by_cases hd2 : m - p ≤ d
      · exact hd2
      · have h5 : d + 1 + p ≤ m := by omega
        by_cases hpq : p = q
        · omega
        · have h6 : (p + 1) * n ≤ q * n := Int.mul_le_mul_of_nonneg_right (by omega) (by omega)
          have e4 : (p + 1) * n = p * n + n := by rw [Int.add_mul, Int.one_mul]
          omega
    · have : (q + 1) * n ≤ p * n := Int.mul_le_mul_of_nonneg_right (by omega) (by omega)
      omega
  · intro h
    by_cases hc : p ≤ q
    · omega
    · have : (q + 1) * n ≤ p * n := Int.mul_le_mul_of_nonneg_right (by omega) (by omega)
      omega

def nextF (level step : Int) : Int := if step < 33 then leastF level (step + 1) else leastF (level + 1) 9
def wholeF (first : Bool) : Int := if first then 700 else 2
def fromF (first : Bool) (n m : Int) : Int := wholeF first * (m - m / (n + 1))

theorem adaptF_ge {delta : Int} {first : Bool} {n : Int} (hd : 0 ≤ delta) (hn : 0 < n) (level : Nat) (step : Int) (h0 : 0 ≤ step) (h1 : step ≤ 33) (h2 : level = 0 ∨ 9 ≤ step) :
    36 * (level : Int) + step ≤ adaptF delta first n ↔ fromF first n (leastF level step) ≤ delta := by
  unfold adaptF fromF wholeF
  cases first with
  | true =>
    simp only [if_true]
    have hq : 0 ≤ delta / 700 := by omega
    have hq2 : 0 ≤ delta / 700 / n := Int.ediv_nonneg hq (by omega)
    rw [bias_ge level step _ (by omega) h0 h1 h2, share_ge hn hq, Int.le_ediv_iff_mul_le (by decide), Int.mul_comm]
  | false =>
    simp only [Bool.false_eq_true, if_false]
    have hq : 0 ≤ delta / 2 := by omega
    have hq2 : 0 ≤ delta / 2 / n := Int.ediv_nonneg hq (by omega)
    rw [bias_ge level step _ (by omega) h0 h1 h2, share_ge hn hq, Int.le_ediv_iff_mul_le (by decide), Int.mul_comm]

theorem adaptF_shape {delta : Int} {first : Bool} {n : Int} (hd : 0 ≤ delta) (hn : 0 < n) : ∃ (l : Nat) (s : Int), adaptF delta first n = 36 * (l : Int) + s ∧ 0 ≤ s ∧ s ≤ 33 ∧ (l = 0 ∨ 9 ≤ s) := by
  unfold adaptF
  refine bias_shape _ ?_
  cases first with
  | true =>
    simp only [if_true]
    have hq2 : 0 ≤ delta / 700 / n := Int.ediv_nonneg (by omega) (by omega)
    omega
  | false =>
    simp only [Bool.false_eq_true, if_false]
    have hq2 : 0 ≤ delta / 2 / n := Int.ediv_nonneg (by omega) (by omega)
    omega

/-- the law's three parts -/
theorem law01 {first : Bool} {n : Int} (hn : 0 < n) (level : Nat) (step : Int) (h0 : 0 ≤ step) (h1 : step ≤ 33) (h2 : level = 0 ∨ 9 ≤ step) {delta : Int} (hd : 0 ≤ delta) :
    (fromF first n (leastF level step) ≤ delta → delta < fromF first n (nextF level step) → adaptF delta first n = 36 * (level : Int) + step) ∧
    (delta < fromF first n (leastF level step) → adaptF delta first n < 36 * (level : Int) + step) ∧
    (fromF first n (nextF level step) ≤ delta → 36 * (level : Int) + step < adaptF delta first n) := by
  have a := adaptF_ge hd hn (first := first) level step h0 h1 h2
  obtain ⟨l, s, e1, e2, e3, e4⟩ := adaptF_shape hd hn (first := first)
  unfold nextF
  by_cases hs : step < 33
  · rw [if_pos hs]
    have b := adaptF_ge hd hn (first := first) level (step + 1) (by omega) (by omega) (h2.imp id fun h => by omega)
    refine ⟨fun c d => ?_, fun c => ?_, fun c => ?_⟩
    · have := a.mpr c
      have h3 : ¬ (36 * (level : Int) + (step + 1) ≤ adaptF delta first n) := fun q => by have := b.mp q; omega
      omega
    · have h3 : ¬ (36 * (level : Int) + step ≤ adaptF delta first n) := fun q => by have := a.mp q; omega
      omega
    · have := b.mpr c; omega
  · rw [if_neg hs]
    have b := adaptF_ge hd hn (first := first) (level + 1) 9 (by omega) (by omega) (.inr (by omega))
    have ec : ((level + 1 : Nat) : Int) = (level : Int) + 1 := by omega
    rw [ec] at b
    refine ⟨fun c d => ?_, fun c => ?_, fun c => ?_⟩
    · have := a.mpr c
      have h3 : ¬ (36 * ((level : Int) + 1) + 9 ≤ adaptF delta first n) := fun q => by have := b.mp q; omega
      omega
    · have h3 : ¬ (36 * (level : Int) + step ≤ adaptF delta first n) := fun q => by have := a.mp q; omega
      omega
    · have := b.mpr c; omega

theorem leastF_nonneg {level step : Int} (h0 : 0 ≤ step) (h1 : step ≤ 33) : 0 ≤ leastF level step := by
  unfold leastF
  split
  · have : (0 : Int) < 35 ^ (level - 1).toNat := Int.pow_pos (by decide)
    omega
  · exact Int.mul_nonneg (Int.ediv_nonneg (by omega) (by omega)) (Int.le_of_lt (Int.pow_pos (by decide)))
theorem leastF_lt {level step : Int} (h0 : 0 ≤ step) (h1 : step ≤ 33) (hl : level ≤ 12) : leastF level step < 2 ^ 74 := by
  have hp : ∀ k : Nat, k ≤ 12 → (35 : Int) ^ k ≤ 35 ^ 12 := fun k hk => by
    have := Nat.pow_le_pow_right (n := 35) (by decide) hk
    exact_mod_cast this
  unfold leastF
  split
  · have := hp (level - 1).toNat (by omega)
    have e : (35 : Int) ^ 12 = 3379220508056640625 := by decide
    omega
  · have h2 : (38 * step + 35 - step) / (36 - step) ≤ 455 := by
      have : (38 * step + 35 - step) / (36 - step) < 456 := Int.ediv_lt_of_lt_mul (by omega) (by omega)
      omega
    have h3 : 0 ≤ (38 * step + 35 - step) / (36 - step) := Int.ediv_nonneg (by omega) (by omega)
    have := hp level.toNat (by omega)
    have h4 : (38 * step + 35 - step) / (36 - step) * 35 ^ level.toNat ≤ 455 * 35 ^ 12 := Int.mul_le_mul h2 this (Int.le_of_lt (Int.pow_pos (by decide))) (by decide)
    have e : (35 : Int) ^ 12 = 3379220508056640625 := by decide
    omega
theorem fromF_nonneg {first : Bool} {n m : Int} (hn : 0 < n) (hm : 0 ≤ m) : 0 ≤ fromF first n m := by
  unfold fromF wholeF
  have : m / (n + 1) ≤ m := Int.ediv_le_self _ hm
  cases first <;> simp <;> omega
end Mine

namespace Mine
local macro_rules | `(tactic| wtm_at "side") => `(tactic| first | assumption | omega | decide | (simp; done) | (simp; omega) | skip)
local macro_rules | `(tactic| wtm_at "mul") => `(tactic| first | exact IntMulOk.of_left (intBits_le_64 (by omega) (by omega)) | exact IntMulOk.of_right (intBits_le_64 (by omega) (by omega)) | skip)
local macro_rules | `(tactic| wtm_at "cl") => `(tactic| fail "no contract")
local macro_rules | `(tactic| wtm_at "op") => `(tactic| first
  | with_reducible exact Op2.add | with_reducible exact Op2.sub
  | ((with_reducible refine' Op2.fdiv ?s1 ?s2); (case s1 => wtm_at "side"); (case s2 => wtm_at "side"))
  | ((with_reducible refine' Op2.mod ?s1); (case s1 => wtm_at "side"))
  | with_reducible exact Op2.eq | with_reducible exact Op2.lt | with_reducible exact Op2.gt | with_reducible exact Op2.le | with_reducible exact Op2.ge | with_reducible exact Op2.ne
  | ((with_reducible refine' Op2.mul ?s1); (case s1 => wtm_at "mul"))
  | with_reducible exact Op2.iadd | with_reducible exact Op2.isub
  | ((with_reducible refine' Op2.ifdiv ?s1 ?s2); (case s1 => wtm_at "side"); (case s2 => wtm_at "side"))
  | ((with_reducible refine' Op2.imul ?s1); (case s1 => wtm_at "mul"))
  | fail "no operation")
local macro_rules | `(tactic| wtm_at "evx") => `(tactic| fail "no expression")
local macro_rules | `(tactic| wtm_at "ev") => `(tactic| first
  | with_reducible exact Ev.cint | with_reducible exact Ev.cbool | with_reducible exact Ev.cnone | with_reducible exact Ev.cbytes
  | ((with_reducible refine' Ev.name ?hx); (case hx => exact rfl))
  | ((with_reducible refine' Ev.glob ?hx); (case hx => exact rfl))
  | ((with_reducible refine' Ev.bin ?hl ?hr ?ho); (case hl => wtm_at "ev"); (case hr => wtm_at "ev"); (case ho => wtm_at "op"))
  | ((with_reducible refine' Ev.cmp ?hl ?hr ?ho); (case hl => wtm_at "ev"); (case hr => wtm_at "ev"); (case ho => wtm_at "op"))
  | ((with_reducible refine' Ev.call ?hf ?hk ?ha ?hc); (case hf => wtm_at "ev"); (case hk => wtm_at "kp"); (case ha => wtm_at "es"); (case hc => wtm_at "cl"))
  | ((with_reducible refine' Ev.neg ?hl); (case hl => wtm_at "ev"))
  | ((with_reducible refine' Ev.tuple ?hl ?hs); (case hl => wtm_at "es"); (case hs => (simp; done)))
  | ((with_reducible refine' Ev.list ?hl ?hs); (case hl => wtm_at "es"); (case hs => (simp; done)))
  | wtm_at "evx")
local macro_rules | `(tactic| wtm_at "kp") => `(tactic| first | with_reducible exact KeepOk.builtin | with_reducible exact KeepOk.type | with_reducible assumption)
local macro_rules | `(tactic| wtm_at "es") => `(tactic| first | with_reducible exact Es.nil | ((with_reducible refine' Es.cons ?hl ?hr); (case hl => wtm_at "ev"); (case hr => wtm_at "es")))
local macro_rules | `(tactic| wtm_at "truth") => `(tactic| first | with_reducible exact Truth.bool)
local macro_rules | `(tactic| wtm_at "tr") => `(tactic| first
  | ((with_reducible refine' Tr.cmp ?hl ?hr ?ho); (case hl => wtm_at "ev"); (case hr => wtm_at "ev"); (case ho => wtm_at "op"))
  | ((with_reducible refine' Tr.not ?hl); (case hl => wtm_at "tr"))
  | ((with_reducible refine' Tr.and2 ?hl (fun h => ?hr)); (case hl => wtm_at "tr"); (case hr => wtm_at "tr"))
  | ((with_reducible refine' Tr.or2 ?hl (fun h => ?hr)); (case hl => wtm_at "tr"); (case hr => wtm_at "tr"))
  | ((with_reducible refine' Tr.val ?hl ?hr); (case hl => wtm_at "ev"); (case hr => wtm_at "truth"))
  | fail "no test")
local macro_rules | `(tactic| wtm_at "sub") => `(tactic| repeat' (first | exact True.intro | refine And.intro (by exact rfl) ?_))

abbrev pg := PySem.Challenge.pw_dm0101_01

variable {Γ : Cx}

theorem adapt_tail {delta n : Int} (hd : 0 ≤ delta) (hn : 0 < n) (hn2 : n < 2 ^ 64) :
    Xs Γ 0 (fnAt pg 1).2.2 [("delta", .int delta), ("numchars", .int n)] [] (fnAt pg 1).2.1.tail (fun fl _ _ => fl = .ret (.int (adLoop (delta + delta / n) 0))) := by
  refine Xs.cons (X1.aug rfl (by wtm_at "ev") (by wtm_at "op") ?_)
  refine Xs.cons (X1.assign (by wtm_at "ev") ?_)
  refine Xs.cons (X1.while ?_)
  have hd' : 0 ≤ delta / n := Int.ediv_nonneg hd (by omega)
  generalize he : delta + delta / n = e
  have he0 : 0 ≤ e := by omega
  clear he hd hd'
  refine Wh.sub (σ' := [("delta", .int e), ("divisions", .int 0)]) ⟨rfl, rfl, trivial⟩ ?_
  generalize hR : adLoop e 0 = R
  generalize hdv : (0 : Int) = dv at hR
  have he0' : 0 ≤ e := he0
  clear hdv he0
  obtain ⟨m, hm⟩ : ∃ m : Nat, e.toNat ≤ m := ⟨_, Nat.le_refl _⟩
  induction m using Nat.strongRecOn generalizing e dv with
  | ind m ih =>
    refine Wh.step (by wtm_at "tr") (fun hc => ?_) (fun hc => ?_)
    · have hc' := of_decide_eq_true hc
      refine Xs.cons (X1.assign (by wtm_at "ev") ?_)
      refine Xs.cons (X1.aug rfl (by wtm_at "ev") (by wtm_at "op") ?_)
      refine Xs.nil ?_
      refine Wh.sub (σ' := [("delta", .int (e / 35)), ("divisions", .int (dv + 36))]) ⟨rfl, rfl, trivial⟩ ?_
      rw [adLoop, dif_pos hc'] at hR
      exact ih (e / 35).toNat (by omega) (e / 35) (dv + 36) hR (by omega) (Nat.le_refl _)
    · have hc' := of_decide_eq_false hc
      refine Xs.nil ?_
      refine Xs.cons (X1.assign (by wtm_at "ev") ?_)
      refine Xs.cons (X1.ret (by wtm_at "ev") ?_)
      rw [adLoop, dif_neg hc'] at hR
      rw [hR]

theorem adapt_ok {a : Addr} (hA : DefAt Γ a "adapt" (fnAt pg 1)) {delta n : Int} {first : Bool} (hd : 0 ≤ delta) (hn : 0 < n) (hn2 : n < 2 ^ 64) :
    CallOk Γ 1 (.ref a) [.int delta, .bool first, .int n] (.int (adaptF delta first n)) := by
  refine DefAt.call hA ?_ ?_
  · refine Xs.cons (X1.ite (by wtm_at "tr") (fun hc => ?_) (fun hc => ?_))
    · subst hc
      refine Xs.cons (X1.aug rfl (by wtm_at "ev") (by wtm_at "op") ?_)
      refine Xs.nil ?_
      exact Xs.sub (σ' := [("delta", .int (delta / 700)), ("numchars", .int n)]) ⟨rfl, rfl, trivial⟩ (adapt_tail (by omega) hn hn2)
    · subst hc
      refine Xs.cons (X1.aug rfl (by wtm_at "ev") (by wtm_at "op") ?_)
      refine Xs.nil ?_
      exact Xs.sub (σ' := [("delta", .int (delta / 2)), ("numchars", .int n)]) ⟨rfl, rfl, trivial⟩ (adapt_tail (by omega) hn hn2)
  · intro pm cd doc vals h
    match vals, h with
    | [x, y, z], _ => rfl

theorem least_ok {a : Addr} (hA : DefAt Γ a "_law_least" (fnAt pg 3)) {level step : Int} (h0 : 0 ≤ level) (h1 : level ≤ 12) (h2 : 0 ≤ step) (h3 : step ≤ 33) :
    CallOk Γ 1 (.ref a) [.int level, .int step] (.int (leastF level step)) := by
  refine DefAt.call hA ?_ ?_
  · unfold leastF
    refine Xs.cons (X1.ite (by wtm_at "tr") (fun hc => ?_) (fun hc => ?_))
    · have hc' : 0 < level ∧ step = 9 := by simpa using hc
      rw [if_pos hc']
      refine Xs.cons (X1.ret (Ev.bin (by wtm_at "ev") (Ev.bin (by wtm_at "ev") (by wtm_at "ev") (Op2.pow (m := (level - 1).toNat) (by omega) (by decide) (by omega))) (Op2.mul (IntMulOk.of_left (intBits_le_64 (by decide) (by decide))))) rfl)
    · have hc' : ¬ (0 < level ∧ step = 9) := by simpa using hc
      rw [if_neg hc']
      refine Xs.nil ?_
      refine Xs.cons (X1.ret (Ev.bin (by wtm_at "ev") (Ev.bin (by wtm_at "ev") (by wtm_at "ev") (Op2.pow (m := level.toNat) (by omega) (by decide) (by omega))) (Op2.mul (IntMulOk.of_left (intBits_le_64 ?_ ?_)))) rfl)
      · have : 0 ≤ (38 * step + 35 - step) / (36 - step) := Int.ediv_nonneg (by omega) (by omega)
        omega
      · have : (38 * step + 35 - step) / (36 - step) < 456 := Int.ediv_lt_of_lt_mul (by omega) (by omega)
        omega
  · intro pm cd doc vals h
    match vals, h with
    | [x, y], _ => rfl

abbrev gl1 (aA aL : Addr) : List (Str × PV) := [("adapt", .obj (.ref aA)), ("_law_least", .obj (.ref aL)), ("list", .obj (.type "list")), ("range", .obj (.type "range")), ("len", .obj (.builtin "len")), ("abs", .obj (.builtin "abs"))]
abbrev G1 (w : World) (B : Heap) (aA aL : Addr) : Cx := ⟨PySem.Challenge.pw_dm0101_01, w, B, gl1 aA aL⟩

local macro_rules | `(tactic| wtm_at "cl") => `(tactic| first
  | ((with_reducible refine' CallOk.mono (adapt_ok (by with_reducible assumption) ?s1 ?s2 ?s3) ?s4); (case s1 => wtm_at "side"); (case s2 => wtm_at "side"); (case s3 => wtm_at "side"); (case s4 => decide))
  | ((with_reducible refine' CallOk.mono (least_ok (by with_reducible assumption) ?s1 ?s2 ?s3 ?s5) ?s4); (case s1 => wtm_at "side"); (case s2 => wtm_at "side"); (case s3 => wtm_at "side"); (case s5 => wtm_at "side"); (case s4 => decide))
  | with_reducible exact CallOk.abs
  | with_reducible exact CallOk.range1
  | ((with_reducible refine' CallOk.len_lst ?s1); (case s1 => wtm_at "side"))
  | ((with_reducible refine' CallOk.list_lst ?s1); (case s1 => wtm_at "side"))
  | fail "no contract")


abbrev bodyOf (st : List Stmt) : List Stmt := match st with | .For _ _ b _ _ :: _ => b | _ => []

theorem turn2 {w : World} {B : Heap} {aA aL : Addr} (hA : DefAt (G1 w B aA aL) aA "adapt" (fnAt pg 1)) (kA : KeepOk (G1 w B aA aL) (.ref aA)) (hL : DefAt (G1 w B aA aL) aL "_law_least" (fnAt pg 3)) (kL : KeepOk (G1 w B aA aL) (.ref aL))
    {nums : List Int} {y : Int} {first : Bool} {l : Nat} {step : Int} (hl : l ≤ 11) (h0 : 0 ≤ step) (h1 : step ≤ 33) (h2 : l = 0 ∨ 9 ≤ step) {P : Fl → Loc → Own → Prop}
    (h : ∀ σ', Sub σ' [("numbers", .lst (nums.map .int))] → P .next σ' []) :
    Xs (G1 w B aA aL) 2 (fnAt pg 4).2.2 [("y", .int y), ("first", .bool first), ("level", .int l), ("step", .int step), ("numbers", .lst (nums.map .int))] [] ((bodyOf (fnAt pg 4).2.1.tail).drop 6) P := by
  refine Xs.cons (X1.assign (by wtm_at "ev") ?_)
  generalize hs : 1 + y % 2000 = signs
  have hs1 : 0 < signs := by omega
  have hs2 : signs ≤ 2000 := by omega
  refine Xs.cons (X1.assign (by wtm_at "ev") ?_)
  refine Xs.cut [("y", .int y), ("first", .bool first), ("level", .int l), ("step", .int step), ("numbers", .lst (nums.map .int)), ("signs", .int signs), ("low", .int (leastF l step)), ("high", .int (nextF l step))] [] (X1.ite (by wtm_at "tr") (fun hc => ?_) (fun hc => ?_)) ?_
  · have hc' := of_decide_eq_true hc
    refine Xs.cons (X1.assign (by wtm_at "ev") ?_)
    refine Xs.nil ⟨rfl, ?_, rfl⟩
    have e : nextF l step = leastF l (step + 1) := if_pos hc'
    rw [e]; wtm_at "sub"
  · have hc' := of_decide_eq_false hc
    refine Xs.cons (X1.assign (by wtm_at "ev") ?_)
    refine Xs.nil ⟨rfl, ?_, rfl⟩
    have e : nextF l step = leastF (l + 1) 9 := if_neg hc'
    rw [e]; wtm_at "sub"
  have hlo0 := leastF_nonneg (level := l) h0 h1
  have hhi0 : 0 ≤ nextF l step := by unfold nextF; split <;> exact leastF_nonneg (by omega) (by omega)
  generalize hlow : leastF (l : Int) step = low at *
  generalize hhigh : nextF (l : Int) step = high at *
  refine Xs.cons (X1.assign (v := .int (wholeF first)) (Ev.ifexp (by wtm_at "tr") (fun hc => ?_) (fun hc => ?_)) ?_)
  · subst hc; exact Ev.cint
  · subst hc; exact Ev.cint
  have hw : wholeF first = 700 ∨ wholeF first = 2 := by cases first; exact .inr rfl; exact .inl rfl
  refine Xs.cons (X1.assign (by wtm_at "ev") ?_)
  refine Xs.cons (X1.assign (by wtm_at "ev") ?_)
  refine Xs.cons (X1.assign (by wtm_at "ev") ?_)
  have e1 : wholeF first * (low - low / (signs + 1)) = fromF first signs low := rfl
  have e2 : wholeF first * (high - high / (signs + 1)) = fromF first signs high := rfl
  rw [e1, e2]
  have law : ∀ {delta : Int}, 0 ≤ delta → (fromF first signs low ≤ delta → delta < fromF first signs high → adaptF delta first signs = 36 * (l : Int) + step) ∧
      (delta < fromF first signs low → adaptF delta first signs < 36 * (l : Int) + step) ∧ (fromF first signs high ≤ delta → 36 * (l : Int) + step < adaptF delta first signs) := by
    intro delta hd
    have := law01 (first := first) hs1 l step h0 h1 h2 hd
    rw [hlow, hhigh] at this
    exact this
  have hst := fromF_nonneg (first := first) hs1 hlo0
  have hen := fromF_nonneg (first := first) hs1 hhi0
  generalize fromF first signs low = start at *
  generalize fromF first signs high = en at *
  clear e1 e2 hw hlow hhigh hs
  refine Xs.cut [("first", .bool first), ("numbers", .lst (nums.map .int)), ("signs", .int signs), ("start", .int start), ("end", .int en), ("bias", .int (36 * (l : Int) + step))] [] (X1.ite (by wtm_at "tr") (fun hc => ?_) (fun hc => ?_)) ?_
  · have hc' := of_decide_eq_true hc
    have hm0 : 0 ≤ (if y < 0 then -y else y) % (en - start) := Int.emod_nonneg _ (by omega)
    have hm1 : (if y < 0 then -y else y) % (en - start) < en - start := Int.emod_lt_of_pos _ (by omega)
    refine Xs.cons (X1.for (by wtm_at "ev") IterOk.tup ?_)
    have one : ∀ (d : Int) (σ : Loc) (Q : Fl → Loc → Own → Prop) (sts : List Stmt), sts = bodyOf (match ((bodyOf (fnAt pg 4).2.1.tail).drop 13) with | .If _ b _ _ :: _ => b | _ => []) →
        start ≤ d → d < en → Sub σ [("first", .bool first), ("signs", .int signs), ("bias", .int (36 * (l : Int) + step)), ("delta", .int d)] → Q .next σ [] →
        Xs (G1 w B aA aL) 2 (fnAt pg 4).2.2 σ [] sts Q := by
      intro d σ Q sts he hd1 hd2 hsub hq
      subst he
      refine Xs.cons (X1.ite (Tr.less hsub.to (by wtm_at "tr")) (fun hc => ?_) (fun hc => Xs.nil (Xs.nil hq)))
      exact absurd ((law (delta := d) (by omega)).1 hd1 hd2) (of_decide_eq_true hc)
    refine Fo.cons As.name (one (start) _ _ _ rfl (by omega) (by omega) (by wtm_at "sub") ?_)
    refine Fo.cons As.name (one (start + (if y < 0 then -y else y) % (en - start)) _ _ _ rfl (by omega) (by omega) (by wtm_at "sub") ?_)
    refine Fo.cons As.name (one (en - 1) _ _ _ rfl (by omega) (by omega) (by wtm_at "sub") ?_)
    refine Fo.nil (Xs.nil ?_)
    refine Xs.nil ⟨rfl, ?_, rfl⟩
    wtm_at "sub"
  · refine Xs.nil ⟨rfl, ?_, rfl⟩
    wtm_at "sub"
  refine Xs.cut [("first", .bool first), ("numbers", .lst (nums.map .int)), ("signs", .int signs), ("end", .int en), ("bias", .int (36 * (l : Int) + step))] [] ?_ ?_
  · by_cases hp : 0 < start
    · refine X1.ite (by wtm_at "tr") (fun hc => ?_) (fun hc => ?_)
      · exfalso
        have := (law (delta := start - 1) (by omega)).2.1 (by omega)
        simp at hc
        omega
      · refine Xs.nil ⟨rfl, ?_, rfl⟩
        wtm_at "sub"
    · refine X1.ite (Tr.and2 (b := false) (by wtm_at "tr") (fun h => absurd (of_decide_eq_true h) hp)) (fun hc => by simp at hc) (fun hc => ?_)
      refine Xs.nil ⟨rfl, ?_, rfl⟩
      wtm_at "sub"
  · refine Xs.cons (X1.ite (by wtm_at "tr") (fun hc => ?_) (fun hc => ?_))
    · exfalso
      have := (law (delta := en) (by omega)).2.2 (by omega)
      simp at hc
      omega
    · refine Xs.nil (Xs.nil (h _ ?_))
      wtm_at "sub"

theorem turn {w : World} {B : Heap} {aA aL : Addr} (hA : DefAt (G1 w B aA aL) aA "adapt" (fnAt pg 1)) (kA : KeepOk (G1 w B aA aL) (.ref aA)) (hL : DefAt (G1 w B aA aL) aL "_law_least" (fnAt pg 3)) (kL : KeepOk (G1 w B aA aL) (.ref aL))
    {nums : List Int} {t : Nat} (hn : nums.length < 1000) (ht : t < nums.length) {P : Fl → Loc → Own → Prop}
    (h : ∀ σ', Sub σ' [("numbers", .lst (nums.map .int))] → P .next σ' []) :
    Xs (G1 w B aA aL) 2 (fnAt pg 4).2.2 [("at", .int t), ("numbers", .lst (nums.map .int))] [] (bodyOf (fnAt pg 4).2.1.tail) P := by
  have hx : (nums.map PV.int)[t]? = some (.int nums[t]) := by simp [ht]
  generalize nums[t] = x at hx
  refine Xs.cons (X1.assign (Ev.sub (by wtm_at "ev") (by wtm_at "ev") (Op2.item (by omega) (r := .int x) (by simpa using hx) (by simp; omega)) HasItem.lst) ?_)
  obtain ⟨y, hy⟩ : ∃ y, Ev (G1 w B aA aL) 2 (fnAt pg 4).2.2 [("x", .int x), ("at", .int t), ("numbers", .lst (nums.map .int))] [] (match ((bodyOf (fnAt pg 4).2.1.tail).drop 1) with | .Assign _ e _ :: _ => e | _ => .Starred (.Name "" ⟨0, 0, 0, 0⟩) ⟨0, 0, 0, 0⟩) (.int y) := by
    by_cases h0 : t = 0
    · subst h0
      have hz : (nums.map PV.int)[nums.length - 1]? = some (.int nums[nums.length - 1]) := by simp [ht]
      exact ⟨nums[nums.length - 1], Ev.sub (by wtm_at "ev") (by wtm_at "ev") (Op2.itemNeg (by simp) (by simp; omega) (r := .int nums[nums.length - 1]) (by rw [← hz]; congr 1; simp <;> omega) (by simp; omega)) HasItem.lst⟩
    · have hz : (nums.map PV.int)[t - 1]? = some (.int (nums[t - 1]'(by omega))) := by
        rw [List.getElem?_map, List.getElem?_eq_getElem (by omega)]; rfl
      exact ⟨nums[t - 1]'(by omega), Ev.sub (by wtm_at "ev") (by wtm_at "ev") (Op2.item (by omega) (r := .int (nums[t - 1]'(by omega))) (by rw [← hz]; congr 1; omega) (by simp; omega)) HasItem.lst⟩
  refine Xs.cons (X1.assign hy ?_)
  refine Xs.cons (X1.assign (by wtm_at "ev") ?_)
  refine Xs.cons (X1.assign (by wtm_at "ev") ?_)
  refine Xs.cons (X1.assign (by wtm_at "ev") ?_)
  generalize hs : x / 24 % 34 = step
  have h0 : 0 ≤ step := by omega
  have h1 : step ≤ 33 := by omega
  have hl : ∃ l : Nat, (l : Int) = (if step < 9 then 0 else x / 2 % 12) ∧ l ≤ 11 ∧ (l = 0 ∨ 9 ≤ step) := by
    refine ⟨(if step < 9 then 0 else x / 2 % 12).toNat, ?_, ?_, ?_⟩
    · split <;> omega
    · split <;> omega
    · split <;> omega
  obtain ⟨l, hl1, hl2, hl3⟩ := hl
  refine Xs.cut [("y", .int y), ("first", .bool (decide (x % 2 = 1))), ("level", .int l), ("step", .int step), ("numbers", .lst (nums.map .int))] [] (X1.ite (by wtm_at "tr") (fun hc => ?_) (fun hc => ?_)) (turn2 hA kA hL kL hl2 h0 h1 hl3 h)
  · have hc' := of_decide_eq_true hc
    rw [if_pos hc'] at hl1
    refine Xs.cons (X1.assign (by wtm_at "ev") ?_)
    refine Xs.nil ⟨rfl, ?_, rfl⟩
    rw [hl1]; wtm_at "sub"
  · have hc' := of_decide_eq_false hc
    rw [if_neg hc'] at hl1
    refine Xs.nil ⟨rfl, ?_, rfl⟩
    rw [hl1]; wtm_at "sub"

theorem law_body {w : World} {B : Heap} {aA aL : Addr} (hA : DefAt (G1 w B aA aL) aA "adapt" (fnAt pg 1)) (hL : DefAt (G1 w B aA aL) aL "_law_least" (fnAt pg 3)) {ns : List Int} (hn : ns.length ≤ 63) :
    Xs (G1 w B aA aL) 2 (fnAt pg 4).2.2 [("script", .lst (ns.map .int))] [] (fnAt pg 4).2.1 (fun fl _ _ => fl = .ret (.bool true)) := by
  have kA := hA.keep
  have kL := hL.keep
  obtain ⟨nums, hnums, hlen⟩ : ∃ nums : List Int, nums = (if ns = [] then [792, 3] else ns) ∧ nums.length < 1000 := ⟨_, rfl, by split <;> first | (simp; done) | omega⟩
  refine Xs.cut [("numbers", .lst (nums.map .int))] [] (X1.assign (v := .lst (nums.map .int)) (Ev.ifexp (c := !(ns.map PV.int).isEmpty) (Tr.val (by wtm_at "ev") (Truth.lst (xs := ns.map PV.int) (by simp; omega))) (fun hc => ?_) (fun hc => ?_)) ⟨rfl, by wtm_at "sub", rfl⟩) ?_
  · have : ns ≠ [] := by rintro rfl; simp at hc
    rw [if_neg this] at hnums; subst hnums
    refine Ev.call (by wtm_at "ev") KeepOk.type (by wtm_at "es") (CallOk.list_lst (by simp; omega))
  · have : ns = [] := by simpa using hc
    rw [if_pos this] at hnums; subst hnums
    show Ev _ _ _ _ _ _ (.lst [.int 792, .int 3])
    wtm_at "ev"
  refine Xs.cons (X1.for (p := .rng 0 ((nums.map PV.int).length : Int) 1) (by wtm_at "ev") (IterOk.upTo (n := nums.length) (by simp) (by omega)) ?_)
  refine (?_ : ∀ (m a : Nat), a + m = nums.length → Fo (G1 w B aA aL) 2 (fnAt pg 4).2.2 [("numbers", .lst (nums.map .int))] [] _ _ _ (rngItems (a : Int) 1 m) _) nums.length 0 (by omega)
  intro m
  induction m with
  | zero =>
    intro a _
    refine Fo.nil (Xs.nil ?_)
    exact Xs.cons (X1.ret (by wtm_at "ev") rfl)
  | succ m ih =>
    intro a ha
    refine Fo.cons As.name (turn hA kA hL kL hlen (by omega) fun σ' hs => Fo.sub hs ?_)
    exact ih (a + 1) (by omega)
end Mine

set_option maxRecDepth 100000 in
set_option maxHeartbeats 8000000 in
theorem PySem.Challenge.cw_dm0101_01_holds : PySem.Challenge.rw_dm0101_01.Holds := by
  w_on
  o_law
  k_head
  (case hw => w_witness2)
  w_strict k_go0
  rename_i w s₀ s₁ mg mb G Y fa o pm doc kV ho hg KX X V GL T Bt TE TW w9 w8 M w7 w6 hcd ns hs hlay0 hL1 hr1 hl2 w4 w3 l vs w0 hL ra w1 r0 hI hr hcond1 hcond K0 hD h₁ F N0
  obtain ⟨aA, eA, dA⟩ := Mine.DefAt.of T 0 1 "adapt" PySem.Challenge.pw_dm0101_01 (by kernel_rfl)
  obtain ⟨aL, eL, dL⟩ := Mine.DefAt.of T 1 3 "_law_least" PySem.Challenge.pw_dm0101_01 (by kernel_rfl)
  refine Mine.law_runs (Γ := Mine.G1 w s₁.heap aA aL) (k := 2) (ns := ns) (x := "script") ⟨?_, T.nolimit⟩ rfl (by decide) hL hI F (by rfl) (by rfl) (by decide +kernel) (Mine.law_body (dA _ rfl) (dL _ rfl) (by omega)) ?_
  · exact Mine.GlOk.to ⟨Mine.GlOk.one (Mine.GloV.fn T eA), Mine.GlOk.one (Mine.GloV.fn T eL), Mine.GlOk.one (Mine.GloV.bi T KX (by k_is) (by boot_by_name) (by decide)), Mine.GlOk.one (Mine.GloV.bi T KX (by k_is) (by boot_by_name) (by decide)), Mine.GlOk.one (Mine.GloV.bi T KX (by k_is) (by boot_by_name) (by decide)), Mine.GlOk.one (Mine.GloV.bi T KX (by k_is) (by boot_by_name) (by decide)), trivial⟩
  · intro s' hk hgens hos
    refine ⟨.inl ⟨_, _, [], rfl, ?_, .bool true, ?_, ?_⟩, hk, hos, hgens.trans hg⟩
    · intro cls; rfl
    · exact postW_of rfl (w_eq_bool (w_res rfl) w_lit) rfl
    · exact unshared_nil
