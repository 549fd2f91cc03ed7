import PyProof.Rows.All
import Wide.All
import OpenK.AllK
import Wide.FinOn
import PySem.Challenge.RW_bf5021_01
open PySem PySem.W PyProof.Rows
set_option Elab.async false
set_option maxRecDepth 100000

namespace Mine

/-- the heap only grows -/
def Up (h h' : Heap) : Prop := ∀ b o, h.get? b = some o → h'.get? b = some o
theorem Up.refl (h : Heap) : Up h h := fun _ _ e => e
theorem Up.trans {a b c : Heap} (x : Up a b) (y : Up b c) : Up a c := fun _ _ e => y _ _ (x _ _ e)
theorem Up.push (h : Heap) (o : Obj) : Up h (h.push o) := fun _ _ e => Heap.get?_push_of_some _ e

/-- how a value reads in a heap -/
structure Rep (α : Type) where
  r : Heap → Value → α → Prop
  up : ∀ {h h' v x}, Up h h' → r h v x → r h' v x

theorem paired_up {α : Type} (R : Rep α) {h h' : Heap} (u : Up h h') {vs : List Value} {xs : List α} (p : Paired (R.r h) vs xs) : Paired (R.r h') vs xs := by
  induction p with
  | nil => exact .nil
  | cons a _ ih => exact .cons (R.up u a) ih

def RInt : Rep Int := ⟨fun _ v i => ∃ t, v = .int i t, fun _ h => h⟩
def RBool : Rep Bool := ⟨fun _ v b => v = .bool b, fun _ h => h⟩
/-- a list as the program makes it -/
def RList {α : Type} (R : Rep α) : Rep (List α) :=
  ⟨fun h v xs => ∃ a vs, v = .ref a ∧ h.PlainList a vs.toArray ∧ Paired (R.r h) vs xs,
   fun {h h' v xs} u x => by obtain ⟨a, vs, e, hl, p⟩ := x; exact ⟨a, vs, e, hl.at (u a), paired_up R u p⟩⟩
/-- a list, however made -/
def RLst {α : Type} (R : Rep α) : Rep (List α) :=
  ⟨fun h v xs => ∃ a vs, v = .ref a ∧ h.IsList a vs.toArray ∧ Paired (R.r h) vs xs,
   fun {h h' v xs} u x => by obtain ⟨a, vs, e, ⟨o, ho, r⟩, p⟩ := x; exact ⟨a, vs, e, ⟨o, u _ _ ho, r⟩, paired_up R u p⟩⟩
/-- a bytearray -/
def BA (h : Heap) (a : Addr) (b : Array UInt8) : Prop := ∃ x, h.get? a = some { cls := .type "bytearray", data := .bytearray b x }
def RBA : Rep (Array UInt8) := ⟨fun h v b => ∃ a, v = .ref a ∧ BA h a b, fun u ⟨a, e, x, hx⟩ => ⟨a, e, x, u _ _ hx⟩⟩
/-- any value at all -/
def RVal : Rep Value := ⟨fun _ v x => v = x, fun _ h => h⟩

/-- a name of a frame and what it holds -/
def NameIs (h : Heap) (env : Env) (x : Str) (v : Value) : Prop :=
  (env.kindOf x = some .local ∧ ∃ m, h.Ns env.locals m ∧ m x = some v) ∨
  (∃ c, (env.kindOf x = some .cell ∨ env.kindOf x = some .free) ∧ env.cells.lookup x = some c ∧ h.IsCell c (some v))
theorem NameIs.up {h h' : Heap} {env : Env} {x : Str} {v : Value} (u : Up h h') (n : NameIs h env x v) : NameIs h' env x v := by
  rcases n with ⟨k, m, hn, hm⟩ | ⟨c, k, hc, o, ho, hd⟩
  · exact .inl ⟨k, m, hn.keeps u, hm⟩
  · exact .inr ⟨c, k, hc, o, u _ _ ho, hd⟩

/-- a name, how it reads, what it reads as -/
structure Var where
  x : Str
  α : Type
  R : Rep α
  val : α

/-- the globals that a walk asks -/
structure Glo (mg mb : Str → Option Value) (h : Heap) : Prop where
  g : h.Ns mainGlobals mg
  b : h.Ns builtinsNs mb
  nl : h.NoLimit
theorem Glo.up {mg mb : Str → Option Value} {h h' : Heap} (u : Up h h') (G : Glo mg mb h) : Glo mg mb h' := ⟨G.g.keeps u, G.b.keeps u, G.nl.keeps u⟩

structure Cx (mg mb : Str → Option Value) (env : Env) (vars : List Var) (h : Heap) : Prop where
  glo : Glo mg mb h
  kind : env.scope.kind = .function
  gl : env.globals = mainGlobals
  bl : env.builtins = builtinsNs
  loc : ∃ m, h.Ns env.locals m
  var : ∀ e ∈ vars, ∃ v, NameIs h env e.x v ∧ e.R.r h v e.val
theorem Cx.up {mg mb : Str → Option Value} {env : Env} {vars : List Var} {h h' : Heap} (u : Up h h') (C : Cx mg mb env vars h) : Cx mg mb env vars h' :=
  ⟨C.glo.up u, C.kind, C.gl, C.bl, let ⟨m, hm⟩ := C.loc; ⟨m, hm.keeps u⟩, fun e he => let ⟨v, n, r⟩ := C.var e he; ⟨v, n.up u, e.R.up u r⟩⟩

/-- nothing but the heap and the tokens turn, and the heap grows -/
def Grows (s s' : Shared) : Prop := ∃ h' tk, s' = { s with heap := h', toks := tk } ∧ Up s.heap h'
theorem Grows.refl (s : Shared) : Grows s s := ⟨s.heap, s.toks, rfl, Up.refl _⟩
theorem Grows.trans {a b c : Shared} (x : Grows a b) (y : Grows b c) : Grows a c := by
  obtain ⟨h1, t1, rfl, u1⟩ := x
  obtain ⟨h2, t2, rfl, u2⟩ := y
  exact ⟨h2, t2, rfl, u1.trans u2⟩
theorem Grows.mk' {s : Shared} {h' : Heap} {tk : Nat} (u : Up s.heap h') : Grows s { s with heap := h', toks := tk } := ⟨h', tk, rfl, u⟩
theorem Grows.up {a b : Shared} (x : Grows a b) : Up a.heap b.heap := by obtain ⟨h1, t1, rfl, u1⟩ := x; exact u1

/-- the value is made anew (or is no object) -/
def New (h : Heap) (v : Value) : Prop := ∀ a, v = .ref a → h.get? a = none
theorem New.down {h h' : Heap} {v : Value} (u : Up h h') (n : New h' v) : New h v := fun a e => by
  cases q : h.get? a with
  | none => rfl
  | some o => have := n a e; rw [u _ _ q] at this; cases this
theorem New.int {h : Heap} {i : Int} {t : Tok} : New h (.int i t) := fun _ e => by cases e
theorem get?_size (h : Heap) : h.get? h.objs.size = none := by
  cases q : h.get? h.objs.size with
  | none => rfl
  | some o => exact absurd (Heap.lt_size q) (Nat.lt_irrefl _)
theorem New.size (h : Heap) : New h (.ref h.objs.size) := fun a e => by cases e; exact get?_size h

/-- an expression's evaluation -/
def Ev (prog : Program) (w : World) (A : Around) (mg mb : Str → Option Value) (env : Env) (vars : List Var) (e : Expr) {α : Type} (R : Rep α) (x : α) : Prop :=
  ∀ (s : Shared) (E : Value → Shared → Prop), Cx mg mb env vars s.heap → wpAny (model prog w) A (eval e env) (fun v s' => R.r s'.heap v x ∧ Grows s s') E s
/-- .. whose value is made anew -/
def EvN (prog : Program) (w : World) (A : Around) (mg mb : Str → Option Value) (env : Env) (vars : List Var) (e : Expr) {α : Type} (R : Rep α) (x : α) : Prop :=
  ∀ (s : Shared) (E : Value → Shared → Prop), Cx mg mb env vars s.heap → wpAny (model prog w) A (eval e env) (fun v s' => (R.r s'.heap v x ∧ New s.heap v) ∧ Grows s s') E s
/-- a test -/
def EvB (prog : Program) (w : World) (A : Around) (mg mb : Str → Option Value) (env : Env) (vars : List Var) (e : Expr) (x : Bool) : Prop :=
  ∀ (s : Shared) (E : Value → Shared → Prop), Cx mg mb env vars s.heap → wpAny (model prog w) A (isTrue e env (eval e env)) (fun v s' => v = x ∧ Grows s s') E s

section
variable {prog : Program} {w : World} {A : Around} {mg mb : Str → Option Value} {env : Env} {vars : List Var}
variable {α β : Type} {R : Rep α} {S : Rep β}

theorem EvN.ev {e : Expr} {x : α} (h : EvN prog w A mg mb env vars e R x) : Ev prog w A mg mb env vars e R x :=
  fun s E c => wpAny_mono (h s E c) (fun _ _ q => ⟨q.1.1, q.2⟩) fun _ _ q => q
theorem Ev.conv {e : Expr} {x y : α} (h : Ev prog w A mg mb env vars e R x) (hxy : x = y) : Ev prog w A mg mb env vars e R y := hxy ▸ h
theorem EvN.conv {e : Expr} {x y : α} (h : EvN prog w A mg mb env vars e R x) (hxy : x = y) : EvN prog w A mg mb env vars e R y := hxy ▸ h
theorem EvB.conv {e : Expr} {x y : Bool} (h : EvB prog w A mg mb env vars e x) (hxy : x = y) : EvB prog w A mg mb env vars e y := hxy ▸ h
theorem Ev.weak {e : Expr} {xs : List α} (h : Ev prog w A mg mb env vars e (RList R) xs) : Ev prog w A mg mb env vars e (RLst R) xs :=
  fun s E c => wpAny_mono (h s E c) (fun _ _ ⟨⟨a, vs, e, hl, p⟩, g⟩ => ⟨⟨a, vs, e, hl.isList, p⟩, g⟩) fun _ _ q => q

theorem Ev.int (i : Int) {k : Nat} {pos : Pos} : Ev prog w A mg mb env vars (.Constant (.int i) k pos) RInt i :=
  fun s E _ => wpAny_Constant_int ⟨⟨_, rfl⟩, s.heap, s.toks + 1, rfl, Up.refl _⟩

theorem loadName_any {x : Str} {v : Value} {s : Shared} {E : Value → Shared → Prop} {Q : Value → Shared → Prop} (hk : env.scope.kind = .function) (n : NameIs s.heap env x v) (h : Q v s)
    (hn : (x == ("__classdict__" : Str)) = false) : wpAny (model prog w) A (loadName env x) Q E s := by
  rcases n with ⟨k, m, hns, hm⟩ | ⟨c, k, hc, hcell⟩
  · exact wpAny_loadName_local hk k hns hm h
  · rcases k with k | k
    · exact wpAny_loadName_cell hk k hc hcell h
    · exact wpAny_loadName_free hk k hc hcell h hn

theorem Ev.var {x : Str} {pos : Pos} {v : α} (hm : (⟨x, α, R, v⟩ : Var) ∈ vars) (hd : (x == ("__debug__" : Str)) = false) (hn : (x == ("__classdict__" : Str)) = false) :
    Ev prog w A mg mb env vars (.Name x pos) R v := fun s E c => by
  obtain ⟨u, n, r⟩ := c.var _ hm
  exact wpAny_Name (loadName_any c.kind n ⟨r, Grows.refl s⟩ hn) hd

theorem ev2 {e₁ e₂ : Expr} {x : α} {y : β} {s : Shared} {E : Value → Shared → Prop} {Q : Value → Value → Shared → Prop} (h₁ : Ev prog w A mg mb env vars e₁ R x) (h₂ : Ev prog w A mg mb env vars e₂ S y)
    (c : Cx mg mb env vars s.heap) (h : ∀ v u s', R.r s'.heap v x → S.r s'.heap u y → Grows s s' → Q v u s') :
    wpAny (model prog w) A (eval e₁ env) (fun v s₁ => wpAny (model prog w) A (eval e₂ env) (fun u s₂ => Q v u s₂) E s₁) E s := by
  refine wpAny_mono (h₁ s E c) (fun v s₁ ⟨r, g⟩ => ?_) fun _ _ q => q
  refine wpAny_mono (h₂ s₁ E (c.up g.up)) (fun u s₂ ⟨r', g'⟩ => ?_) fun _ _ q => q
  exact h v u s₂ (R.up g'.up r) r' (g.trans g')

/-- an operator upon two ints -/
theorem Ev.bin {a b : Expr} {op : Operator} {pos : Pos} {x y z : Int} (ha : Ev prog w A mg mb env vars a RInt x) (hb : Ev prog w A mg mb env vars b RInt y)
    (hop : ∀ (s : Shared) (Q : Value → Shared → Prop) E t u, Q (.int z s.toks) { s with toks := s.toks + 1 } → wpAny (model prog w) A (binaryOp op (.int x t) (.int y u)) Q E s) :
    Ev prog w A mg mb env vars (.BinOp a op b pos) RInt z := fun s E c => by
  refine wpAny_BinOp (ev2 ha hb c ?_)
  rintro _ _ s' ⟨t, rfl⟩ ⟨u, rfl⟩ g
  exact hop s' _ E t u ⟨⟨_, rfl⟩, g.trans ⟨s'.heap, s'.toks + 1, rfl, Up.refl _⟩⟩

theorem Ev.add {a b : Expr} {pos : Pos} {x y : Int} (ha : Ev prog w A mg mb env vars a RInt x) (hb : Ev prog w A mg mb env vars b RInt y) : Ev prog w A mg mb env vars (.BinOp a .Add b pos) RInt (x + y) :=
  .bin ha hb fun _ _ _ _ _ h => P.add_int h
theorem Ev.sub {a b : Expr} {pos : Pos} {x y : Int} (ha : Ev prog w A mg mb env vars a RInt x) (hb : Ev prog w A mg mb env vars b RInt y) : Ev prog w A mg mb env vars (.BinOp a .Sub b pos) RInt (x - y) :=
  .bin ha hb fun _ _ _ _ _ h => P.sub_int h
theorem Ev.mul {a b : Expr} {pos : Pos} {x y : Int} (ha : Ev prog w A mg mb env vars a RInt x) (hb : Ev prog w A mg mb env vars b RInt y) (hm : IntMulOk x y) : Ev prog w A mg mb env vars (.BinOp a .Mult b pos) RInt (x * y) :=
  .bin ha hb fun _ _ _ _ _ h => P.mul_int h hm
theorem Ev.mod {a b : Expr} {pos : Pos} {x y : Int} (ha : Ev prog w A mg mb env vars a RInt x) (hb : Ev prog w A mg mb env vars b RInt y) (h0 : 0 < y) : Ev prog w A mg mb env vars (.BinOp a .Mod b pos) RInt (x % y) :=
  .bin ha hb fun _ _ _ _ _ h => mod_int' (Int.ne_of_gt h0) (by rw [Int.fmod_eq_emod_of_nonneg x (Int.le_of_lt h0)]; exact h)
theorem Ev.fdiv {a b : Expr} {pos : Pos} {x y : Int} (ha : Ev prog w A mg mb env vars a RInt x) (hb : Ev prog w A mg mb env vars b RInt y) (h0 : 0 < y) (h1 : y < 1073741824) : Ev prog w A mg mb env vars (.BinOp a .FloorDiv b pos) RInt (x / y) :=
  .bin ha hb fun _ _ _ _ _ h => floordiv_int (Int.ne_of_gt h0) (by rw [Int.fdiv_eq_ediv_of_nonneg x (Int.le_of_lt h0)]; exact h) (.inl (PyProof.noPylong_small (by omega)))
theorem Ev.pow {a b : Expr} {pos : Pos} {x y : Int} (ha : Ev prog w A mg mb env vars a RInt x) (hb : Ev prog w A mg mb env vars b RInt y) (h0 : 0 ≤ y) (h1 : y ≤ 1000000) (h2 : x.natAbs < 2 ^ 64) :
    Ev prog w A mg mb env vars (.BinOp a .Pow b pos) RInt (x ^ y.toNat) :=
  .bin ha hb fun _ _ _ _ _ h => pow_int_small h0 h1 h2 h
theorem Ev.band {a b : Expr} {pos : Pos} {x y : Int} (ha : Ev prog w A mg mb env vars a RInt x) (hb : Ev prog w A mg mb env vars b RInt y) : Ev prog w A mg mb env vars (.BinOp a .BitAnd b pos) RInt (Builtin.bitAnd x y) :=
  .bin ha hb fun _ _ _ _ _ h => and_int h

theorem Ev.neg {a : Expr} {pos : Pos} {x : Int} (ha : Ev prog w A mg mb env vars a RInt x) : Ev prog w A mg mb env vars (.UnaryOp .USub a pos) RInt (-x) := fun s E c => by
  show wpAny _ _ (eval a env >>= fun v => standAt pos >>= fun _ => holding [v] (unaryOp .USub v)) _ _ s
  refine wpAny_bind (wpAny_mono (ha s E c) (fun v s₁ ⟨⟨t, e⟩, g⟩ => ?_) fun _ _ q => q)
  subst e
  exact wpAny_bind (wpAny_standAt (wpAny_holding (P.neg_int ⟨⟨_, rfl⟩, g.trans ⟨s₁.heap, s₁.toks + 1, rfl, Up.refl _⟩⟩)))

/-- a comparison of two ints, as a value -/
theorem Ev.cmp {a b : Expr} {op : CmpOp} {pos : Pos} {x y : Int} {z : Bool} (ha : Ev prog w A mg mb env vars a RInt x) (hb : Ev prog w A mg mb env vars b RInt y)
    (hop : ∀ (s : Shared) (Q : Value → Shared → Prop) E t u, Q (.bool z) s → wpAny (model prog w) A (compareOp op (.int x t) (.int y u)) Q E s) (hm : behindInMarks op b = false) :
    Ev prog w A mg mb env vars (.Compare a [op] [b] pos) RBool z := fun s E c => by
  refine wpAny_Compare1 (ev2 ha hb c ?_) hm
  rintro _ _ s' ⟨t, rfl⟩ ⟨u, rfl⟩ g
  exact hop s' _ E t u ⟨rfl, g⟩
theorem EvB.cmp {a b : Expr} {op : CmpOp} {pos : Pos} {x y : Int} {z : Bool} (ha : Ev prog w A mg mb env vars a RInt x) (hb : Ev prog w A mg mb env vars b RInt y)
    (hop : ∀ (s : Shared) (Q : Value → Shared → Prop) E t u, Q (.bool z) s → wpAny (model prog w) A (compareOp op (.int x t) (.int y u)) Q E s) (hm : behindInMarks op b = false) :
    EvB prog w A mg mb env vars (.Compare a [op] [b] pos) z := fun s E c => by
  refine wpAny_isTrue_Compare1 (ev2 ha hb c ?_) hm
  rintro _ _ s' ⟨t, rfl⟩ ⟨u, rfl⟩ g
  exact hop s' _ E t u (wpAny_truthy_bool ⟨rfl, g⟩)
theorem EvB.lt {a b : Expr} {pos : Pos} {x y : Int} (ha : Ev prog w A mg mb env vars a RInt x) (hb : Ev prog w A mg mb env vars b RInt y) (hm : behindInMarks .Lt b = false) : EvB prog w A mg mb env vars (.Compare a [.Lt] [b] pos) (decide (x < y)) :=
  .cmp ha hb (fun _ _ _ _ _ h => P.lt_int h) hm
theorem EvB.le {a b : Expr} {pos : Pos} {x y : Int} (ha : Ev prog w A mg mb env vars a RInt x) (hb : Ev prog w A mg mb env vars b RInt y) (hm : behindInMarks .LtE b = false) : EvB prog w A mg mb env vars (.Compare a [.LtE] [b] pos) (decide (x ≤ y)) :=
  .cmp ha hb (fun _ _ _ _ _ h => P.le_int h) hm
theorem EvB.ge {a b : Expr} {pos : Pos} {x y : Int} (ha : Ev prog w A mg mb env vars a RInt x) (hb : Ev prog w A mg mb env vars b RInt y) (hm : behindInMarks .GtE b = false) : EvB prog w A mg mb env vars (.Compare a [.GtE] [b] pos) (decide (x ≥ y)) :=
  .cmp ha hb (fun _ _ _ _ _ h => P.ge_int h) hm
theorem EvB.eq {a b : Expr} {pos : Pos} {x y : Int} (ha : Ev prog w A mg mb env vars a RInt x) (hb : Ev prog w A mg mb env vars b RInt y) (hm : behindInMarks .Eq b = false) : EvB prog w A mg mb env vars (.Compare a [.Eq] [b] pos) (x == y) :=
  .cmp ha hb (fun _ _ _ _ _ h => P.eq_int h) hm
theorem EvB.ne {a b : Expr} {pos : Pos} {x y : Int} (ha : Ev prog w A mg mb env vars a RInt x) (hb : Ev prog w A mg mb env vars b RInt y) (hm : behindInMarks .NotEq b = false) : EvB prog w A mg mb env vars (.Compare a [.NotEq] [b] pos) (x != y) :=
  .cmp ha hb (fun _ _ _ _ _ h => P.ne_int h) hm

theorem EvB.or2 {a b : Expr} {pos : Pos} {x y : Bool} (ha : EvB prog w A mg mb env vars a x) (hb : x = false → EvB prog w A mg mb env vars b y) : EvB prog w A mg mb env vars (.BoolOp .Or [a, b] pos) (x || y) := fun s E c => by
  show wpAny _ _ (isTrue a env (eval a env) >>= fun r => match BoolOp.Or, r with | .And, false => pure false | .Or, true => pure true | _, _ => allTrue .Or [b] env) _ _ s
  refine wpAny_bind (wpAny_mono (ha s E c) (fun r s₁ ⟨e, g⟩ => ?_) fun _ _ q => q)
  subst e
  cases r with
  | true => exact wpAny_pure ⟨rfl, g⟩
  | false =>
    show wpAny _ _ (isTrue b env (eval b env) >>= fun r => match BoolOp.Or, r with | .And, false => pure false | .Or, true => pure true | _, _ => allTrue .Or [] env) _ _ s₁
    refine wpAny_bind (wpAny_mono (hb rfl s₁ E (c.up g.up)) (fun r' s₂ ⟨e', g'⟩ => ?_) fun _ _ q => q)
    subst e'
    cases r' with
    | true => exact wpAny_pure ⟨rfl, g.trans g'⟩
    | false => exact wpAny_pure ⟨rfl, g.trans g'⟩
theorem EvB.and2 {a b : Expr} {pos : Pos} {x y : Bool} (ha : EvB prog w A mg mb env vars a x) (hb : x = true → EvB prog w A mg mb env vars b y) : EvB prog w A mg mb env vars (.BoolOp .And [a, b] pos) (x && y) := fun s E c => by
  show wpAny _ _ (isTrue a env (eval a env) >>= fun r => match BoolOp.And, r with | .And, false => pure false | .Or, true => pure true | _, _ => allTrue .And [b] env) _ _ s
  refine wpAny_bind (wpAny_mono (ha s E c) (fun r s₁ ⟨e, g⟩ => ?_) fun _ _ q => q)
  subst e
  cases r with
  | false => exact wpAny_pure ⟨rfl, g⟩
  | true =>
    show wpAny _ _ (isTrue b env (eval b env) >>= fun r => match BoolOp.And, r with | .And, false => pure false | .Or, true => pure true | _, _ => allTrue .And [] env) _ _ s₁
    refine wpAny_bind (wpAny_mono (hb rfl s₁ E (c.up g.up)) (fun r' s₂ ⟨e', g'⟩ => ?_) fun _ _ q => q)
    subst e'
    cases r' with
    | true => exact wpAny_pure ⟨rfl, g.trans g'⟩
    | false => exact wpAny_pure ⟨rfl, g.trans g'⟩

theorem Ev.ite {t a b : Expr} {pos : Pos} {c : Bool} {x y : α} (ht : EvB prog w A mg mb env vars t c) (ha : c = true → Ev prog w A mg mb env vars a R x) (hb : c = false → Ev prog w A mg mb env vars b R y) :
    Ev prog w A mg mb env vars (.IfExp t a b pos) R (if c = true then x else y) := fun s E cx => by
  refine wpAny_IfExp (wpAny_mono (ht s E cx) (fun r s₁ ⟨e, g⟩ => ?_) fun _ _ q => q)
  subst e
  cases r with
  | true => exact wpAny_mono (ha rfl s₁ E (cx.up g.up)) (fun v s₂ ⟨r, g'⟩ => ⟨r, g.trans g'⟩) fun _ _ q => q
  | false => exact wpAny_mono (hb rfl s₁ E (cx.up g.up)) (fun v s₂ ⟨r, g'⟩ => ⟨r, g.trans g'⟩) fun _ _ q => q

theorem paired_get {F : Value → α → Prop} : ∀ {vs : List Value} {xs : List α}, Paired F vs xs → ∀ {i : Nat} {x : α}, xs[i]? = some x → ∃ v, vs[i]? = some v ∧ F v x
  | _, _, .nil, i, x, h => by simp at h
  | _, _, .cons (a := v) hv t, 0, x, h => by simp at h; subst h; exact ⟨v, rfl, hv⟩
  | _, _, .cons hv t, i + 1, x, h => by simp at h; obtain ⟨v, e, f⟩ := paired_get t h; exact ⟨v, by simpa using e, f⟩

/-- xs[i] -/
theorem item_any {value slice : Expr} {a : Addr} {vs : Array Value} {k : Int} {u : Tok} {v : Value} {s : Shared} {E : Value → Shared → Prop} {Q : Value → Shared → Prop} (hl : s.heap.IsList a vs) (h0 : 0 ≤ k) (h1 : k < 2 ^ 63)
    (hx : vs[k.toNat]? = some v) (hs : ∀ o i, subscripted slice false o i = operate [o, i] (getItem o i)) (h : Q v s) : wpAny (model prog w) A (subscriptTail value slice (.ref a) (.int k u)) Q E s := by
  unfold subscriptTail
  refine wpAny_bind ?_
  rw [getitemInPython_of_ne hl.typeIs.not_modules]
  refine wpAny_bind (wpAny_specialOf hl.typeIs slot_list_getitem.lookup ?_)
  refine wpAny_pure ?_
  rw [hs]
  exact wpAny_bind (wpAny_operating (wpAny_getItem_list hl h0 h1 hx (wpAny_bind (wpAny_letTemporaryGo (wpAny_pure h)))))
theorem Ev.item {a b : Expr} {pos : Pos} {xs : List α} {k : Int} {x : α} (ha : Ev prog w A mg mb env vars a (RLst R) xs) (hb : Ev prog w A mg mb env vars b RInt k) (h0 : 0 ≤ k) (h1 : k < 2 ^ 63) (hx : xs[k.toNat]? = some x)
    (hs : ∀ o i, subscripted b false o i = operate [o, i] (getItem o i)) : Ev prog w A mg mb env vars (.Subscript a b pos) R x := fun s E c => by
  refine Subscript_ (ev2 ha hb c ?_)
  rintro _ _ s' ⟨l, vs, rfl, hl, hp⟩ ⟨u, rfl⟩ g
  obtain ⟨v, hv, hr⟩ := paired_get hp hx
  exact item_any hl h0 h1 (by simpa using hv) hs ⟨hr, g⟩
end
end Mine

namespace Mine

section
variable {prog : Program} {w : World} {A : Around} {mg mb : Str → Option Value} {env : Env} {vars : List Var}
variable {α β : Type} {R : Rep α} {S : Rep β}

/-- several expressions, one after the other -/
def Evs (prog : Program) (w : World) (A : Around) (mg mb : Str → Option Value) (env : Env) (vars : List Var) (pos : Pos) (es : List Expr) {α : Type} (R : Rep α) (xs : List α) : Prop :=
  ∀ (s : Shared) (E : Value → Shared → Prop), Cx mg mb env vars s.heap → wpAny (model prog w) A (spliced (backTo pos (starEach es env))) (fun vs s' => Paired (R.r s'.heap) vs xs ∧ Grows s s') E s

theorem Evs.nil {pos : Pos} : Evs prog w A mg mb env vars pos [] R [] := fun s _ _ => args_nil ⟨.nil, Grows.refl s⟩
theorem Evs.cons {pos : Pos} {e : Expr} {es : List Expr} {x : α} {xs : List α} (h : Ev prog w A mg mb env vars e R x) (hr : Evs prog w A mg mb env vars pos es R xs)
    (he : starEach (e :: es) env = (false, eval e env) :: starEach es env) : Evs prog w A mg mb env vars pos (e :: es) R (x :: xs) := fun s E c => by
  refine args_cons ?_ he
  refine wpAny_mono (h s E c) (fun v s₁ ⟨r, g⟩ => ?_) fun _ _ q => q
  refine wpAny_mono (hr s₁ E (c.up g.up)) (fun vs s₂ ⟨p, g'⟩ => ?_) fun _ _ q => q
  exact ⟨.cons (R.up g'.up r) p, g.trans g'⟩

theorem paired_length {F : Value → α → Prop} {vs : List Value} {xs : List α} (p : Paired F vs xs) : vs.length = xs.length := p.length

theorem newList_any {vs : List Value} {s : Shared} {E : Value → Shared → Prop} {Q : Value → Shared → Prop} (hsz : vs.length ≤ sizeLine)
    (h : (s.heap.push { cls := .type "list", data := .seq vs.toArray }).PlainList s.heap.objs.size vs.toArray → Q (.ref s.heap.objs.size) { s with heap := s.heap.push { cls := .type "list", data := .seq vs.toArray } }) :
    wpAny (model prog w) A (newList vs) Q E s :=
  wpAny_newObj_type (h ⟨0, Heap.get?_push_size _ rfl⟩) (by show vs.toArray.size ≤ sizeLine; rw [List.size_toArray]; exact hsz)

/-- [e, ..] -/
theorem EvN.list {pos : Pos} {es : List Expr} {xs : List α} (h : Evs prog w A mg mb env vars pos es R xs) (hsz : xs.length ≤ sizeLine) : EvN prog w A mg mb env vars (.List es pos) (RList R) xs := fun s E c => by
  refine List_ (wpAny_mono (h s E c) (fun vs s₁ ⟨p, g⟩ => ?_) fun _ _ q => q)
  refine newList_any (by rw [paired_length p]; exact hsz) fun hl => ?_
  exact ⟨⟨⟨_, vs, rfl, hl, paired_up R (Up.push _ _) p⟩, New.down g.up (New.size _)⟩, g.trans ⟨_, s₁.toks, rfl, Up.push _ _⟩⟩

theorem paired_append {F : Value → α → Prop} : ∀ {vs us : List Value} {xs ys : List α}, Paired F vs xs → Paired F us ys → Paired F (vs ++ us) (xs ++ ys)
  | _, _, _, _, .nil, q => q
  | _, _, _, _, .cons a p, q => .cons a (paired_append p q)
theorem paired_drop {F : Value → α → Prop} : ∀ {vs : List Value} {xs : List α} (n : Nat), Paired F vs xs → Paired F (vs.drop n) (xs.drop n)
  | _, _, 0, p => p
  | _, _, _ + 1, .nil => .nil
  | _, _, n + 1, .cons _ p => paired_drop n p
theorem paired_take {F : Value → α → Prop} : ∀ {vs : List Value} {xs : List α} (n : Nat), Paired F vs xs → Paired F (vs.take n) (xs.take n)
  | _, _, 0, _ => by simpa using .nil
  | _, _, _ + 1, .nil => .nil
  | _, _, n + 1, .cons a p => by simpa using .cons a (paired_take n p)
theorem paired_rep {F : Value → α → Prop} {v : Value} {x : α} (h : F v x) : ∀ n, Paired F (List.replicate n v) (List.replicate n x)
  | 0 => .nil
  | n + 1 => .cons h (paired_rep h n)

/-- list + list -/
theorem add_any {l b : Addr} {vs us : List Value} {s : Shared} {E : Value → Shared → Prop} {Q : Value → Shared → Prop} (hl : s.heap.IsList l vs.toArray) (hb : s.heap.IsList b us.toArray) (hsz : vs.length + us.length ≤ sizeLine)
    (h : (s.heap.push { cls := .type "list", data := .seq (vs ++ us).toArray }).PlainList s.heap.objs.size (vs ++ us).toArray → Q (.ref s.heap.objs.size) { s with heap := s.heap.push { cls := .type "list", data := .seq (vs ++ us).toArray } }) :
    wpAny (model prog w) A (binaryOp .Add (.ref l) (.ref b)) Q E s := by
  obtain ⟨⟨cls, dd, data, sl⟩, ho, hc, n, hd⟩ := id hl
  obtain ⟨⟨cls2, dd2, data2, sl2⟩, ho2, hc2, n2, hd2⟩ := id hb
  simp only at hc hd hc2 hd2
  subst hc hd hc2 hd2
  have e : vs.toArray ++ us.toArray = (vs ++ us).toArray := by simp
  refine concat_meets ⟨_, ho, rfl⟩ ⟨_, ho2, rfl⟩ noFill_list_add seq_list_add PySem.F.slot_list_add PySem.F.entry_list_add (PySem.F.args_list_add_2 _ _) (list_addW l b vs.toArray us.toArray n n2 dd dd2 sl sl2 (by simpa using hsz)) ⟨ho, ho2, ?_⟩
  rw [e]
  exact h ⟨0, Heap.get?_push_size _ rfl⟩
theorem EvN.addL {a b : Expr} {pos : Pos} {xs ys : List α} (ha : Ev prog w A mg mb env vars a (RLst R) xs) (hb : Ev prog w A mg mb env vars b (RLst R) ys) (hsz : xs.length + ys.length ≤ sizeLine) :
    EvN prog w A mg mb env vars (.BinOp a .Add b pos) (RList R) (xs ++ ys) := fun s E c => by
  refine wpAny_BinOp (ev2 ha hb c ?_)
  rintro _ _ s' ⟨l, vs, rfl, hl, hp⟩ ⟨l', us, rfl, hl', hp'⟩ g
  refine add_any hl hl' (by rw [paired_length hp, paired_length hp']; exact hsz) fun hn => ?_
  exact ⟨⟨⟨_, _, rfl, hn, paired_up R (Up.push _ _) (paired_append hp hp')⟩, New.down g.up (New.size _)⟩, g.trans ⟨_, s'.toks, rfl, Up.push _ _⟩⟩

theorem fold_rep1 (v : Value) : ∀ n : Nat, ∀ acc : Array Value, List.foldl (fun x1 x2 => x1 ++ x2) acc (List.replicate n #[v]) = acc ++ (List.replicate n v).toArray
  | 0, acc => by simp
  | n + 1, acc => by
    rw [List.replicate_succ, List.foldl_cons, fold_rep1 v n]
    apply Array.ext'
    simp [List.replicate_succ]

/-- [e] * n -/
theorem EvN.rep1 {a b : Expr} {pos : Pos} {x : α} {k : Int} (ha : Ev prog w A mg mb env vars a (RList R) [x]) (hb : Ev prog w A mg mb env vars b RInt k) (hk : k < 1000000) (hk0 : 0 ≤ k) :
    EvN prog w A mg mb env vars (.BinOp a .Mult b pos) (RList R) (List.replicate k.toNat x) := fun s E c => by
  refine wpAny_BinOp (ev2 ha hb c ?_)
  rintro _ _ s' ⟨l, vs, rfl, hl, hp⟩ ⟨u, rfl⟩ g
  obtain ⟨n, ho⟩ := id hl
  cases hp with
  | cons hv t =>
    rename_i v _
    cases t
    have e1 : (#[v] : Array Value).size * k.toNat = k.toNat := by simp
    have hc0 : ¬(!Builtin.List.listFitsIndex k) = true := by simp [Builtin.List.listFitsIndex]; omega
    have hc1 : ¬(#[v] : Array Value).size * k.toNat > (2 ^ 63 - 1) / 8 := by rw [e1]; omega
    have hc2 : ¬Builtin.List.listTooLong ((#[v] : Array Value).size * k.toNat) = true := by rw [e1]; simp [Builtin.List.listTooLong, sizeLine]; omega
    refine wpAny_binaryOp_repeat_ref (T := "list") (U := "int") (by decide) ⟨_, ho, rfl⟩ (fun s' => typeIs_int s' k u) noFill_list_mul F.fills_int_mul F.slot_int_rmul repeat_list F.slot_int_index.lookup
      (call_meets F.slot_int_rmul (typeIs_int s' k u) F.entry_int_rmul (F.args_int_rmul_2 _ _) (int___rmul___int_list k u l _ n)
        ⟨ho, rfl, ⟨_, ho, rfl⟩, call_meets F.slot_list_mul ⟨_, ho, rfl⟩ F.entry_list_mul (F.args_list_mul_2 _ _)
          (AutoListH.list___mul___list_int_3 l _ n k u hc0 hc1 hc2) ⟨ho, ?_⟩⟩)
    have e : List.foldl (fun x1 x2 => x1 ++ x2) #[] (List.replicate (if ([v].toArray).isEmpty = true then 0 else k.toNat) [v].toArray) = (List.replicate k.toNat v).toArray := by
      rw [if_neg (by simp)]
      have := fold_rep1 v k.toNat #[]
      simpa using this
    rw [e]
    exact ⟨⟨⟨_, _, rfl, ⟨0, Heap.get?_push_size _ rfl⟩, paired_up R (Up.push _ _) (paired_rep hv _)⟩, New.down g.up (New.size _)⟩, g.trans ⟨_, s'.toks, rfl, Up.push _ _⟩⟩

/-- the name of a built-in -/
structure Blt (mg mb : Str → Option Value) (env : Env) (x : Str) (f : Value) : Prop where
  kind : env.kindOf x = some .globalImplicit
  miss : mg x = none
  hit : mb x = some f
  dbg : (x == ("__debug__" : Str)) = false

theorem load_blt {x : Str} {f : Value} {pos : Pos} {s : Shared} {E : Value → Shared → Prop} {Q : Value → Shared → Prop} (b : Blt mg mb env x f) (c : Cx mg mb env vars s.heap) (h : Q f s) :
    wpAny (model prog w) A (eval (.Name x pos) env) Q E s :=
  Calls.Name_function_global c.kind b.kind (Calls.loadGlobal_builtin (by rw [c.gl]; exact c.glo.g) b.miss (by rw [c.bl]; exact c.glo.b) b.hit h) b.dbg

theorem callWith_plain {pos : Pos} {f : Value} {args : List (Bool × Sem Value)} {s : Shared} {E : Value → Shared → Prop} {Q : Value → Shared → Prop} (hf : ∀ a, f ≠ .ref a) (hplain : args.any (·.1) = false)
    (h : wpAny (model prog w) A (evalArgs f true args []) (fun a s₁ => wpAny (model prog w) A (call f a.pos a.kw) Q E s₁) E s) :
    wpAny (model prog w) A (callWith pos f [] args []) Q E s := by
  have hk : keeperOf f = pure .machine := by
    unfold keeperOf
    split
    · exact absurd rfl (hf _)
    · rfl
  unfold callWith
  refine wpAny_bind (wpAny_holding (wpAny_mono h (fun a s₁ h₁ => wpAny_bind (wpAny_standAt ?_)) fun _ _ x => x))
  simp only [hplain, List.any_nil, Bool.or_false, hk]
  refine wpAny_bind (wpAny_pure ?_)
  exact wpAny_bind (wpAny_mono h₁ (fun r s₂ hr => wpAny_bind (wpAny_holding (wpAny_point (wpAny_pure hr)))) fun _ _ x => x)

theorem starEach1 {e : Expr} (he : starEach [e] env = (false, eval e env) :: starEach [] env) : backTo pos (starEach [e] env) = [(false, eval e env)] := by rw [he]; rfl

/-- f(e), f a built-in -/
theorem call1_any {x : Str} {f : Value} {np pos : Pos} {e : Expr} {y : β} {s : Shared} {E : Value → Shared → Prop} {Q : Value → Shared → Prop} (b : Blt mg mb env x f) (hf : ∀ a, f ≠ .ref a) (h : Ev prog w A mg mb env vars e S y)
    (he : starEach [e] env = (false, eval e env) :: starEach [] env) (c : Cx mg mb env vars s.heap)
    (hc : ∀ v s', S.r s'.heap v y → Grows s s' → wpAny (model prog w) A (call f [v]) Q E s') : wpAny (model prog w) A (eval (.Call (.Name x np) [e] [] pos) env) Q E s := by
  refine Call_ (load_blt b c (callWith_plain hf (by rw [starEach1 he]; rfl) ?_))
  rw [starEach1 he]
  refine Calls.evalArgs_plain (Calls.spliced_cons (wpAny_mono (h s E c) (fun v s₁ ⟨r, g⟩ => Calls.spliced_nil (hc v s₁ r g)) fun _ _ q => q))
theorem starEach2 {e e' : Expr} {pos : Pos} (he : starEach [e, e'] env = (false, eval e env) :: (false, eval e' env) :: starEach [] env) : backTo pos (starEach [e, e'] env) = [(false, eval e env), (false, eval e' env)] := by rw [he]; rfl
/-- f(e, e'), f a built-in -/
theorem call2_any {x : Str} {f : Value} {np pos : Pos} {e e' : Expr} {y : α} {z : β} {s : Shared} {E : Value → Shared → Prop} {Q : Value → Shared → Prop} (b : Blt mg mb env x f) (hf : ∀ a, f ≠ .ref a)
    (h : Ev prog w A mg mb env vars e R y) (h' : Ev prog w A mg mb env vars e' S z)
    (he : starEach [e, e'] env = (false, eval e env) :: (false, eval e' env) :: starEach [] env) (c : Cx mg mb env vars s.heap)
    (hc : ∀ v u s', R.r s'.heap v y → S.r s'.heap u z → Grows s s' → wpAny (model prog w) A (call f [v, u]) Q E s') : wpAny (model prog w) A (eval (.Call (.Name x np) [e, e'] [] pos) env) Q E s := by
  refine Call_ (load_blt b c (callWith_plain hf (by rw [starEach2 he]; rfl) ?_))
  rw [starEach2 he]
  refine Calls.evalArgs_plain (Calls.spliced_cons (wpAny_mono (h s E c) (fun v s₁ ⟨r, g⟩ => Calls.spliced_cons (wpAny_mono (h' s₁ E (c.up g.up)) (fun u s₂ ⟨r', g'⟩ => Calls.spliced_nil ?_) fun _ _ q => q)) fun _ _ q => q))
  exact hc v u s₂ (R.up g'.up r) r' (g.trans g')

theorem paired_ints {h : Heap} : ∀ {vs : List Value} {ns : List Int}, Paired (RInt.r h) vs ns → IntsAre vs ns
  | _, _, .nil => .nil
  | _, _, .cons ⟨t, e⟩ p => by subst e; exact .cons _ _ (paired_ints p)
theorem ints_paired {h : Heap} : ∀ {vs : List Value} {ns : List Int}, IntsAre vs ns → Paired (RInt.r h) vs ns
  | _, _, .nil => .nil
  | _, _, .cons n t p => .cons ⟨t, rfl⟩ (ints_paired p)

/-- len(xs) -/
theorem Ev.len {np pos : Pos} {e : Expr} {xs : List α} (b : Blt mg mb env "len" (.builtin "len")) (h : Ev prog w A mg mb env vars e (RLst R) xs) (he : starEach [e] env = (false, eval e env) :: starEach [] env) (hsz : xs.length < 2 ^ 62) :
    Ev prog w A mg mb env vars (.Call (.Name "len" np) [e] [] pos) RInt (xs.length : Int) := fun s E c => by
  refine call1_any b (fun _ q => by cases q) h he c ?_
  rintro _ s' ⟨l, vs, rfl, hl, hp⟩ g
  have e1 : vs.toArray.size = xs.length := by rw [List.size_toArray, paired_length hp]
  refine PyProof.Rows.len_list hl (by rw [e1]; omega) ?_
  rw [e1]
  exact ⟨⟨_, rfl⟩, g.trans ⟨s'.heap, _, rfl, Up.refl _⟩⟩

/-- sum(xs) -/
theorem Ev.sum {np pos : Pos} {e : Expr} {xs : List Int} (hh : A.handled = none) (b : Blt mg mb env "sum" (.builtin "sum")) (h : Ev prog w A mg mb env vars e (RLst RInt) xs) (he : starEach [e] env = (false, eval e env) :: starEach [] env) :
    Ev prog w A mg mb env vars (.Call (.Name "sum" np) [e] [] pos) RInt xs.sum := fun s E c => by
  refine call1_any b (fun _ q => by cases q) h he c ?_
  rintro _ s' ⟨l, vs, rfl, hl, hp⟩ g
  have hi := paired_ints hp
  obtain ⟨ps, ep⟩ := (hi.allInts).items
  rw [ep] at hl
  refine sum_intListG hh hl fun h' tk t' u => ?_
  have en : xs = ps.toList.map (·.1) := by
    have e1 := hi.numsOf
    have e2 := nums_intItems ps
    rw [← ep] at e2
    simp only at e2
    rw [← e1, ← e2]
  rw [preSum_eq, List.take_of_length_le (by simp), ← en]
  exact ⟨⟨_, rfl⟩, g.trans ⟨h', tk, rfl, u⟩⟩

/-- max(a, b) -/
theorem Ev.max2 {np pos : Pos} {e e' : Expr} {x y : Int} (hh : A.handled = none) (b : Blt mg mb env "max" (.builtin "max")) (h : Ev prog w A mg mb env vars e RInt x) (h' : Ev prog w A mg mb env vars e' RInt y)
    (he : starEach [e, e'] env = (false, eval e env) :: (false, eval e' env) :: starEach [] env) :
    Ev prog w A mg mb env vars (.Call (.Name "max" np) [e, e'] [] pos) RInt (if y > x then y else x) := fun s E c => by
  refine call2_any b (fun _ q => by cases q) h h' he c ?_
  rintro _ _ s' ⟨t, rfl⟩ ⟨u, rfl⟩ g
  refine max_two_ints hh fun h' tk up => ?_
  refine ⟨?_, g.trans ⟨h', tk, rfl, up⟩⟩
  split
  · exact ⟨_, rfl⟩
  · exact ⟨_, rfl⟩

/-- abs(a) -/
theorem Ev.abs {np pos : Pos} {e : Expr} {x : Int} (b : Blt mg mb env "abs" (.builtin "abs")) (h : Ev prog w A mg mb env vars e RInt x) (he : starEach [e] env = (false, eval e env) :: starEach [] env) :
    Ev prog w A mg mb env vars (.Call (.Name "abs" np) [e] [] pos) RInt (if x < 0 then -x else x) := fun s E c => by
  refine call1_any b (fun _ q => by cases q) h he c ?_
  rintro _ s' ⟨t, rfl⟩ g
  exact call_abs_int fun u tk => ⟨⟨_, rfl⟩, g.trans ⟨s'.heap, tk, rfl, Up.refl _⟩⟩

/-- a range by ones -/
def RRange : Rep (Int × Int) := ⟨fun h v x => ∃ a t u q, v = .ref a ∧ IsRange h a x.1 x.2 1 t u q, fun u ⟨a, t, b, q, e, hr⟩ => ⟨a, t, b, q, e, u _ _ hr⟩⟩
theorem fr0 {h : Heap} {L : Addr} {m : Str → Option Value} (n : h.Ns L m) : Fr {} L h m := ⟨n, fun b o e => by simp [Heap.get?] at e, Nat.zero_le _⟩
theorem Ev.range1 {np pos : Pos} {e : Expr} {n : Int} (b : Blt mg mb env "range" (.type "range")) (h : Ev prog w A mg mb env vars e RInt n) (he : starEach [e] env = (false, eval e env) :: starEach [] env) :
    Ev prog w A mg mb env vars (.Call (.Name "range" np) [e] [] pos) RRange (0, n) := fun s E c => by
  refine call1_any b (fun _ q => by cases q) h he c ?_
  rintro _ s' ⟨t, rfl⟩ g
  obtain ⟨m, hm⟩ := (c.up g.up).loc
  exact range1_rows (fr0 hm) News.nil fun h' tk t₁ u₁ v₁ hr _ _ up => ⟨⟨_, _, _, _, rfl, hr⟩, g.trans ⟨h', tk, rfl, up⟩⟩
theorem Ev.range2 {np pos : Pos} {e e' : Expr} {n k : Int} (b : Blt mg mb env "range" (.type "range")) (h : Ev prog w A mg mb env vars e RInt n) (h' : Ev prog w A mg mb env vars e' RInt k)
    (he : starEach [e, e'] env = (false, eval e env) :: (false, eval e' env) :: starEach [] env) :
    Ev prog w A mg mb env vars (.Call (.Name "range" np) [e, e'] [] pos) RRange (n, k) := fun s E c => by
  refine call2_any b (fun _ q => by cases q) h h' he c ?_
  rintro _ _ s' ⟨t, rfl⟩ ⟨u, rfl⟩ g
  obtain ⟨m, hm⟩ := (c.up g.up).loc
  exact range2_rows (fr0 hm) News.nil fun h' tk t₁ u₁ v₁ hr _ _ up => ⟨⟨_, _, _, _, rfl, hr⟩, g.trans ⟨h', tk, rfl, up⟩⟩
end
end Mine

namespace Mine

section
variable {prog : Program} {w : World} {A : Around} {mg mb : Str → Option Value} {env : Env} {vars : List Var}
variable {α β : Type} {R : Rep α} {S : Rep β}

def pick (lo hi : Option Int) (l : List α) : List α := (l.drop (kms_lo lo l.length)).take (kms_hi hi l.length - kms_lo lo l.length)
theorem pick_upto {b : Int} (h : 0 ≤ b) (l : List α) : pick none (some b) l = l.take b.toNat := by
  have h' : ¬ b < 0 := by omega
  simp only [pick, kms_lo, kms_hi, if_neg h', List.drop_zero, Nat.sub_zero]
  by_cases q : b.toNat ≤ l.length
  · rw [Nat.min_eq_left q]
  · rw [Nat.min_eq_right (by omega), List.take_of_length_le (Nat.le_refl _), List.take_of_length_le (by omega)]
theorem pick_from {a : Int} (h : 0 ≤ a) (l : List α) : pick (some a) none l = l.drop a.toNat := by
  have h' : ¬ a < 0 := by omega
  simp only [pick, kms_lo, kms_hi, if_neg h']
  by_cases q : a.toNat ≤ l.length
  · rw [Nat.min_eq_left q]; exact List.take_of_length_le (by simp)
  · rw [Nat.min_eq_right (by omega), List.drop_of_length_le (Nat.le_refl _), List.drop_of_length_le (by omega)]; simp
theorem pick_cut {a b : Int} (h : 0 ≤ a) (h2 : 0 ≤ b) (l : List α) : pick (some a) (some b) l = (l.drop a.toNat).take (b.toNat - a.toNat) := by
  have h' : ¬ a < 0 := by omega
  have h2' : ¬ b < 0 := by omega
  simp only [pick, kms_lo, kms_hi, if_neg h', if_neg h2']
  by_cases q : a.toNat ≤ l.length
  · rw [Nat.min_eq_left q]
    by_cases r : b.toNat ≤ l.length
    · rw [Nat.min_eq_left r]
    · rw [Nat.min_eq_right (by omega), List.take_of_length_le (by simp), List.take_of_length_le (by simp; omega)]
  · rw [Nat.min_eq_right (by omega : l.length ≤ a.toNat), List.drop_of_length_le (Nat.le_refl _), List.drop_of_length_le (by omega)]; simp

/-- a slice's part -/
def EvP (prog : Program) (w : World) (A : Around) (mg mb : Str → Option Value) (env : Env) (vars : List Var) (e : Option Expr) (x : Option Int) : Prop :=
  ∀ (s : Shared) (E : Value → Shared → Prop), Cx mg mb env vars s.heap → wpAny (model prog w) A (evalPart e env) (fun v s' => IsPart v x ∧ Grows s s') E s
theorem EvP.none : EvP prog w A mg mb env vars none none := fun s _ _ => evalPart_none_step ⟨.none, Grows.refl s⟩
theorem EvP.some {e : Expr} {x : Int} (h : Ev prog w A mg mb env vars e RInt x) : EvP prog w A mg mb env vars (some e) (some x) := fun s E c =>
  evalPart_some_step (wpAny_mono (h s E c) (fun _ _ ⟨⟨t, e⟩, g⟩ => ⟨e ▸ .int _ t, g⟩) fun _ _ q => q)

theorem paired_pick {F : Value → α → Prop} {vs : List Value} {xs : List α} (lo hi : Option Int) (p : Paired F vs xs) : Paired F (kms_pick vs lo hi) (pick lo hi xs) := by
  unfold kms_pick pick
  rw [paired_length p]
  exact paired_take _ (paired_drop _ p)
theorem pick_le (lo hi : Option Int) (l : List α) : (pick lo hi l).length ≤ l.length := by
  unfold pick; simp; omega

/-- xs[a:b] -/
theorem EvN.slice {a : Expr} {lower upper : Option Expr} {sp pos : Pos} {xs : List α} {lo hi : Option Int} (ha : Ev prog w A mg mb env vars a (RLst R) xs) (hl : EvP prog w A mg mb env vars lower lo) (hu : EvP prog w A mg mb env vars upper hi)
    (hsz : xs.length ≤ sizeLine) : EvN prog w A mg mb env vars (.Subscript a (.Slice lower upper none sp) pos) (RList R) (pick lo hi xs) := fun s E c => by
  refine Subscript_ (wpAny_mono (ha s E c) (fun v s₁ ⟨r, g₁⟩ => wpAny_Slice ?_) fun _ _ q => q)
  refine wpAny_mono (hl s₁ E (c.up g₁.up)) (fun vl s₂ ⟨pl, g₂⟩ => ?_) fun _ _ q => q
  refine wpAny_mono (hu s₂ E ((c.up g₁.up).up g₂.up)) (fun vu s₃ ⟨pu, g₃⟩ => evalPart_none_step ?_) fun _ _ q => q
  have g := (g₁.trans g₂).trans g₃
  have r' := (RLst R).up (g₂.trans g₃).up r
  obtain ⟨l, vs, rfl, hls, hp⟩ := r'
  have up4 := Up.push s₃.heap { cls := .type "slice", data := .fields #[vl, vu, .none] }
  have hls' : (s₃.heap.push { cls := .type "slice", data := .fields #[vl, vu, .none] }).IsList l vs.toArray := let ⟨o, ho, q⟩ := hls; ⟨o, up4 _ _ ho, q⟩
  unfold subscriptTail
  refine wpAny_bind ?_
  rw [getitemInPython_of_ne (by intro q; cases q)]
  refine wpAny_bind (wpAny_specialOf (Heap.IsList.typeIs (s := { s₃ with heap := s₃.heap.push { cls := .type "slice", data := .fields #[vl, vu, .none] } }) hls') slot_list_getitem.lookup ?_)
  refine wpAny_pure ?_
  show wpAny _ _ (operate [.ref s₃.heap.objs.size, .ref l] (getItem (.ref l) (.ref s₃.heap.objs.size)) >>= _) _ _ _
  refine wpAny_bind (wpAny_operating (wpAny_getItem_list_slice (lo := lo) (hi := hi) (st := Option.none) hls' ⟨_, Heap.get?_push_size _ rfl, rfl, rfl⟩ pl pu .none (by simp) ?_ (by rw [List.size_toArray, paired_length hp]; exact hsz)))
  refine wpAny_bind (wpAny_letTemporaryGo (wpAny_pure ?_))
  rw [kms_pick_eq]
  refine ⟨⟨⟨_, kms_pick vs lo hi, rfl, ⟨0, Heap.get?_push_size _ rfl⟩, paired_up R (up4.trans (Up.push _ _)) (paired_pick lo hi hp)⟩, ?_⟩, g.trans ⟨_, s₃.toks, rfl, up4.trans (Up.push _ _)⟩⟩
  exact New.down (g.up.trans up4) (New.size _)
end
end Mine

namespace Mine

/-- h' differs from h at B alone, or has grown -/
def Chg (B : List Addr) (h h' : Heap) : Prop := ∀ b o, b ∉ B → h.get? b = some o → h'.get? b = some o
theorem Chg.refl (B : List Addr) (h : Heap) : Chg B h h := fun _ _ _ e => e
theorem Chg.trans {B : List Addr} {a b c : Heap} (x : Chg B a b) (y : Chg B b c) : Chg B a c := fun d o n e => y d o n (x d o n e)
theorem Chg.of_up {B : List Addr} {a b : Heap} (x : Up a b) : Chg B a b := fun d o _ e => x d o e
theorem Chg.of_same {B : List Addr} {d : Addr} {a b : Heap} (x : Heap.SameBut d a b) (hd : d ∈ B) : Chg B a b := fun c o n e => x.extBut c o (fun q => n (q ▸ hd)) e
theorem Chg.of_ext {B : List Addr} {d : Addr} {a b : Heap} (x : Heap.ExtBut d a b) (hd : d ∈ B) : Chg B a b := fun c o n e => x c o (fun q => n (q ▸ hd)) e
theorem Chg.up {B : List Addr} {hb h h' : Heap} (u : Up hb h) (c : Chg B h h') (hn : ∀ b ∈ B, hb.get? b = none) : Up hb h' := fun b o e =>
  c b o (fun hm => by have := hn b hm; rw [e] at this; cases this) (u b o e)

/-- v reads as x by objects that are new since h₀ -/
def Frsh {α : Type} (R : Rep α) (h₀ h : Heap) (v : Value) (x : α) : Prop := ∀ h', (∀ b o, h₀.get? b = none → h.get? b = some o → h'.get? b = some o) → R.r h' v x
theorem Frsh.r {α : Type} {R : Rep α} {h₀ h : Heap} {v : Value} {x : α} (f : Frsh R h₀ h v x) : R.r h v x := f h fun _ _ _ e => e
theorem Frsh.chg {α : Type} {R : Rep α} {B : List Addr} {h₀ h h' : Heap} {v : Value} {x : α} (f : Frsh R h₀ h v x) (c : Chg B h h') (hB : ∀ b ∈ B, (h₀.get? b).isSome = true) : Frsh R h₀ h' v x :=
  fun h2 k => f h2 fun b o n e => k b o n (c b o (fun hm => by have := hB b hm; rw [n] at this; cases this) e)
theorem Frsh.up {α : Type} {R : Rep α} {h₀ h h' : Heap} {v : Value} {x : α} (f : Frsh R h₀ h v x) (u : Up h h') : Frsh R h₀ h' v x :=
  fun h2 k => f h2 fun b o n e => k b o n (u b o e)
theorem none_down {h h' : Heap} {b : Addr} (u : Up h h') (n : h'.get? b = none) : h.get? b = none := by
  cases q : h.get? b with
  | none => rfl
  | some o => rw [u _ _ q] at n; cases n
/-- domains only grow -/
def Dom (h h' : Heap) : Prop := ∀ b, (h.get? b).isSome = true → (h'.get? b).isSome = true
theorem Frsh.down {α : Type} {R : Rep α} {h₀ h₁ h : Heap} {v : Value} {x : α} (f : Frsh R h₁ h v x) (d : Dom h₀ h₁) : Frsh R h₀ h v x :=
  fun h2 k => f h2 fun b o n e => k b o (by
    cases q : h₀.get? b with
    | none => rfl
    | some o => have := d b (by rw [q]; rfl); rw [n] at this; cases this) e
theorem Up.dom {h h' : Heap} (u : Up h h') : Dom h h' := fun b s => by
  obtain ⟨o, e⟩ := Option.isSome_iff_exists.mp s
  rw [u b o e]; rfl
theorem paired_mono {α β : Type} {F G : α → β → Prop} (hm : ∀ a b, F a b → G a b) : ∀ {l₁ : List α} {l₂ : List β}, Paired F l₁ l₂ → Paired G l₁ l₂
  | _, _, .nil => .nil
  | _, _, .cons h t => .cons (hm _ _ h) (paired_mono hm t)

/-- an expression's evaluation to something new -/
def EvF (prog : Program) (w : World) (A : Around) (mg mb : Str → Option Value) (env : Env) (vars : List Var) (e : Expr) {α : Type} (R : Rep α) (x : α) : Prop :=
  ∀ (s : Shared) (E : Value → Shared → Prop), Cx mg mb env vars s.heap → wpAny (model prog w) A (eval e env) (fun v s' => Frsh R s.heap s'.heap v x ∧ Grows s s') E s

/-- a reading that asks no object -/
def Flat {α : Type} (R : Rep α) : Prop := ∀ h h' v x, R.r h v x → R.r h' v x
theorem flat_int : Flat RInt := fun _ _ _ _ r => r
theorem flat_bool : Flat RBool := fun _ _ _ _ r => r

section
variable {prog : Program} {w : World} {A : Around} {mg mb : Str → Option Value} {env : Env} {vars : List Var}
variable {α β γ : Type} {R : Rep α} {S : Rep β}

theorem EvF.ev {e : Expr} {x : α} (h : EvF prog w A mg mb env vars e R x) : Ev prog w A mg mb env vars e R x :=
  fun s E c => wpAny_mono (h s E c) (fun _ _ q => ⟨q.1.r, q.2⟩) fun _ _ q => q
theorem EvF.conv {e : Expr} {x y : α} (h : EvF prog w A mg mb env vars e R x) (hxy : x = y) : EvF prog w A mg mb env vars e R y := hxy ▸ h
theorem Ev.flat {e : Expr} {x : α} (h : Ev prog w A mg mb env vars e R x) (hf : Flat R) : EvF prog w A mg mb env vars e R x :=
  fun s E c => wpAny_mono (h s E c) (fun _ _ q => ⟨fun _ _ => hf _ _ _ _ q.1, q.2⟩) fun _ _ q => q
theorem EvN.flat {e : Expr} {xs : List α} (h : EvN prog w A mg mb env vars e (RList R) xs) (hf : Flat R) : EvF prog w A mg mb env vars e (RList R) xs :=
  fun s E c => wpAny_mono (h s E c) (fun _ _ ⟨⟨⟨a, vs, e, hl, p⟩, n⟩, g⟩ => ⟨fun h' k => ⟨a, vs, e, hl.at fun o q => k a o (n a e) q, paired_mono (fun _ _ r => hf _ _ _ _ r) p⟩, g⟩) fun _ _ q => q

/-- an iterator over things that read as xs -/
def Itr (prog : Program) (w : World) (A : Around) {β : Type} (S : Rep β) (h : Heap) (I : Addr) (fp : List Addr) (St : Nat → Heap → Prop) (xs : List β) : Prop :=
  ∃ P, Walks prog w A I fp [I] xs.length P St ∧ (∀ i v, P i v → ∃ x, xs[i]? = some x ∧ S.r h v x) ∧ ∀ i h, St i h → (h.get? I).isSome = true
/-- what can be iterated over -/
def Itb (prog : Program) (w : World) (A : Around) {β γ : Type} (S : Rep β) (RI : Rep γ) (g : γ) (xs : List β) : Prop :=
  ∀ (s : Shared) (v : Value) (E : Value → Shared → Prop) (Q : Value → Shared → Prop), RI.r s.heap v g →
    (∀ I fp St h', Itr prog w A S s.heap I fp St xs → St 0 h' → (∀ b ∈ fp, b < h'.objs.size) → s.heap.get? I = none → (h'.get? I).isSome = true → Up s.heap h' → Q (.ref I) { s with heap := h' }) →
    wpAny (model prog w) A (pyIter v) Q E s

def rangeL (a b : Int) : List Int := (List.range (b - a).toNat).map fun (i : Nat) => a + (i : Int)
theorem rangeL_length (a b : Int) : (rangeL a b).length = (b - a).toNat := by simp [rangeL]
theorem rangeL_get {a b : Int} {i : Nat} (h : i < (b - a).toNat) : (rangeL a b)[i]? = some (a + (i : Int)) := by simp [rangeL, h]

theorem Itb.range (hh : A.handled = none) {a b : Int} (h1 : -1000000 ≤ a) (h2 : a ≤ 1000000) (h3 : -1000000 ≤ b) (h4 : b ≤ 1000000) : Itb prog w A RInt RRange (a, b) (rangeL a b) := by
  rintro s v E Q ⟨r, t, u, q, rfl, hr⟩ k
  have hsz : Builtin.Range.rangeSize a b 1 = (((b - a).toNat : Nat) : Int) := by
    unfold Builtin.Range.rangeSize
    simp
    split <;> omega
  refine wpAny_pyIter_range hr ?_ (k _ _ _ _ ⟨_, (Walks.range hh s.heap.objs.size a 1 (rangeL a b).length).bound, ?_, fun i h st => by
    have st' : IsRangeIter h s.heap.objs.size _ _ _ := st
    rw [st']; rfl⟩ ?_ ?_ (get?_size _) ?_ (Up.push _ _))
  · unfold Builtin.Range.small
    rw [hsz]
    simp [Builtin.Range.rangeFitsLong]
    omega
  · rintro i v ⟨hi, t, rfl⟩
    rw [rangeL_length] at hi
    exact ⟨_, rangeL_get hi, t, by simp⟩
  · show IsRangeIter _ _ _ _ _
    rw [hsz, rangeL_length]
    simpa using Heap.get?_push_size _ rfl
  · intro b hb
    simp at hb
    subst hb
    rw [Heap.size_push]; exact Nat.lt_succ_self _
  · rw [Heap.get?_push_size _ rfl]; rfl

theorem paired_get' {F : Value → α → Prop} : ∀ {vs : List Value} {xs : List α}, Paired F vs xs → ∀ {i : Nat} {v : Value}, vs[i]? = some v → ∃ x, xs[i]? = some x ∧ F v x
  | _, _, .nil, i, x, h => by simp at h
  | _, _, .cons (b := x) hv t, 0, v, h => by simp at h; subst h; exact ⟨x, rfl, hv⟩
  | _, _, .cons hv t, i + 1, v, h => by simp at h; obtain ⟨x, e, f⟩ := paired_get' t h; exact ⟨x, by simpa using e, f⟩

theorem Itb.list (hh : A.handled = none) {xs : List β} : Itb prog w A S (RLst S) xs xs := by
  rintro s v E Q ⟨l, vs, rfl, hl, hp⟩ k
  have hlt : l < s.heap.objs.size := by obtain ⟨o, ho, _⟩ := hl; exact Heap.lt_size ho
  have hl' : (s.heap.push { cls := .type "list_iterator", data := .fields #[.ref l, .int 0 0] }).IsList l vs.toArray := hl.push _
  have hn : xs.length = vs.toArray.size := by rw [List.size_toArray, paired_length hp]
  refine wpAny_pyIter_list hl (k _ [s.heap.objs.size, l] (fun i h => h.IsListIter s.heap.objs.size l i ∧ h.IsList l vs.toArray) _ ⟨fun i v => vs.toArray[i]? = some v, by rw [hn]; exact Walks.list hh s.heap.objs.size l (Nat.ne_of_lt hlt) vs.toArray, ?_, fun i h ⟨⟨o, ho, _⟩, _⟩ => by rw [ho]; rfl⟩ ?_ ?_ (get?_size _) ?_ (Up.push _ _))
  · intro i v hv
    exact paired_get' hp (by simpa using hv)
  · exact ⟨⟨_, Heap.get?_push_size _ rfl, rfl, rfl⟩, hl'⟩
  · intro b hb
    rw [Heap.size_push]
    rcases List.mem_cons.mp hb with rfl | hb
    · exact Nat.lt_succ_self _
    · simp at hb; subst hb; exact Nat.lt_succ_of_lt hlt
  · rw [Heap.get?_push_size _ rfl]; rfl
end
end Mine

namespace Mine

/-- a turn of a comprehension's innermost clause -/
def innerTurn (elt target iter : Expr) (ifs : List Expr) (it acc : Value) (env : Env) (c' : Code) : Sem Fin := do
  standAt iter.pos
  match ← pyNext it with
  | none => pure (.done .next)
  | some v =>
    letOwnedTupleGo target it v
    assign target env v
    let mut ok := true
    for c in ifs do
      if ok then ok ← isTrue c env (eval c env)
    if ok then
      (do let _ ← call (.builtin "list.append") [acc, ← eval elt env])
    again c'

def outerTurn (target iter iter2 : Expr) (it acc : Value) (env : Env) (e : Expr) (c' : Code) : Sem Fin := do
  standAt iter.pos
  match ← pyNext it with
  | none => pure (.done .next)
  | some v =>
    letOwnedTupleGo target it v
    assign target env v
    let x ← eval iter2 env
    standAt iter2.pos
    let x ← foldedSetIterable iter2 env x
    let _ ← runOwn (.compStart e 1 (← holding [x] (pyIter x)) acc env) env
    again c'

theorem turn_one (elt target iter : Expr) (ifs : List Expr) (scope : Scope) (pos : Pos) (it acc : Value) (env : Env) :
    compTurn (.ListComp elt [⟨target, iter, ifs, 0⟩] scope pos) 0 it acc env = innerTurn elt target iter ifs it acc env (.compLoop (.ListComp elt [⟨target, iter, ifs, 0⟩] scope pos) 0 it acc env) := by rfl
theorem turn_two1 (elt target iter : Expr) (ifs : List Expr) (g : Comprehension) (scope : Scope) (pos : Pos) (it acc : Value) (env : Env) :
    compTurn (.ListComp elt [g, ⟨target, iter, ifs, 0⟩] scope pos) 1 it acc env = innerTurn elt target iter ifs it acc env (.compLoop (.ListComp elt [g, ⟨target, iter, ifs, 0⟩] scope pos) 1 it acc env) := by rfl
theorem turn_two0 (elt target iter target2 iter2 : Expr) (ifs : List Expr) (scope : Scope) (pos : Pos) (it acc : Value) (env : Env) :
    compTurn (.ListComp elt [⟨target, iter, [], 0⟩, ⟨target2, iter2, ifs, 0⟩] scope pos) 0 it acc env =
      outerTurn target iter iter2 it acc env (.ListComp elt [⟨target, iter, [], 0⟩, ⟨target2, iter2, ifs, 0⟩] scope pos) (.compLoop (.ListComp elt [⟨target, iter, [], 0⟩, ⟨target2, iter2, ifs, 0⟩] scope pos) 0 it acc env) := by rfl

section
variable {prog : Program} {w : World} {A : Around} {mg mb : Str → Option Value}
variable {α β γ : Type} {R : Rep α} {S : Rep β}

theorem codeAny_inner {elt target iter : Expr} {ifs : List Expr} {gens : List Comprehension} {d : Nat} {scope : Scope} {pos : Pos} {it acc : Value} {env : Env} {Rr : Result → Shared → Prop} {s : Shared} (I : Nat → Shared → Prop)
    (hturn : compTurn (.ListComp elt gens scope pos) d it acc env = innerTurn elt target iter ifs it acc env (.compLoop (.ListComp elt gens scope pos) d it acc env))
    (turn : ∀ n s (E : Value → Shared → Prop), I n s → wpAny (model prog w) A (pyNext it) (fun r s₁ => match r with
      | none => Rr (.ok .next) s₁
      | some v => wpAny (model prog w) A (assign target env v) (fun _ s₂ =>
          wpAny (model prog w) A (forIn ifs true fun c r => if r = true then do let ok ← isTrue c env (eval c env); pure (ForInStep.yield ok) else pure (ForInStep.yield r)) (fun ok s₃ =>
            if ok = true then wpAny (model prog w) A (eval elt env) (fun x s₄ =>
              wpAny (model prog w) A (call (.builtin "list.append") [acc, x]) (fun _ s₅ => ∃ m, m < n ∧ I m s₅) E s₄) E s₃
            else ∃ m, m < n ∧ I m s₃) E s₂) E s₁) E s)
    (n : Nat) (h : I n s) (ht : ∀ v, letOwnedTupleGo target it v = pure ()) :
    codeAny (model prog w) A (.compLoop (.ListComp elt gens scope pos) d it acc env) Rr s := by
  refine codeAny_loop rfl I (fun n s hI => ?_) n h
  show wpAny _ A ((compTurn (.ListComp elt gens scope pos) d it acc env).onRaise (fun x => do noteFrame x env; theTreesLotGoes x)) _ _ s
  refine wpAny_noted ?_
  rw [hturn]
  refine wpAny_bind (wpAny_standAt (wpAny_bind (wpAny_mono (turn n s _ hI) (fun r s₁ h₁ => ?_) fun _ _ h' => h')))
  cases r with
  | none => exact wpAny_pure h₁
  | some v =>
    refine wpAny_bind (wpAny_of_eq (ht v) ?_)
    refine wpAny_bind (wpAny_mono h₁ (fun _ s₂ h₂ => wpAny_bind (wpAny_mono h₂ (fun ok s₃ h₃ => ?_) fun _ _ h' => h')) fun _ _ h' => h')
    cases ok with
    | false => exact wpAny_pure ⟨rfl, h₃⟩
    | true =>
      exact wpAny_bind (wpAny_bind (wpAny_mono h₃ (fun x s₄ h₄ => wpAny_bind (wpAny_mono h₄ (fun _ s₅ h₅ => wpAny_pure (wpAny_pure ⟨rfl, h₅⟩)) fun _ _ h' => h')) fun _ _ h' => h'))

theorem codeAny_outer {elt target iter iter2 : Expr} {gens : List Comprehension} {scope : Scope} {pos : Pos} {it acc : Value} {env : Env} {Rr : Result → Shared → Prop} {s : Shared} (I : Nat → Shared → Prop)
    (hturn : compTurn (.ListComp elt gens scope pos) 0 it acc env = outerTurn target iter iter2 it acc env (.ListComp elt gens scope pos) (.compLoop (.ListComp elt gens scope pos) 0 it acc env))
    (turn : ∀ n s (E E' : Value → Shared → Prop), I n s → wpAny (model prog w) A (pyNext it) (fun r s₁ => match r with
      | none => Rr (.ok .next) s₁
      | some v => wpAny (model prog w) A (assign target env v) (fun _ s₂ =>
          wpAny (model prog w) A (eval iter2 env) (fun x s₃ => wpAny (model prog w) A (pyIter x) (fun it2 s₄ =>
            codeAny (model prog w) A (.compStart (.ListComp elt gens scope pos) 1 it2 acc env) (fun r s' => match r with | .ok _ => ∃ m, m < n ∧ I m s' | .error e => E' e s') s₄) E s₃) E s₂) E s₁) E s)
    (n : Nat) (h : I n s) (ht : ∀ v, letOwnedTupleGo target it v = pure ()) (hs : ∀ x, foldedSetIterable iter2 env x = pure x) :
    codeAny (model prog w) A (.compLoop (.ListComp elt gens scope pos) 0 it acc env) Rr s := by
  refine codeAny_loop rfl I (fun n s hI => ?_) n h
  show wpAny _ A ((compTurn (.ListComp elt gens scope pos) 0 it acc env).onRaise (fun x => do noteFrame x env; theTreesLotGoes x)) _ _ s
  refine wpAny_noted ?_
  rw [hturn]
  refine wpAny_bind (wpAny_standAt (wpAny_bind (wpAny_mono (turn n s _ (cameBackBy (model prog w) A env (notedBy (model prog w) A env fun e s' => Rr (.error e) s')) hI) (fun r s₁ h₁ => ?_) fun _ _ h' => h')))
  cases r with
  | none => exact wpAny_pure h₁
  | some v =>
    refine wpAny_bind (wpAny_of_eq (ht v) ?_)
    refine wpAny_bind (wpAny_mono h₁ (fun _ s₂ h₂ => wpAny_bind (wpAny_mono h₂ (fun x s₃ h₃ => ?_) fun _ _ h' => h')) fun _ _ h' => h')
    refine wpAny_bind (wpAny_standAt (wpAny_bind (wpAny_of_eq (hs x) ?_)))
    refine wpAny_bind (wpAny_holding (wpAny_mono h₃ (fun it2 s₄ h₄ => ?_) fun _ _ h' => h'))
    refine wpAny_bind (wpAny_runOwn (codeAny_mono h₄ fun r s' hr => ?_))
    cases r with
    | ok f => exact wpAny_pure ⟨rfl, hr⟩
    | error e => exact hr

theorem codeAny_start2 {elt : Expr} {g g' : Comprehension} {scope : Scope} {pos : Pos} {it acc : Value} {env : Env} {Rr : Result → Shared → Prop} {s : Shared} (hg : g'.is_async = 0)
    (h0 : codeAny (model prog w) A (.compLoop (.ListComp elt [g, g'] scope pos) 1 it acc env) Rr s)
    (h : ∀ E, wpAny (model prog w) A (pyIter it) (fun it' s' => codeAny (model prog w) A (.compLoop (.ListComp elt [g, g'] scope pos) 1 it' acc env) Rr s') E s) :
    codeAny (model prog w) A (.compStart (.ListComp elt [g, g'] scope pos) 1 it acc env) Rr s := by
  obtain ⟨t', i', ifs', as'⟩ := g'
  simp only at hg
  subst hg
  refine codeAny_of_tree ?_
  show wpAny _ A ((compStart (.ListComp elt [g, ⟨t', i', ifs', 0⟩] scope pos) 1 it acc env).onRaise (fun x => do noteFrame x env; standAt theWindowsPlace)) _ _ s
  refine wpAny_notedAt ?_
  unfold compStart
  show wpAny _ _ (ask >>= _) _ _ s
  refine wpAny_bind (wpAny_askSetting (wpAny_ite ?_))
  split
  · first
      | exact wpAny_bind (wpAny_pure (wpAny_pure (And.intro rfl h0)))
      | exact wpAny_pure (And.intro rfl h0)
  · first
      | exact wpAny_bind (wpAny_rule (wpAny_bind (wpAny_standAt (wpAny_bind (wpAny_mono (h _) (fun it' s' h' => wpAny_pure (And.intro rfl h')) fun _ _ x => x)))))
      | (refine wpAny_bind (wpAny_rule ?_); show wpAny _ _ (standAt i'.pos >>= _) _ _ s; exact wpAny_bind (wpAny_standAt (wpAny_bind (wpAny_mono (h _) (fun it' s' h' => wpAny_pure (And.intro rfl h')) fun _ _ x => x))))

end
end Mine

namespace Mine

/-- a name is bound, and the comprehension's own objects alone turn -/
structure Bnd (prog : Program) (w : World) (A : Around) (cenv : Env) (x : Str) (own : List Addr) (L : Heap → Prop) (L' : Value → Heap → Prop) : Prop where
  bind : ∀ (s : Shared) (v : Value) (E : Value → Shared → Prop) (Q : Unit → Shared → Prop), L s.heap → (∀ h' tk, L' v h' → (∃ a ∈ own, Heap.SameBut a s.heap h') → Q () { s with heap := h', toks := tk }) → wpAny (model prog w) A (storeName cenv x v) Q E s
  forget : ∀ v h, L' v h → L h
  keepL : ∀ h h', (∀ b ∈ own, ∀ o, h.get? b = some o → h'.get? b = some o) → L h → L h'
  keep : ∀ v h h', (∀ b ∈ own, ∀ o, h.get? b = some o → h'.get? b = some o) → L' v h → L' v h'
  live : ∀ h, L h → ∀ b ∈ own, (h.get? b).isSome = true

section
variable {prog : Program} {w : World} {A : Around} {mg mb : Str → Option Value}
variable {α β γ : Type} {R : Rep α} {S : Rep β}

theorem filter_take_succ {p : β → Bool} {xs : List β} {i : Nat} {x : β} (h : xs[i]? = some x) : (xs.take (i + 1)).filter p = (xs.take i).filter p ++ (if p x then [x] else []) := take_succ_filter p xs i x h

theorem inner_loop {elt iter : Expr} {ifs : List Expr} {gens : List Comprehension} {d : Nat} {scope : Scope} {pos px : Pos} {cenv : Env} {x : Str} {I D : Addr} {own fp : List Addr} {St : Nat → Heap → Prop} {hb : Heap} {L : Heap → Prop} {L' : Value → Heap → Prop}
    {xs : List β} (p : β → Bool) (g : β → α) {vs0 : List Value} {Rr : Result → Shared → Prop} {s : Shared}
    (hturn : compTurn (.ListComp elt gens scope pos) d (.ref I) (.ref D) cenv = innerTurn elt (.Name x px) iter ifs (.ref I) (.ref D) cenv (.compLoop (.ListComp elt gens scope pos) d (.ref I) (.ref D) cenv))
    (hI : Itr prog w A S hb I fp St xs) (B : Bnd prog w A cenv x own L L')
    (hIo : I ∉ own) (hDo : D ∉ own) (hDI : D ≠ I) (hDfp : D ∉ fp) (hofp : ∀ b ∈ own, b ∉ fp)
    (hbI : hb.get? I = none) (hbD : hb.get? D = none) (hbo : ∀ b ∈ own, hb.get? b = none)
    (hst : St 0 s.heap) (hup : Up hb s.heap) (hL : L s.heap) (hacc : s.heap.PlainList D vs0.toArray)
    (htest : ∀ (i : Nat) (xv : β) (v : Value), xs[i]? = some xv → S.r hb v xv → ∀ (s : Shared) (E : Value → Shared → Prop), Up hb s.heap → L' v s.heap →
      wpAny (model prog w) A (forIn ifs true fun c r => if r = true then do let ok ← isTrue c cenv (eval c cenv); pure (ForInStep.yield ok) else pure (ForInStep.yield r)) (fun ok s' => ok = p xv ∧ Grows s s') E s)
    (helt : ∀ (i : Nat) (xv : β) (v : Value), xs[i]? = some xv → S.r hb v xv → p xv = true → ∀ (s : Shared) (E : Value → Shared → Prop), Up hb s.heap → L' v s.heap →
      wpAny (model prog w) A (eval elt cenv) (fun y s' => Frsh R s.heap s'.heap y (g xv) ∧ Grows s s') E s)
    (hsz : vs0.length + xs.length ≤ sizeLine)
    (hR : ∀ h' tk vs, Up hb h' → L h' → h'.PlainList D (vs0 ++ vs).toArray → Paired (Frsh R s.heap h') vs ((xs.filter p).map g) → Chg (D :: I :: own) s.heap h' → Rr (.ok .next) { s with heap := h', toks := tk }) :
    codeAny (model prog w) A (.compLoop (.ListComp elt gens scope pos) d (.ref I) (.ref D) cenv) Rr s := by
  obtain ⟨P, W, hP, hlv⟩ := hI
  have hbB : ∀ b ∈ D :: I :: own, hb.get? b = none := fun b hm => by
    rcases List.mem_cons.mp hm with rfl | hm
    · exact hbD
    · rcases List.mem_cons.mp hm with rfl | hm
      · exact hbI
      · exact hbo b hm
  refine codeAny_inner (fun k s' => ∃ h' tk i vs, s' = { s with heap := h', toks := tk } ∧ i ≤ xs.length ∧ k = xs.length + 1 - i ∧ St i h' ∧ Up hb h' ∧ L h' ∧ h'.PlainList D (vs0 ++ vs).toArray ∧
    Paired (Frsh R s.heap h') vs (((xs.take i).filter p).map g) ∧ Chg (D :: I :: own) s.heap h' ∧ vs.length ≤ i) hturn ?_ (xs.length + 1)
    ⟨s.heap, s.toks, 0, [], rfl, Nat.zero_le _, rfl, hst, hup, hL, by simpa using hacc, by simpa using Paired.nil, Chg.refl _ _, Nat.le_refl _⟩ (by intro _; rfl)
  rintro k s' E ⟨h, tk, i, vs, rfl, hi, rfl, hst', hup', hL', hacc', hpd, hch, hlen⟩
  by_cases hlt : i < xs.length
  · refine W.item i _ _ _ hlt hst' fun v h₁ tk₁ hPv hst₁ hk₁ => ?_
    obtain ⟨xv, hxv, hSv⟩ := hP i v hPv
    have c₁ : Chg [I] h h₁ := fun b o n e => hk₁ b o n e
    have up₁ : Up hb h₁ := Chg.up hup' c₁ fun b hm => by simp at hm; subst hm; exact hbI
    have nin : ∀ b ∈ own, b ∉ ([I] : List Addr) := fun b hb q => hIo (by simp at q; exact q ▸ hb)
    have hL₁ : L h₁ := B.keepL h h₁ (fun b hb o e => c₁ b o (nin b hb) e) hL'
    have hD1 : D ∉ ([I] : List Addr) := by simpa using hDI
    have ac₁ : h₁.PlainList D (vs0 ++ vs).toArray := hacc'.at fun o e => c₁ D o hD1 e
    refine wpAny_assign_Name (B.bind _ v _ _ hL₁ fun h₂ tk₂ hL₂ ⟨a, ha, hs₂⟩ => ?_)
    have c₂ : Chg own h₁ h₂ := Chg.of_same hs₂ ha
    have up₂ : Up hb h₂ := Chg.up up₁ c₂ hbo
    have ac₂ : h₂.PlainList D (vs0 ++ vs).toArray := ac₁.at fun o e => c₂ D o hDo e
    have st₂ : St (i + 1) h₂ := W.frame _ _ _ hst₁ fun b hb o e => c₂ b o (fun q => hofp b q hb) e
    have wide : ∀ {B' : List Addr} {a b : Heap}, (∀ x ∈ B', x ∈ D :: I :: own) → Chg B' a b → Chg (D :: I :: own) a b := fun hs c b o n e => c b o (fun q => n (hs b q)) e
    have ch₂ : Chg (D :: I :: own) s.heap h₂ := (hch.trans (wide (fun x hx => by simp at hx; simp [hx]) c₁)).trans (wide (fun x hx => by simp [hx]) c₂)
    have alive : ∀ h', Chg (D :: I :: own) s.heap h' → h'.PlainList D (vs0 ++ vs).toArray → St (i + 1) h' → L h' → Dom s.heap h' := fun h' c hd hs hl b hb => by
      by_cases hm : b ∈ D :: I :: own
      · rcases List.mem_cons.mp hm with rfl | hm
        · obtain ⟨n, e⟩ := hd; rw [e]; rfl
        · rcases List.mem_cons.mp hm with rfl | hm
          · exact hlv _ _ hs
          · exact B.live _ hl b hm
      · obtain ⟨o, e⟩ := Option.isSome_iff_exists.mp hb
        rw [c b o hm e]; rfl
    refine wpAny_mono (htest i xv v hxv hSv _ E up₂ hL₂) (fun ok s₃ ⟨eok, g₃⟩ => ?_) fun _ _ e => e
    obtain ⟨h₃, tk₃, rfl, u₃⟩ := g₃
    subst eok
    have L₃ : L' v h₃ := B.keep v _ _ (fun b _ o e => u₃ b o e) hL₂
    have st₃ : St (i + 1) h₃ := W.frame _ _ _ st₂ fun b _ o e => u₃ b o e
    have ac₃ : h₃.PlainList D (vs0 ++ vs).toArray := ac₂.at fun o e => u₃ D o e
    have ch₃ : Chg (D :: I :: own) s.heap h₃ := ch₂.trans (Chg.of_up u₃)
    have aliveB : ∀ b ∈ D :: I :: own, (s.heap.get? b).isSome = true := fun b hm => by
      rcases List.mem_cons.mp hm with rfl | hm
      · obtain ⟨n, e⟩ := hacc; rw [e]; rfl
      · rcases List.mem_cons.mp hm with rfl | hm
        · exact hlv _ _ hst
        · exact B.live _ hL b hm
    have ch13 : Chg (D :: I :: own) h h₃ := ((wide (fun x hx => by simp at hx; simp [hx]) c₁).trans (wide (fun x hx => by simp [hx]) c₂)).trans (Chg.of_up u₃)
    have pd₃ := paired_mono (fun y z (f : Frsh R s.heap h y z) => f.chg ch13 aliveB) hpd
    cases hpv : p xv with
    | false =>
      simp only [Bool.false_eq_true, if_false]
      refine ⟨xs.length + 1 - (i + 1), by omega, h₃, tk₃, i + 1, vs, rfl, hlt, rfl, st₃, up₂.trans u₃, B.forget _ _ L₃, ac₃, ?_, ch₃, Nat.le_succ_of_le hlen⟩
      rw [filter_take_succ hxv, hpv]
      simpa using pd₃
    | true =>
      simp only [if_true]
      refine wpAny_mono (helt i xv v hxv hSv hpv _ E (up₂.trans u₃) L₃) (fun y s₄ ⟨fy, g₄⟩ => ?_) fun _ _ e => e
      obtain ⟨h₄, tk₄, rfl, u₄⟩ := g₄
      have ac₄ : h₄.PlainList D (vs0 ++ vs).toArray := ac₃.at fun o e => u₄ D o e
      refine wpAny_list_append_plain ac₄ (fun h₅ hl₅ hs₅ => ?_) (by rw [List.size_toArray, List.length_append]; omega)
      have c₅ : Chg [D] h₄ h₅ := Chg.of_same hs₅ (by simp)
      have dom₃ : Dom s.heap h₃ := alive h₃ ch₃ ac₃ st₃ (B.forget _ _ L₃)
      have c45 : Chg (D :: I :: own) h₃ h₅ := (Chg.of_up u₄).trans (wide (fun x hx => by simp at hx; simp [hx]) c₅)
      have hl₅' : h₅.PlainList D (vs0 ++ (vs ++ [y])).toArray := by
        have : (vs0 ++ vs).toArray.push y = (vs0 ++ (vs ++ [y])).toArray := by simp
        rwa [this] at hl₅
      refine ⟨xs.length + 1 - (i + 1), by omega, h₅, tk₄, i + 1, vs ++ [y], rfl, hlt, rfl, ?_, ?_, ?_, hl₅', ?_, ch₃.trans c45, by simpa using hlen⟩
      · exact W.frame _ _ _ st₃ fun b hb o e => c₅ b o (fun q => hDfp (by simp at q; exact q ▸ hb)) (u₄ b o e)
      · exact Chg.up ((up₂.trans u₃).trans u₄) c₅ fun b hm => by simp at hm; subst hm; exact hbD
      · exact B.keepL _ _ (fun b hb o e => c₅ b o (fun q => hDo (by simp at q; exact q ▸ hb)) e) (B.forget _ _ (B.keep v _ _ (fun b _ o e => u₄ b o e) L₃))
      · rw [filter_take_succ hxv, hpv]
        simp only [if_true, List.map_append, List.map_cons, List.map_nil]
        refine Paired.snoc (paired_mono (fun y z (f : Frsh R s.heap h₃ y z) => f.chg c45 aliveB) pd₃) ?_
        have f1 : Frsh R s.heap h₄ y (g xv) := fy.down dom₃
        exact f1.chg (wide (fun x hx => by simp at hx; simp [hx]) c₅) aliveB
  · have hin : i = xs.length := by omega
    subst hin
    refine W.done _ _ _ hst' fun h₁ tk₁ hk₁ => ?_
    have aliveB : ∀ b ∈ D :: I :: own, (s.heap.get? b).isSome = true := fun b hm => by
      rcases List.mem_cons.mp hm with rfl | hm
      · obtain ⟨n, e⟩ := hacc; rw [e]; rfl
      · rcases List.mem_cons.mp hm with rfl | hm
        · exact hlv _ _ hst
        · exact B.live _ hL b hm
    have c₁ : Chg [I] h h₁ := fun b o n e => hk₁ b o n e
    have c₁' : Chg (D :: I :: own) h h₁ := fun b o n e => c₁ b o (fun q => n (by simp at q; simp [q])) e
    refine hR h₁ tk₁ vs (Chg.up hup' c₁ fun b hm => by simp at hm; subst hm; exact hbI) ?_ ?_ ?_ (hch.trans c₁')
    · exact B.keepL h h₁ (fun b hb o e => c₁ b o (fun q => hIo (by simp at q; exact q ▸ hb)) e) hL'
    · exact hacc'.at fun o e => c₁ D o (by simpa using hDI) e
    · rw [List.take_length] at hpd
      exact paired_mono (fun y z (f : Frsh R s.heap h y z) => f.chg c₁' aliveB) hpd
end
end Mine

namespace Mine

def closL (env : Env) : List (Str × NameKind) → List (Str × Addr) → List (Str × Addr)
  | [], acc => acc
  | (n, k) :: r, acc => if k == .free then closL env r ((n, (env.cells.lookup n).getD 0) :: acc) else closL env r acc

theorem closL_eq {env : Env} : ∀ (names : List (Str × NameKind)) (acc : List (Str × Addr)), (∀ n, (n, NameKind.free) ∈ names → (env.cells.lookup n).isSome = true) →
    (forIn names acc fun (x : Str × NameKind) (cs : List (Str × Addr)) => if x.2 == .free then (do let c ← cellOf env x.1; pure (.yield ((x.1, c) :: cs)) : Sem (ForInStep (List (Str × Addr)))) else pure (.yield cs)) = pure (closL env names acc)
  | [], acc, _ => rfl
  | (n, k) :: r, acc, h => by
    rw [List.forIn_cons]
    unfold closL
    by_cases hk : (k == NameKind.free) = true
    · have hk' : k = .free := by simpa using hk
      subst hk'
      obtain ⟨c, hc⟩ := Option.isSome_iff_exists.mp (h n List.mem_cons_self)
      simp only [beq_self_eq_true, if_true]
      unfold cellOf
      rw [hc]
      exact closL_eq r _ fun n' hm => h n' (List.mem_cons_of_mem _ hm)
    · rw [if_neg hk]
      simp only [hk, if_false]
      exact closL_eq r _ fun n' hm => h n' (List.mem_cons_of_mem _ hm)
theorem closureFor_eq {scope : Scope} {env : Env} (h : ∀ n, (n, NameKind.free) ∈ scope.names → (env.cells.lookup n).isSome = true) : closureFor scope env = pure (closL env scope.names []) := by
  unfold closureFor
  have := closL_eq scope.names [] h
  exact (bind_pure _).trans this

theorem closL_lookup {env : Env} {n : Str} : ∀ (names : List (Str × NameKind)) (acc : List (Str × Addr)), ((n, NameKind.free) ∈ names ∨ acc.lookup n = some ((env.cells.lookup n).getD 0)) →
    (closL env names acc).lookup n = some ((env.cells.lookup n).getD 0)
  | [], acc, h => by rcases h with h | h; cases h; exact h
  | (n', k) :: r, acc, h => by
    unfold closL
    by_cases hk : (k == NameKind.free) = true
    · rw [if_pos hk]
      refine closL_lookup r _ ?_
      by_cases hn : n = n'
      · subst hn; exact .inr (by simp)
      · rcases h with h | h
        · rcases List.mem_cons.mp h with e | h
          · cases e; exact absurd rfl hn
          · exact .inl h
        · exact .inr (by rw [List.lookup_cons, beq_eq_false_iff_ne.mpr hn]; exact h)
    · rw [if_neg hk]
      refine closL_lookup r _ (h.imp (fun h => ?_) id)
      rcases List.mem_cons.mp h with e | h
      · cases e; simp at hk
      · exact h

theorem cellsFrom_other {n : Str} : ∀ (names : List (Str × NameKind)) (k : Nat) (acc : List (Str × Addr)), (∀ y ∈ names, ¬ (y.1 = n ∧ y.2 = .cell)) → (cellsFrom k names acc).lookup n = acc.lookup n
  | [], _, _, _ => rfl
  | (n', kd) :: r, k, acc, h => by
    unfold cellsFrom
    split
    · rename_i hk
      rw [cellsFrom_other r _ _ fun y hy => h y (List.mem_cons_of_mem _ hy)]
      have hne : n ≠ n' := fun e => h (n', kd) List.mem_cons_self ⟨e.symm, by simpa using hk⟩
      rw [List.lookup_cons, beq_eq_false_iff_ne.mpr hne]
    · exact cellsFrom_other r _ _ fun y hy => h y (List.mem_cons_of_mem _ hy)

theorem lookup_relabel_free' {env : Env} {n : Str} : ∀ (names : List (Str × NameKind)), names.lookup n = some .free →
    (names.map fun (x : Str × NameKind) => if (x.2 == NameKind.free && env.scope.kind == ScopeKind.function && env.kindOf x.1 == some NameKind.cell) = true then (x.1, NameKind.cell) else (x.1, x.2)).lookup n = some .cell ∨
    (names.map fun (x : Str × NameKind) => if (x.2 == NameKind.free && env.scope.kind == ScopeKind.function && env.kindOf x.1 == some NameKind.cell) = true then (x.1, NameKind.cell) else (x.1, x.2)).lookup n = some .free
  | [], h => by cases h
  | (n', k) :: r, h => by
    rw [List.lookup_cons] at h
    simp only [List.map_cons]
    by_cases hn : (n == n') = true
    · simp only [hn] at h
      cases h
      split
      · left; simp only [List.lookup_cons, hn]
      · right; simp only [List.lookup_cons, hn]
    · have hn' : (n == n') = false := by simpa using hn
      simp only [hn'] at h
      have ih := lookup_relabel_free' (env := env) r h
      split <;> simpa only [List.lookup_cons, hn'] using ih
theorem kind_relabel_free {scope : Scope} {env : Env} {n : Str} (h : scope.names.lookup n = some .free) : (relabel scope env).names.lookup n = some .cell ∨ (relabel scope env).names.lookup n = some .free :=
  lookup_relabel_free' scope.names h

/-- a comprehension's frame -/
def cEnv (scope : Scope) (env : Env) (C : Addr) : Env :=
  { scope := relabel scope env, locals := C, globals := env.globals, cells := cellsFrom (C + 1) scope.names (closL env scope.names []), qual := env.qual, func := none, code := env.code, frame := env.frame, builtins := env.builtins }

/-- a name that a comprehension captures -/
def capOk (scope : Scope) (env : Env) (n : Str) : Bool :=
  scope.names.lookup n == some .free && (env.kindOf n == some .cell || env.kindOf n == some .free) && scope.names.all fun y => !(y.1 == n && y.2 == .cell)

theorem nameIs_cap {scope : Scope} {env : Env} {n : Str} {v : Value} {h : Heap} {C : Addr} (hc : capOk scope env n = true) (hn : NameIs h env n v) : NameIs h (cEnv scope env C) n v := by
  unfold capOk at hc
  simp only [Bool.and_eq_true, Bool.or_eq_true, beq_iff_eq] at hc
  obtain ⟨⟨h1, h2⟩, h3⟩ := hc
  rcases hn with ⟨k, _⟩ | ⟨c, k, hl, hcell⟩
  · rw [k] at h2; rcases h2 with h2 | h2 <;> cases h2
  · refine .inr ⟨c, kind_relabel_free h1, ?_, hcell⟩
    show (cellsFrom (C + 1) scope.names (closL env scope.names [])).lookup n = some c
    rw [cellsFrom_other]
    · rw [closL_lookup _ _ (.inl (mem_of_lookup h1)), hl]; rfl
    · intro y hy ⟨e1, e2⟩
      have := List.all_eq_true.mp h3 y hy
      rw [e1, e2] at this
      simp at this

section
variable {prog : Program} {w : World} {A : Around} {mg mb : Str → Option Value} {env : Env} {vars : List Var}
variable {α β γ : Type} {R : Rep α} {S : Rep β}

/-- the captured names hold in the comprehension's frame -/
theorem cx_cap {scope : Scope} {cap : List Var} {h h' : Heap} {C : Addr} {extra : List Var} (c : Cx mg mb env vars h) (hcap : ∀ e ∈ cap, e ∈ vars ∧ capOk scope env e.x = true) (hk : scope.kind = .function) (u : Up h h') (hl : ∃ m, h'.Ns C m)
    (hx : ∀ e ∈ extra, ∃ v, NameIs h' (cEnv scope env C) e.x v ∧ e.R.r h' v e.val) : Cx mg mb (cEnv scope env C) (extra ++ cap) h' :=
  ⟨c.glo.up u, hk, c.gl, c.bl, hl, fun e he => by
    rcases List.mem_append.mp he with he | he
    · exact hx e he
    · obtain ⟨v, n, r⟩ := c.var e (hcap e he).1
      exact ⟨v, (nameIs_cap (hcap e he).2 n).up u, e.R.up u r⟩⟩

/-- a comprehension's fresh frame -/
theorem newCompEnv {scope : Scope} {globals : Addr} {cl : List (Str × Addr)} {qual : Str} {s : Shared} {E : Value → Shared → Prop} {Q : Env → Shared → Prop}
    (h : Q { scope := scope, locals := s.heap.objs.size, globals := globals, cells := cellsFrom (s.heap.objs.size + 1) scope.names cl, qual := qual, func := none, code := env.code, frame := env.frame, builtins := env.builtins }
      { s with heap := pushCells (s.heap.push { cls := .type "dict", data := .dict #[] }) scope.names }) :
    wpAny (model prog w) A (newFunctionEnv scope globals cl [] qual none .none (some env)) Q E s := by
  simp only [newFunctionEnv, Option.isSome_some, if_true]
  refine wpAny_bind (wpAny_alloc ?_)
  refine wpAny_bind (wpAny_layCells _ (fun name kind cells => by cases hkc : kind == NameKind.cell <;> simp [hkc]) _ _ _ _ ?_)
  rw [show ({ s with heap := s.heap.push { cls := .type "dict", data := .dict #[] } } : Shared).heap.objs.size = s.heap.objs.size + 1 from Heap.size_push ..]
  exact wpAny_bind (wpAny_pure (wpAny_pure h))

/-- the loop's name is a plain local -/
theorem bnd_local {cenv : Env} {x : Str} {C : Addr} {G : (Str → Option Value) → Prop} (hC : cenv.locals = C) (hk : cenv.kindOf x = some .local) (hs : cenv.scope.kind = .function) (hG : ∀ m v, G m → G fun y => if y = x then some v else m y) :
    Bnd prog w A cenv x [C] (fun h => ∃ m, h.Ns C m ∧ G m) (fun v h => ∃ m, h.Ns C m ∧ G m ∧ m x = some v) where
  bind := fun s v E Q ⟨m, hn, hg⟩ k => by
    subst hC
    refine wpAny_storeName_local hk hn (fun h' hn' hs' => k h' _ ⟨_, hn', hG m v hg, by simp⟩ ⟨_, by simp, hs'⟩) (by rw [hs]; rfl)
  forget := fun v h ⟨m, a, b, _⟩ => ⟨m, a, b⟩
  keepL := fun h h' k ⟨m, a, b⟩ => ⟨m, a.at' fun o e => k C (by simp) o e, b⟩
  keep := fun v h h' k ⟨m, a, b, c⟩ => ⟨m, a.at' fun o e => k C (by simp) o e, b, c⟩
  live := fun h ⟨m, ⟨o, _, _, ho, _⟩, _⟩ b hb => by simp at hb; subst hb; rw [ho]; rfl
/-- .. or a cell -/
theorem bnd_cell {cenv : Env} {x : Str} {C c : Addr} (hc : cenv.cells.lookup x = some c) (hk : cenv.kindOf x = some .cell) (hs : cenv.scope.kind = .function) (hCc : C ≠ c) :
    Bnd prog w A cenv x [C, c] (fun h => (∃ m, h.Ns C m) ∧ ∃ v, h.IsCell c v) (fun v h => (∃ m, h.Ns C m) ∧ h.IsCell c (some v)) where
  bind := fun s v E Q ⟨⟨m, hn⟩, v0, hv⟩ k =>
    wpAny_storeName_cell hs hk hc hv fun h' hv' hs' => k h' s.toks ⟨⟨m, hn.sameBut hs' hCc⟩, hv'⟩ ⟨c, by simp, hs'⟩
  forget := fun v h ⟨a, b⟩ => ⟨a, _, b⟩
  keepL := fun h h' k ⟨⟨m, a⟩, v, o, ho, hd⟩ => ⟨⟨m, a.at' fun o e => k C (by simp) o e⟩, v, o, k c (by simp) o ho, hd⟩
  keep := fun v h h' k ⟨⟨m, a⟩, o, ho, hd⟩ => ⟨⟨m, a.at' fun o e => k C (by simp) o e⟩, o, k c (by simp) o ho, hd⟩
  live := fun h ⟨⟨m, o, _, _, ho, _⟩, v, o', ho', _⟩ b hb => by
    simp at hb
    rcases hb with rfl | rfl
    · rw [ho]; rfl
    · rw [ho']; rfl
end
end Mine

namespace Mine

section
variable {prog : Program} {w : World} {A : Around} {mg mb : Str → Option Value} {env : Env} {vars : List Var}
variable {α β γ : Type} {R : Rep α} {S : Rep β}

/-- a comprehension of one clause, from its iterable on: what its end is told -/
def CompEnd (R : Rep α) (hb : Heap) (s : Shared) (out : List α) (Post : Value → Addr → Result → Shared → Prop) : Prop :=
  ∀ (D C : Addr) (h₄ h' : Heap) (tk : Nat) (vs : List Value) (m : Str → Option Value), hb.get? D = none → hb.get? C = none → D ≠ C → Up hb h₄ → (h₄.get? C).isSome = true → (h₄.get? D).isSome = true → Up hb h' → h'.Ns C m →
    h'.PlainList D vs.toArray → Paired (Frsh R h₄ h') vs out → Post (.ref D) C (.ok .next) { s with heap := h', toks := tk }

/-- facts of a comprehension's scope, told once -/
structure ScopeOk (scope : Scope) (env : Env) (vars caps : List Var) : Prop where
  kind : scope.kind = .function
  names : ∀ x ∈ scope.names, x.2 = .local → scope.names.lookup x.1 = some .local
  cap : ∀ e ∈ caps, e ∈ vars ∧ capOk scope env e.x = true
  free : ∀ n, (n, NameKind.free) ∈ scope.names → ∃ e ∈ caps, e.x = n

theorem ScopeOk.clos {scope : Scope} {cap : List Var} {h : Heap} (ok : ScopeOk scope env vars cap) (c : Cx mg mb env vars h) : closureFor scope env = pure (closL env scope.names []) :=
  closureFor_eq fun n hm => by
    obtain ⟨e, he, rfl⟩ := ok.free n hm
    obtain ⟨he', hc⟩ := ok.cap e he
    obtain ⟨v, hn, _⟩ := c.var e he'
    unfold capOk at hc
    simp only [Bool.and_eq_true, Bool.or_eq_true, beq_iff_eq] at hc
    rcases hn with ⟨k, _⟩ | ⟨c, k, hl, _⟩
    · rcases hc.1.2 with h2 | h2 <;> (rw [k] at h2; cases h2)
    · rw [hl]; rfl

/-- the loop's name -/
inductive LoopVar (scope : Scope) (x : Str) : Prop
  | loc (hcell : ∀ y ∈ scope.names, y.2 ≠ .cell) (hx : scope.names.lookup x = some .local)
  | cell (hc : ∀ k acc, cellsFrom k scope.names acc = (x, k) :: acc) (hp : ∀ h : Heap, pushCells h scope.names = h.push { cls := .type "cell", data := .cell none }) (hx : scope.names.lookup x = some .cell)

theorem pushCells_none : ∀ (names : List (Str × NameKind)) (h : Heap), (∀ y ∈ names, y.2 ≠ .cell) → pushCells h names = h
  | [], _, _ => rfl
  | (n, k) :: r, h, hn => by
    unfold pushCells
    have : (k == NameKind.cell) = false := by simpa using hn (n, k) List.mem_cons_self
    rw [this]
    exact pushCells_none r h fun y hy => hn y (List.mem_cons_of_mem _ hy)

theorem lookup_relabel_cell {scope : Scope} {env : Env} {n : Str} (h : scope.names.lookup n = some .cell) : (relabel scope env).names.lookup n = some .cell := by
  have key : ∀ (names : List (Str × NameKind)), names.lookup n = some .cell → (names.map fun (x : Str × NameKind) => if (x.2 == NameKind.free && env.scope.kind == ScopeKind.function && env.kindOf x.1 == some NameKind.cell) = true then (x.1, NameKind.cell) else (x.1, x.2)).lookup n = some .cell := by
    intro names
    induction names with
    | nil => intro h; cases h
    | cons y r ih =>
      intro h
      obtain ⟨n', k⟩ := y
      rw [List.lookup_cons] at h
      simp only [List.map_cons]
      by_cases hn : (n == n') = true
      · simp only [hn] at h
        cases h
        split <;> simp only [List.lookup_cons, hn]
      · have hn' : (n == n') = false := by simpa using hn
        simp only [hn'] at h
        have ih' := ih h
        split <;> simpa only [List.lookup_cons, hn'] using ih'
  exact key scope.names h

/-- the core: iterate, gather -/
theorem comp1_core {elt iter : Expr} {ifs : List Expr} {scope : Scope} {pos px : Pos} {x : Str} {RI : Rep γ} {gI : γ} {xs : List β} {cap : List Var} (p : β → Bool) (g : β → α) {Post : Value → Addr → Result → Shared → Prop} {s : Shared} {v : Value} {E : Value → Shared → Prop}
    (c : Cx mg mb env vars s.heap) (ok : ScopeOk scope env vars cap) (lv : LoopVar scope x) (hv : RI.r s.heap v gI) (hit : Itb prog w A S RI gI xs)
    (htest : ∀ C, ∀ xv ∈ xs, ∀ (s : Shared) (E : Value → Shared → Prop), Cx mg mb (cEnv scope env C) (⟨x, β, S, xv⟩ :: cap) s.heap →
      wpAny (model prog w) A (forIn ifs true fun c r => if r = true then do let ok ← isTrue c (cEnv scope env C) (eval c (cEnv scope env C)); pure (ForInStep.yield ok) else pure (ForInStep.yield r)) (fun ok s' => ok = p xv ∧ Grows s s') E s)
    (helt : ∀ C, ∀ xv ∈ xs, p xv = true → EvF prog w A mg mb (cEnv scope env C) (⟨x, β, S, xv⟩ :: cap) elt R (g xv))
    (hsz : xs.length ≤ sizeLine) (hend : CompEnd R s.heap s ((xs.filter p).map g) Post) :
    wpAny (model prog w) A (pyIter v) (fun it s₂ => wpAny (model prog w) A (newList []) (fun acc s₃ =>
      wpAny (model prog w) A (newFunctionEnv scope env.globals (closL env scope.names []) [] env.qual none .none (some env)) (fun cenv s₄ =>
        codeAny (model prog w) A (.compStart (.ListComp elt [⟨.Name x px, iter, ifs, 0⟩] scope pos) 0 it acc { cenv with scope := relabel scope env }) (Post acc cenv.locals) s₄) E s₃) E s₂) E s := by
  refine hit s v E _ hv fun I fp St h₂ hI hst hfp hIn hIl u₂ => newList_any (by simp [sizeLine]) fun hD => newCompEnv ?_
  have hIhb : I < h₂.objs.size := by obtain ⟨o, e⟩ := Option.isSome_iff_exists.mp hIl; exact Heap.lt_size e
  generalize hH3 : h₂.push { cls := .type "list", data := .seq ([] : List Value).toArray } = h₃ at hD ⊢
  have u₃ : Up h₂ h₃ := hH3 ▸ Up.push _ _
  have s3 : h₃.objs.size = h₂.objs.size + 1 := by rw [← hH3, Heap.size_push]
  dsimp only
  have u₄ : Up h₃ (pushCells (h₃.push { cls := .type "dict", data := .dict #[] }) scope.names) := (Up.push _ _).trans fun b o e => pushCells_keeps _ _ b o e
  have hbC : s.heap.get? h₃.objs.size = none := none_down (u₂.trans u₃) (get?_size _)
  have hbD : s.heap.get? h₂.objs.size = none := none_down u₂ (get?_size _)
  have l2 : h₂.objs.size < h₃.objs.size := by rw [s3]; exact Nat.lt_succ_self _
  have l3 : h₃.objs.size < h₃.objs.size + 1 := Nat.lt_succ_self _
  have hDC : h₂.objs.size ≠ h₃.objs.size := Nat.ne_of_lt l2
  have hns : (pushCells (h₃.push { cls := .type "dict", data := .dict #[] }) scope.names).Ns h₃.objs.size fun _ => none := (Heap.Ns.new h₃ (.type "dict")).keeps (pushCells_keeps _ _)
  have hDl : (pushCells (h₃.push { cls := .type "dict", data := .dict #[] }) scope.names).PlainList h₂.objs.size ([] ++ []).toArray := hD.at fun o e => u₄ _ _ e
  have hst' : St 0 (pushCells (h₃.push { cls := .type "dict", data := .dict #[] }) scope.names) := by
    obtain ⟨P, W, _⟩ := hI
    exact W.frame _ _ _ hst fun b _ o e => u₄ b o (u₃ b o e)
  have hsk : (cEnv scope env h₃.objs.size).scope.kind = .function := ok.kind
  rcases lv with ⟨hcell, hx⟩ | ⟨hc, hp, hx⟩
  · have hB := bnd_local (prog := prog) (w := w) (A := A) (cenv := cEnv scope env h₃.objs.size) (x := x) (C := h₃.objs.size) (G := fun _ => True) rfl (lookup_relabel_local hx) hsk fun _ _ _ => trivial
    generalize hH4 : pushCells (h₃.push { cls := .type "dict", data := .dict #[] }) scope.names = h₄ at *
    have hlp : codeAny (model prog w) A (.compLoop (.ListComp elt [⟨.Name x px, iter, ifs, 0⟩] scope pos) 0 (.ref I) (.ref h₂.objs.size) (cEnv scope env h₃.objs.size)) (Post (.ref h₂.objs.size) h₃.objs.size) { s with heap := h₄ } := by
      refine inner_loop (S := S) (R := R) (hb := s.heap) (vs0 := []) p g (turn_one _ _ _ _ _ _ _ _ _) hI hB (fun hm => by simp at hm; exact Nat.ne_of_lt (Nat.lt_trans hIhb l2) hm) (by simpa using hDC) (Nat.ne_of_gt hIhb) ?_ ?_ hIn hbD (by simpa using hbC) hst' ((u₂.trans u₃).trans u₄) ⟨_, hns, trivial⟩ hDl ?_ ?_ (by simpa using hsz) ?_
      · intro hm; exact Nat.lt_irrefl _ (hfp _ hm)
      · intro b hb hm; simp at hb; subst hb; exact Nat.lt_asymm (hfp _ hm) l2
      · intro i xv u hxv hSv s' E' up ⟨m, hm, _, hmx⟩
        exact htest _ xv (List.mem_of_getElem? hxv) s' E' (cx_cap (extra := [⟨x, β, S, xv⟩]) c ok.cap ok.kind up ⟨m, hm⟩ fun e he => by
          simp at he; subst he; exact ⟨u, .inl ⟨lookup_relabel_local hx, m, hm, hmx⟩, S.up up hSv⟩)
      · intro i xv u hxv hSv hpv s' E' up ⟨m, hm, _, hmx⟩
        exact helt _ xv (List.mem_of_getElem? hxv) hpv s' E' (cx_cap (extra := [⟨x, β, S, xv⟩]) c ok.cap ok.kind up ⟨m, hm⟩ fun e he => by
          simp at he; subst he; exact ⟨u, .inl ⟨lookup_relabel_local hx, m, hm, hmx⟩, S.up up hSv⟩)
      · intro h' tk vs up ⟨m, hm, _⟩ hl hp' hch
        exact hend _ _ h₄ h' tk vs m hbD hbC hDC ((u₂.trans u₃).trans u₄) (by obtain ⟨o, _, _, ho, _⟩ := hns; rw [ho]; rfl) (by obtain ⟨n, ho⟩ := hDl; rw [ho]; rfl) up hm (by simpa using hl) hp'
    refine codeAny_compStart_list hlp ?_
    obtain ⟨P, W, _⟩ := hI
    exact W.self 0 _ _ _ hst' hlp
  · have hcl : (cEnv scope env h₃.objs.size).cells.lookup x = some (h₃.objs.size + 1) := by
      show (cellsFrom (h₃.objs.size + 1) scope.names _).lookup x = _
      rw [hc]; simp
    have hB := bnd_cell (prog := prog) (w := w) (A := A) (cenv := cEnv scope env h₃.objs.size) (x := x) (C := h₃.objs.size) hcl (lookup_relabel_cell hx) hsk (Nat.ne_of_lt l3)
    have hcellv : (pushCells (h₃.push { cls := .type "dict", data := .dict #[] }) scope.names).IsCell (h₃.objs.size + 1) none := by
      rw [hp]
      refine ⟨{ cls := .type "cell", data := .cell none }, ?_, rfl⟩
      have e : h₃.objs.size + 1 = (h₃.push { cls := .type "dict", data := .dict #[] }).objs.size := (Heap.size_push ..).symm
      rw [e]
      exact Heap.get?_push_size _ rfl
    have hbc : s.heap.get? (h₃.objs.size + 1) = none := none_down (u₂.trans u₃) (by
      cases q : h₃.get? (h₃.objs.size + 1) with
      | none => rfl
      | some o => exact absurd (Heap.lt_size q) (Nat.not_lt.mpr (Nat.le_succ _)))
    generalize hH4 : pushCells (h₃.push { cls := .type "dict", data := .dict #[] }) scope.names = h₄ at *
    have hlp : codeAny (model prog w) A (.compLoop (.ListComp elt [⟨.Name x px, iter, ifs, 0⟩] scope pos) 0 (.ref I) (.ref h₂.objs.size) (cEnv scope env h₃.objs.size)) (Post (.ref h₂.objs.size) h₃.objs.size) { s with heap := h₄ } := by
      refine inner_loop (S := S) (R := R) (hb := s.heap) (vs0 := []) p g (turn_one _ _ _ _ _ _ _ _ _) hI hB (fun hm => by simp at hm; rcases hm with hm | hm; exact Nat.ne_of_lt (Nat.lt_trans hIhb l2) hm; exact Nat.ne_of_lt (Nat.lt_trans (Nat.lt_trans hIhb l2) l3) hm) (fun hm => by simp at hm; rcases hm with hm | hm; exact Nat.ne_of_lt l2 hm; exact Nat.ne_of_lt (Nat.lt_trans l2 l3) hm) (Nat.ne_of_gt hIhb) ?_ ?_ hIn hbD (by intro b hb; simp at hb; rcases hb with rfl | rfl <;> assumption) hst' ((u₂.trans u₃).trans u₄) ⟨⟨_, hns⟩, _, hcellv⟩ hDl ?_ ?_ (by simpa using hsz) ?_
      · intro hm; exact Nat.lt_irrefl _ (hfp _ hm)
      · intro b hb hm; simp at hb; have h9 := hfp _ hm; rcases hb with rfl | rfl; exact Nat.lt_asymm h9 l2; exact Nat.lt_asymm h9 (Nat.lt_trans l2 l3)
      · intro i xv u hxv hSv s' E' up ⟨⟨m, hm⟩, hcv⟩
        exact htest _ xv (List.mem_of_getElem? hxv) s' E' (cx_cap (extra := [⟨x, β, S, xv⟩]) c ok.cap ok.kind up ⟨m, hm⟩ fun e he => by
          simp at he; subst he; exact ⟨u, .inr ⟨_, .inl (lookup_relabel_cell hx), hcl, hcv⟩, S.up up hSv⟩)
      · intro i xv u hxv hSv hpv s' E' up ⟨⟨m, hm⟩, hcv⟩
        exact helt _ xv (List.mem_of_getElem? hxv) hpv s' E' (cx_cap (extra := [⟨x, β, S, xv⟩]) c ok.cap ok.kind up ⟨m, hm⟩ fun e he => by
          simp at he; subst he; exact ⟨u, .inr ⟨_, .inl (lookup_relabel_cell hx), hcl, hcv⟩, S.up up hSv⟩)
      · intro h' tk vs up ⟨⟨m, hm⟩, _⟩ hl hp' hch
        exact hend _ _ h₄ h' tk vs m hbD hbC hDC ((u₂.trans u₃).trans u₄) (by obtain ⟨o, _, _, ho, _⟩ := hns; rw [ho]; rfl) (by obtain ⟨n, ho⟩ := hDl; rw [ho]; rfl) up hm (by simpa using hl) hp'
    refine codeAny_compStart_list hlp ?_
    obtain ⟨P, W, _⟩ := hI
    exact W.self 0 _ _ _ hst' hlp
end
end Mine

namespace Mine

section
variable {prog : Program} {w : World} {A : Around} {mg mb : Str → Option Value} {env : Env} {vars : List Var}
variable {α β γ : Type} {R : Rep α} {S : Rep β}

theorem frsh_list {hs h₄ h' : Heap} {D : Addr} {vs : List Value} {xs : List α} (hD : hs.get? D = none) (u : Up hs h₄) (hl : h'.PlainList D vs.toArray) (hp : Paired (Frsh R h₄ h') vs xs) : Frsh (RList R) hs h' (.ref D) xs :=
  fun h2 k => ⟨D, vs, rfl, hl.at fun o e => k D o hD e, paired_mono (fun v x (f : Frsh R h₄ h' v x) => f h2 fun b o n e => k b o (none_down u n) e) hp⟩

theorem EvF.comp1 {elt iter : Expr} {ifs : List Expr} {scope : Scope} {pos px : Pos} {x : Str} {RI : Rep γ} {gI : γ} {xs : List β} {cap : List Var} (p : β → Bool) (g : β → α)
    (hi : Ev prog w A mg mb env vars iter RI gI) (hit : Itb prog w A S RI gI xs) (ok : ScopeOk scope env vars cap) (lv : LoopVar scope x)
    (htest : ∀ C, ∀ xv ∈ xs, ∀ (s : Shared) (E : Value → Shared → Prop), Cx mg mb (cEnv scope env C) (⟨x, β, S, xv⟩ :: cap) s.heap →
      wpAny (model prog w) A (forIn ifs true fun c r => if r = true then do let ok ← isTrue c (cEnv scope env C) (eval c (cEnv scope env C)); pure (ForInStep.yield ok) else pure (ForInStep.yield r)) (fun ok s' => ok = p xv ∧ Grows s s') E s)
    (helt : ∀ C, ∀ xv ∈ xs, p xv = true → EvF prog w A mg mb (cEnv scope env C) (⟨x, β, S, xv⟩ :: cap) elt R (g xv))
    (hsz : xs.length ≤ sizeLine) (hs : ∀ v, foldedSetIterable iter env v = pure v) :
    EvF prog w A mg mb env vars (.ListComp elt [⟨.Name x px, iter, ifs, 0⟩] scope pos) (RList R) ((xs.filter p).map g) := fun s E c => by
  rw [eval_ListComp]
  refine wpAny_comprehension_free (use := none) rfl hs (ok.clos c) ok.kind ok.names ?_
  show wpAny _ _ (eval iter env) _ _ _
  refine wpAny_mono (hi s E c) (fun v s₁ ⟨r, g₁⟩ => ?_) fun _ _ q => q
  refine comp1_core p g (c.up g₁.up) ok lv r hit htest helt hsz ?_
  intro D C h₄ h' tk vs m hD hC hDC u₄ lC lD up hm hl hp
  refine ⟨m, hm, fun h'' hs'' => ⟨?_, g₁.trans ⟨h'', tk, rfl, ?_⟩⟩⟩
  · refine frsh_list (h₄ := h₄) (none_down g₁.up hD) (g₁.up.trans u₄) (hl.extBut hs''.extBut hDC) ?_
    exact paired_mono (fun v x (f : Frsh R h₄ h' v x) => f.chg (Chg.of_same hs'' (List.mem_singleton.mpr rfl)) fun b hb => by simp at hb; subst hb; exact lC) hp
  · exact Chg.up up (Chg.of_same hs'' (List.mem_singleton.mpr rfl)) fun b hb => by simp at hb; subst hb; exact hC

/-- [e for x in it] -/
theorem EvF.map {elt iter : Expr} {scope : Scope} {pos px : Pos} {x : Str} {RI : Rep γ} {gI : γ} {xs : List β} {cap : List Var} (g : β → α)
    (hi : Ev prog w A mg mb env vars iter RI gI) (hit : Itb prog w A S RI gI xs) (ok : ScopeOk scope env vars cap) (lv : LoopVar scope x)
    (helt : ∀ C, ∀ xv ∈ xs, EvF prog w A mg mb (cEnv scope env C) (⟨x, β, S, xv⟩ :: cap) elt R (g xv))
    (hsz : xs.length ≤ sizeLine) (hs : ∀ v, foldedSetIterable iter env v = pure v) :
    EvF prog w A mg mb env vars (.ListComp elt [⟨.Name x px, iter, [], 0⟩] scope pos) (RList R) (xs.map g) := by
  have := EvF.comp1 (elt := elt) (iter := iter) (ifs := []) (pos := pos) (px := px) (fun _ => true) g hi hit ok lv (fun C xv hx s E c => wpAny_tests_nil ⟨rfl, Grows.refl s⟩) (fun C xv hx _ => helt C xv hx) hsz hs
  rwa [List.filter_eq_self.mpr (fun _ _ => rfl)] at this
/-- [e for x in it if t] -/
theorem EvF.filt {elt iter t : Expr} {scope : Scope} {pos px : Pos} {x : Str} {RI : Rep γ} {gI : γ} {xs : List β} {cap : List Var} (p : β → Bool) (g : β → α)
    (hi : Ev prog w A mg mb env vars iter RI gI) (hit : Itb prog w A S RI gI xs) (ok : ScopeOk scope env vars cap) (lv : LoopVar scope x)
    (htest : ∀ C, ∀ xv ∈ xs, EvB prog w A mg mb (cEnv scope env C) (⟨x, β, S, xv⟩ :: cap) t (p xv))
    (helt : ∀ C, ∀ xv ∈ xs, p xv = true → EvF prog w A mg mb (cEnv scope env C) (⟨x, β, S, xv⟩ :: cap) elt R (g xv))
    (hsz : xs.length ≤ sizeLine) (hs : ∀ v, foldedSetIterable iter env v = pure v) :
    EvF prog w A mg mb env vars (.ListComp elt [⟨.Name x px, iter, [t], 0⟩] scope pos) (RList R) ((xs.filter p).map g) :=
  EvF.comp1 p g hi hit ok lv (fun C xv hx s E c => wpAny_tests_one (htest C xv hx s E c)) helt hsz hs

end
end Mine

namespace Mine

section
variable {prog : Program} {w : World} {A : Around} {mg mb : Str → Option Value} {env : Env} {vars : List Var}
variable {α β γ : Type} {R : Rep α} {S : Rep β}

theorem range_itr (hh : A.handled = none) {a b : Int} (h1 : -1000000 ≤ a) (h2 : a ≤ 1000000) (h3 : -1000000 ≤ b) (h4 : b ≤ 1000000) {s : Shared} {v : Value} {E : Value → Shared → Prop} {Q : Value → Shared → Prop} (hr : RRange.r s.heap v (a, b))
    (k : ∀ St h', (∀ h0, Itr prog w A RInt h0 s.heap.objs.size [s.heap.objs.size] St (rangeL a b)) → St 0 h' → (h'.get? s.heap.objs.size).isSome = true → Up s.heap h' → Q (.ref s.heap.objs.size) { s with heap := h' }) :
    wpAny (model prog w) A (pyIter v) Q E s := by
  obtain ⟨r, t, u, q, rfl, hr⟩ := hr
  have hsz : Builtin.Range.rangeSize a b 1 = (((b - a).toNat : Nat) : Int) := by
    unfold Builtin.Range.rangeSize
    simp
    split <;> omega
  refine wpAny_pyIter_range hr ?_ (k _ _ (fun h0 => ⟨_, (Walks.range hh s.heap.objs.size a 1 (rangeL a b).length).bound, ?_, fun i h st => by
    have st' : IsRangeIter h s.heap.objs.size _ _ _ := st
    rw [st']; rfl⟩) ?_ ?_ (Up.push _ _))
  · unfold Builtin.Range.small
    rw [hsz]
    simp [Builtin.Range.rangeFitsLong]
    omega
  · rintro i v ⟨hi, t, rfl⟩
    rw [rangeL_length] at hi
    exact ⟨_, rangeL_get hi, t, by simp⟩
  · show IsRangeIter _ _ _ _ _
    rw [hsz, rangeL_length]
    simpa using Heap.get?_push_size _ rfl
  · rw [Heap.get?_push_size _ rfl]; rfl

theorem take_succ_flat {f : β → List α} {xs : List β} {i : Nat} {x : β} (h : xs[i]? = some x) : (xs.take (i + 1)).flatMap f = (xs.take i).flatMap f ++ f x := by
  rw [List.take_add_one, h]
  simp

/-- [e for x in it for y in range(a, b)] -/
theorem EvF.map2 {elt iter iter2 : Expr} {scope : Scope} {pos px py : Pos} {x y : Str} {RI : Rep γ} {gI : γ} {xs : List β} {cap : List Var} {a b : Int} (g : β → Int → α) (hh : A.handled = none)
    (hi : Ev prog w A mg mb env vars iter RI gI) (hit : Itb prog w A S RI gI xs) (ok : ScopeOk scope env vars cap) (hcell : ∀ z ∈ scope.names, z.2 ≠ .cell) (hx : scope.names.lookup x = some .local) (hy : scope.names.lookup y = some .local) (hxy : x ≠ y)
    (h1 : -1000000 ≤ a) (h2 : a ≤ 1000000) (h3 : -1000000 ≤ b) (h4 : b ≤ 1000000)
    (hi2 : ∀ C, ∀ xv ∈ xs, Ev prog w A mg mb (cEnv scope env C) (⟨x, β, S, xv⟩ :: cap) iter2 RRange (a, b))
    (helt : ∀ C, ∀ xv ∈ xs, ∀ yv ∈ rangeL a b, EvF prog w A mg mb (cEnv scope env C) (⟨y, Int, RInt, yv⟩ :: ⟨x, β, S, xv⟩ :: cap) elt R (g xv yv))
    (hsz : xs.length * (b - a).toNat ≤ sizeLine) (hs : ∀ v, foldedSetIterable iter env v = pure v) (hs2 : ∀ env' v, foldedSetIterable iter2 env' v = pure v) :
    EvF prog w A mg mb env vars (.ListComp elt [⟨.Name x px, iter, [], 0⟩, ⟨.Name y py, iter2, [], 0⟩] scope pos) (RList R) (xs.flatMap fun xv => (rangeL a b).map (g xv)) := fun s E c => by
  rw [eval_ListComp]
  refine wpAny_comprehension_free (use := none) rfl hs (ok.clos c) ok.kind ok.names ?_
  show wpAny _ _ (eval iter env) _ _ _
  refine wpAny_mono (hi s E c) (fun v s₁ ⟨r, g₁⟩ => ?_) fun _ _ q => q
  have c₁ := c.up g₁.up
  refine hit s₁ v E _ r fun I fp St h₂ hI hst hfp hIn hIl u₂ => newList_any (by simp [sizeLine]) fun hD => newCompEnv ?_
  have hIhb : I < h₂.objs.size := by obtain ⟨o, e⟩ := Option.isSome_iff_exists.mp hIl; exact Heap.lt_size e
  generalize hH3 : h₂.push { cls := .type "list", data := .seq ([] : List Value).toArray } = h₃ at hD ⊢
  have u₃ : Up h₂ h₃ := hH3 ▸ Up.push _ _
  have s3 : h₃.objs.size = h₂.objs.size + 1 := by rw [← hH3, Heap.size_push]
  dsimp only
  rw [pushCells_none _ _ hcell]
  have u₄ : Up h₃ (h₃.push { cls := .type "dict", data := .dict #[] }) := Up.push _ _
  have hbC : s₁.heap.get? h₃.objs.size = none := none_down (u₂.trans u₃) (get?_size _)
  have hbD : s₁.heap.get? h₂.objs.size = none := none_down u₂ (get?_size _)
  have l2 : h₂.objs.size < h₃.objs.size := by rw [s3]; exact Nat.lt_succ_self _
  have hDC : h₂.objs.size ≠ h₃.objs.size := Nat.ne_of_lt l2
  have hns : (h₃.push { cls := .type "dict", data := .dict #[] }).Ns h₃.objs.size fun _ => none := Heap.Ns.new h₃ (.type "dict")
  have hDl : (h₃.push { cls := .type "dict", data := .dict #[] }).PlainList h₂.objs.size ([] : List Value).toArray := hD.at fun o e => u₄ _ _ e
  have hst' : St 0 (h₃.push { cls := .type "dict", data := .dict #[] }) := by
    obtain ⟨P, W, _⟩ := hI
    exact W.frame _ _ _ hst fun b _ o e => u₄ b o (u₃ b o e)
  have hsk : (cEnv scope env h₃.objs.size).scope.kind = .function := ok.kind
  have hB := bnd_local (prog := prog) (w := w) (A := A) (cenv := cEnv scope env h₃.objs.size) (x := x) (C := h₃.objs.size) (G := fun _ => True) rfl (lookup_relabel_local hx) hsk fun _ _ _ => trivial
  generalize hH4 : h₃.push { cls := .type "dict", data := .dict #[] } = h₄ at *
  have up₄ : Up s₁.heap h₄ := (u₂.trans u₃).trans u₄
  have lC : (h₄.get? h₃.objs.size).isSome = true := by obtain ⟨o, _, _, ho, _⟩ := hns; rw [ho]; rfl
  have lD : (h₄.get? h₂.objs.size).isSome = true := by obtain ⟨n, ho⟩ := hDl; rw [ho]; rfl
  generalize hDD : h₂.objs.size = D at *
  generalize hCC : h₃.objs.size = C at *
  obtain ⟨P, W, hP, hlv⟩ := id hI
  have lI : (h₄.get? I).isSome = true := hlv _ _ hst'
  have hIC : I ≠ C := Nat.ne_of_lt (Nat.lt_trans hIhb l2)
  have hID : I ≠ D := Nat.ne_of_lt hIhb
  have hDfp : D ∉ fp := fun hm => Nat.lt_irrefl _ (hfp _ hm)
  have hCfp : C ∉ fp := fun hm => Nat.lt_asymm (hfp _ hm) l2
  have hbB : ∀ z ∈ [D, I, C], s₁.heap.get? z = none := fun z hm => by
    simp at hm; rcases hm with rfl | rfl | rfl <;> assumption
  have aliveB : ∀ z ∈ [D, I, C], (h₄.get? z).isSome = true := fun z hm => by
    simp at hm; rcases hm with rfl | rfl | rfl <;> assumption
  have hlp : codeAny (model prog w) A (.compLoop (.ListComp elt [⟨.Name x px, iter, [], 0⟩, ⟨.Name y py, iter2, [], 0⟩] scope pos) 0 (.ref I) (.ref D) (cEnv scope env C))
      (compPost (model prog w) A E none (fun v s' => Frsh (RList R) s.heap s'.heap v (xs.flatMap fun xv => (rangeL a b).map (g xv)) ∧ Grows s s') (.ref D) C) { s₁ with heap := h₄ } := by
    refine codeAny_outer (fun k s' => ∃ h' tk i vs, s' = { s₁ with heap := h', toks := tk } ∧ i ≤ xs.length ∧ k = xs.length + 1 - i ∧ St i h' ∧ Up s₁.heap h' ∧ (∃ m, h'.Ns C m ∧ True) ∧ h'.PlainList D vs.toArray ∧
      Paired (Frsh R h₄ h') vs ((xs.take i).flatMap fun xv => (rangeL a b).map (g xv)) ∧ Chg [D, I, C] h₄ h' ∧ vs.length = i * (b - a).toNat) (turn_two0 _ _ _ _ _ _ _ _ _ _ _) ?_ (xs.length + 1)
      ⟨h₄, s₁.toks, 0, [], rfl, Nat.zero_le _, rfl, hst', up₄, ⟨_, hns, trivial⟩, hDl, by simpa using Paired.nil, Chg.refl _ _, by simp⟩ (by intro _; rfl) (hs2 _)
    rintro k s' E₁ E₂ ⟨h, tk, i, vs, rfl, hi', rfl, hst₁, hup₁, hL₁, hacc₁, hpd, hch, hlen⟩
    by_cases hlt : i < xs.length
    · refine W.item i _ _ _ hlt hst₁ fun v h₁ tk₁ hPv hst₂ hk₁ => ?_
      obtain ⟨xv, hxv, hSv⟩ := hP i v hPv
      have hxm : xv ∈ xs := List.mem_of_getElem? hxv
      have c₁' : Chg [I] h h₁ := fun z o n e => hk₁ z o n e
      have nI : ∀ z ∈ [C], z ∉ ([I] : List Addr) := fun z hz q => by simp at hz q; exact hIC (q.symm.trans hz)
      refine wpAny_assign_Name (hB.bind _ v _ _ (hB.keepL h h₁ (fun z hz o e => c₁' z o (nI z hz) e) hL₁) fun h₂' tk₂ ⟨m₂, hm₂, _, hmx₂⟩ ⟨z, hz, hs₂⟩ => ?_)
      have c₂' : Chg [C] h₁ h₂' := Chg.of_same hs₂ hz
      have up₂' : Up s₁.heap h₂' := Chg.up (Chg.up hup₁ c₁' fun z hz => by simp at hz; subst hz; exact hIn) c₂' fun z hz => by simp at hz; subst hz; exact hbC
      have wide : ∀ {B' : List Addr} {a b : Heap}, (∀ x ∈ B', x ∈ [D, I, C]) → Chg B' a b → Chg [D, I, C] a b := fun hs c b o n e => c b o (fun q => n (hs b q)) e
      have ch12 : Chg [D, I, C] h h₂' := (wide (by simp) c₁').trans (wide (by simp) c₂')
      have ac₂ : h₂'.PlainList D vs.toArray := hacc₁.at fun o e => c₂' D o (by simpa using hDC) (c₁' D o (by simpa using Ne.symm hID) e)
      have st₂ : St (i + 1) h₂' := W.frame _ _ _ hst₂ fun z hz o e => c₂' z o (fun q => by simp at q; exact hCfp (q ▸ hz)) e
      have cx₂ : ∀ h', Up s₁.heap h' → (∃ m, h'.Ns C m ∧ m x = some v) → Cx mg mb (cEnv scope env C) (⟨x, β, S, xv⟩ :: cap) h' := fun h' up ⟨m, hm, hmx⟩ =>
        cx_cap (extra := [⟨x, β, S, xv⟩]) c₁ ok.cap ok.kind up ⟨m, hm⟩ fun e he => by
          simp at he; subst he; exact ⟨v, .inl ⟨lookup_relabel_local hx, m, hm, hmx⟩, S.up up hSv⟩
      refine wpAny_mono (hi2 C xv hxm _ _ (cx₂ h₂' up₂' ⟨m₂, hm₂, hmx₂⟩)) (fun v2 s₃ ⟨r2, g₃⟩ => ?_) fun _ _ e => e
      obtain ⟨h₃', tk₃, rfl, u₃'⟩ := g₃
      refine range_itr hh h1 h2 h3 h4 r2 fun St2 h₅ hI2 hst2 hI2l u₅ => ?_
      generalize hI2e : h₃'.objs.size = I2 at *
      have hI2n : h₃'.get? I2 = none := by rw [← hI2e]; exact get?_size _
      have u25 : Up h₂' h₅ := u₃'.trans u₅
      have ac₅ : h₅.PlainList D vs.toArray := ac₂.at fun o e => u25 D o e
      have st₅ : St (i + 1) h₅ := W.frame _ _ _ st₂ fun z _ o e => u25 z o e
      have hm₅ : h₅.Ns C m₂ := hm₂.keeps u25
      have neI2 : ∀ z, (h₃'.get? z).isSome = true → z ≠ I2 := fun z hz q => by rw [q, hI2n] at hz; cases hz
      have hDI2 : D ≠ I2 := neI2 D (by obtain ⟨n, ho⟩ := ac₂; rw [u₃' _ _ ho]; rfl)
      have hCI2 : C ≠ I2 := neI2 C (by obtain ⟨o, _, _, ho, _⟩ := hm₂; rw [u₃' _ _ ho]; rfl)
      have hB2 := bnd_local (prog := prog) (w := w) (A := A) (cenv := cEnv scope env C) (x := y) (C := C) (G := fun m => m x = some v) rfl (lookup_relabel_local hy) hsk fun m u hm => by simp [hxy, hm]
      have dom24 : Dom h₄ h₃' := fun z hz => by
        by_cases hm : z ∈ [D, I, C]
        · simp at hm
          rcases hm with rfl | rfl | rfl
          · obtain ⟨n, ho⟩ := ac₂; rw [u₃' _ _ ho]; rfl
          · exact u₃'.dom _ (hlv _ _ st₂)
          · obtain ⟨o, _, _, ho, _⟩ := hm₂; rw [u₃' _ _ ho]; rfl
        · obtain ⟨o, e⟩ := Option.isSome_iff_exists.mp hz
          rw [u₃' _ _ (ch12 z o hm (hch z o hm e))]; rfl
      have hlp2 : codeAny (model prog w) A (.compLoop (.ListComp elt [⟨.Name x px, iter, [], 0⟩, ⟨.Name y py, iter2, [], 0⟩] scope pos) 1 (.ref I2) (.ref D) (cEnv scope env C))
          (fun r s' => match r with | .ok _ => (∃ m, m < xs.length + 1 - i ∧ ∃ h' tk i vs, s' = { s₁ with heap := h', toks := tk } ∧ i ≤ xs.length ∧ m = xs.length + 1 - i ∧ St i h' ∧ Up s₁.heap h' ∧ (∃ m, h'.Ns C m ∧ True) ∧ h'.PlainList D vs.toArray ∧
              Paired (Frsh R h₄ h') vs ((xs.take i).flatMap fun xv => (rangeL a b).map (g xv)) ∧ Chg [D, I, C] h₄ h' ∧ vs.length = i * (b - a).toNat) | .error e => E₂ e s') { s₁ with heap := h₅, toks := tk₃ } := by
        refine inner_loop (S := RInt) (R := R) (hb := s₁.heap) (vs0 := vs) (fun _ => true) (g xv) (turn_two1 _ _ _ _ _ _ _ _ _ _) (hI2 _) hB2 (by simpa using Ne.symm hCI2) (by simpa using hDC) hDI2 (by simpa using hDI2) (by intro z hz q; simp at hz q; exact hCI2 (hz ▸ q))
          (none_down (up₂'.trans u₃') hI2n) hbD (by simpa using hbC) hst2 ((up₂'.trans u25)) ⟨m₂, hm₅, hmx₂⟩ ac₅ ?_ ?_ ?_ ?_
        · intro j yv u hyv hSu s' E' up ⟨m, hm, hmx, hmy⟩
          exact wpAny_tests_nil ⟨rfl, Grows.refl _⟩
        · intro j yv u hyv hSu _ s' E' up ⟨m, hm, hmx, hmy⟩
          refine helt C xv hxm yv (List.mem_of_getElem? hyv) s' E' (cx_cap (extra := [⟨y, Int, RInt, yv⟩, ⟨x, β, S, xv⟩]) c₁ ok.cap ok.kind up ⟨m, hm⟩ fun e he => ?_)
          simp at he
          rcases he with rfl | rfl
          · exact ⟨u, .inl ⟨lookup_relabel_local hy, m, hm, hmy⟩, hSu⟩
          · exact ⟨v, .inl ⟨lookup_relabel_local hx, m, hm, hmx⟩, S.up up hSv⟩
        · rw [rangeL_length, hlen]
          have e1 : i * (b - a).toNat + (b - a).toNat = (i + 1) * (b - a).toNat := by rw [Nat.succ_mul]
          rw [e1]
          exact Nat.le_trans (Nat.mul_le_mul_right _ hlt) hsz
        · intro h' tk' us up ⟨m, hm, _⟩ hl hp' hch'
          have hch5 : Chg [D, I2, C] h₅ h' := hch'
          have chD : Chg [D, I, C] h₂' h' := fun z o n e => hch5 z o (by
            simp only [List.mem_cons, List.not_mem_nil, or_false, not_or] at n ⊢
            refine ⟨n.1, ?_, n.2.2⟩
            exact neI2 z (by rw [u₃' _ _ e]; rfl)) (u25 z o e)
          refine ⟨xs.length + 1 - (i + 1), by omega, h', tk', i + 1, vs ++ us, rfl, hlt, rfl, ?_, up, ⟨m, hm, trivial⟩, hl, ?_, (hch.trans ch12).trans chD, ?_⟩
          · refine W.frame _ _ _ st₂ fun z hz o e => hch5 z o ?_ (u25 z o e)
            simp only [List.mem_cons, List.not_mem_nil, or_false, not_or]
            exact ⟨fun q => hDfp (q ▸ hz), neI2 z (by rw [u₃' _ _ e]; rfl), fun q => hCfp (q ▸ hz)⟩
          · rw [take_succ_flat hxv]
            refine paired_append (paired_mono (fun y z (f : Frsh R h₄ h y z) => (f.chg ch12 aliveB).chg chD aliveB) hpd) ?_
            rw [List.filter_eq_self.mpr (fun _ _ => rfl)] at hp'
            exact paired_mono (fun y z (f : Frsh R h₅ h' y z) => f.down fun b hb => u₅.dom _ (dom24 b hb)) hp'
          · have e2 := paired_length hp'
            rw [List.filter_eq_self.mpr (fun _ _ => rfl), List.length_map, rangeL_length] at e2
            rw [List.length_append, hlen, e2, Nat.succ_mul]
      refine codeAny_start2 rfl hlp2 fun E₃ => ?_
      obtain ⟨P2, W2, _⟩ := hI2 h₅
      exact W2.self 0 _ _ _ hst2 hlp2
    · have hin : i = xs.length := by omega
      subst hin
      refine W.done _ _ _ hst₁ fun h₁ tk₁ hk₁ => ?_
      have c₁' : Chg [I] h h₁ := fun z o n e => hk₁ z o n e
      obtain ⟨m, hm, _⟩ := hL₁
      have hm' : h₁.Ns C m := hm.at' fun o e => c₁' C o (by simpa using Ne.symm hIC) e
      refine ⟨m, hm', fun h'' hs'' => ⟨?_, g₁.trans ⟨h'', tk₁, rfl, ?_⟩⟩⟩
      · rw [List.take_length] at hpd
        refine frsh_list (h₄ := h₄) (none_down g₁.up hbD) (g₁.up.trans up₄) ((hacc₁.at fun o e => c₁' D o (by simpa using Ne.symm hID) e).extBut hs''.extBut hDC) ?_
        refine paired_mono (fun v x (f : Frsh R h₄ h v x) => ?_) hpd
        exact (f.chg c₁' (fun z hz => by simp at hz; subst hz; exact lI)).chg (Chg.of_same hs'' (List.mem_singleton.mpr rfl)) fun z hz => by simp at hz; subst hz; exact lC
      · exact Chg.up (Chg.up hup₁ c₁' fun z hz => by simp at hz; subst hz; exact hIn) (Chg.of_same hs'' (List.mem_singleton.mpr rfl)) fun z hz => by simp at hz; subst hz; exact hbC
  refine codeAny_compStart_list hlp ?_
  exact W.self 0 _ _ _ hst' hlp
end
end Mine

namespace Mine

/-- codes under which a bytearray may be held -/
def holders : List String := ["bytearray.__contains__", "bytearray.__mod__", "bytearray.__rmod__", "_struct.pack_into.held", "bytearray.find.held"] ++ Builtin.Bytes.decodersThatHold
def okCode : Code → Bool
  | .builtin id _ => !holders.contains id
  | _ => true
def NoHold (Γ : Ctx) : Prop := okCode Γ.code = true ∧ ∀ x ∈ Γ.below, okCode x.1 = true
def NoHoldB (Γ : Ctx) : Prop := ∀ x ∈ Γ.below, okCode x.1 = true
theorem NoHold.enter {Γ : Ctx} (n : NoHold Γ) (c : Code) (h : Option Value) (p : Pos) : NoHoldB (Γ.enter c h p) := fun x hx => by
  rcases List.mem_cons.mp hx with rfl | hx
  · exact n.1
  · exact n.2 x hx

/-- wpAny, where nobody on the stack holds a bytearray -/
def wpG {α : Type} (M : Model) (A : Around) (t : Sem α) (Q : α → Shared → Prop) (E : Value → Shared → Prop) (s : Shared) : Prop :=
  ∀ Γ p, Γ.In A → NoHold Γ → Sem.wp M Γ t (fun a _ s' => Q a s') (fun e _ s' => E e s') p s
def codeG (M : Model) (A : Around) (c : Code) (R : Result → Shared → Prop) (s : Shared) : Prop :=
  ∀ Γ p, Γ.code = c → Γ.Below A → NoHoldB Γ → wpCode M Γ R p s

section
variable {α β : Type} {M : Model} {A : Around} {E : Value → Shared → Prop} {s : Shared} {env : Env}

theorem wpG.any {t : Sem α} {Q : α → Shared → Prop} (h : wpAny M A t Q E s) : wpG M A t Q E s := fun Γ p i _ => h Γ p i
theorem codeG.any {c : Code} {R : Result → Shared → Prop} (h : codeAny M A c R s) : codeG M A c R s := fun Γ p e b _ => h Γ p e b
theorem wpG_mono {t : Sem α} {Q Q' : α → Shared → Prop} {E' : Value → Shared → Prop} (h : wpG M A t Q E s) (hQ : ∀ a s, Q a s → Q' a s) (hE : ∀ e s, E e s → E' e s) : wpG M A t Q' E' s :=
  fun Γ p i n => Sem.wp_mono M Γ t (fun a _ s => hQ a s) (fun e _ s => hE e s) p s (h Γ p i n)
theorem codeG_mono {c : Code} {R R' : Result → Shared → Prop} (h : codeG M A c R s) (hR : ∀ r s, R r s → R' r s) : codeG M A c R' s :=
  fun Γ p e b n => wpCode_mono hR (h Γ p e b n)
theorem wpG_pure {a : α} {Q : α → Shared → Prop} (h : Q a s) : wpG M A (pure a) Q E s := fun _ _ _ _ => h
theorem wpG_bind {m : Sem α} {f : α → Sem β} {Q : β → Shared → Prop} (h : wpG M A m (fun a s' => wpG M A (f a) Q E s') E s) : wpG M A (m >>= f) Q E s := fun Γ p i n => by
  rw [Sem.wp_bind']
  exact Sem.wp_mono M Γ m (fun a p' s' h' => h' Γ p' i n) (fun _ _ _ h' => h') p s (h Γ p i n)
theorem wpG_onRaise {m : Sem α} {k : Value → Sem Unit} {Q : α → Shared → Prop} (h : wpG M A m Q (fun e s' => wpG M A (k e) (fun _ s'' => E e s'') E s') s) : wpG M A (m.onRaise k) Q E s := fun Γ p i n => by
  rw [Sem.wp_onRaise]
  exact Sem.wp_mono M Γ m (fun _ _ _ h' => h') (fun e p' s' h' => h' Γ p' i n) p s (h Γ p i n)
theorem wpG_attempt {m : Sem α} {Q : Except Value α → Shared → Prop} (h : wpG M A m (fun a => Q (.ok a)) (fun e => Q (.error e)) s) : wpG M A m.attempt Q E s := fun Γ p i n => by
  rw [Sem.wp_attempt]; exact h Γ p i n
theorem wpG_holding {vs : List Value} {m : Sem α} {Q : α → Shared → Prop} (h : wpG M A m Q E s) : wpG M A (holding vs m) Q E s := fun Γ p i n => by rw [Sem.wp_holding]; exact h Γ p i n
theorem wpG_keep {vs : List Value} {m : Sem α} {Q : α → Shared → Prop} (h : wpG M A m Q E s) : wpG M A (m.keep vs) Q E s := fun Γ p i n => by rw [Sem.wp_keep]; exact h Γ p i n
theorem wpG_standAt {pos : Pos} {Q : Unit → Shared → Prop} (h : Q () s) : wpG M A (standAt pos) Q E s := fun _ _ _ _ => h
theorem wpG_of_eq {t : Sem α} {a : α} {Q : α → Shared → Prop} (h : t = pure a) (hQ : Q a s) : wpG M A t Q E s := h ▸ wpG_pure hQ

theorem wpG_run {c : Code} {h : Option Value} {Q : Flow → Shared → Prop} (hc : codeG M (A.mark h) c (fun r s' => match r with | .ok f => Q f s' | .error e => E e s') s) (hnb : h ≠ some byPass := by intro x; cases x) :
    wpG M A (run c h) Q E s := fun Γ p i n => by rw [Sem.wp_run]; exact hc _ p rfl (i.enter c h p hnb) (n.enter c h p)
theorem wpG_runValue {c : Code} {Q : Value → Shared → Prop} (hc : codeG M A c (fun r s' => match r with | .ok (.ret v) => Q v s' | .ok _ => False | .error e => E e s') s) :
    wpG M A (runValue c) Q E s := fun Γ p i n => by rw [Sem.wp_runValue]; exact hc _ p rfl (i.enter c none p (by intro x; cases x)) (n.enter c none p)
theorem wpG_call {f : Value} {pos : List Value} {kw : List (Str × Value)} {Q : Value → Shared → Prop}
    (hc : codeG M A (.call f ⟨pos, kw⟩) (fun r s' => match r with | .ok (.ret v) => Q v s' | .ok _ => False | .error e => E e s') s) : wpG M A (call f pos kw) Q E s := wpG_runValue hc

theorem codeG_of_tree {c : Code} {R : Result → Shared → Prop} (hok : okCode c = true)
    (h : wpG M (A.under c) (M.den c) (fun fin s' => match fin with | .done f => R (.ok f) s' | .again c' => c'.quiet = true ∧ codeG M A c' R s') (fun e s' => R (.error e) s') s) : codeG M A c R s := fun Γ p hc hΓ n => by
  rw [wpCode_iff_wp, hc]
  refine Sem.wp_mono M Γ _ (fun fin p' s' h' => ?_) (fun _ _ _ h' => h') p s (h Γ p (hc ▸ hΓ.in) ⟨by rw [hc]; exact hok, n⟩)
  cases fin with
  | done f => exact h'
  | again c' => exact ⟨h'.1, h'.2 (Γ.goto c') p' rfl (hΓ.goto c') n⟩

theorem codeG_loop {c : Code} {R : Result → Shared → Prop} (hq : c.quiet = true) (hok : okCode c = true) (I : Nat → Shared → Prop)
    (turn : ∀ n s, I n s → wpG M (A.under c) (M.den c)
      (fun fin s' => match fin with | .done f => R (.ok f) s' | .again c' => (c' = c ∧ ∃ m, m < n ∧ I m s') ∨ (c'.quiet = true ∧ codeG M A c' R s')) (fun e s' => R (.error e) s') s)
    (n : Nat) (h : I n s) : codeG M A c R s := by
  induction n using Nat.strongRecOn generalizing s with
  | ind n ih =>
    refine codeG_of_tree hok (wpG_mono (turn n s h) (fun fin s' hf => ?_) fun _ _ h' => h')
    cases fin with
    | done f => exact hf
    | again c' =>
      rcases hf with ⟨rfl, m, hm, hI⟩ | hf
      · exact ⟨hq, ih m hm hI⟩
      · exact hf

theorem wpG_execs_nil {Q : Flow → Shared → Prop} (h : Q .next s) : wpG M A (execs [] env) Q E s := fun _ _ _ _ => h
theorem wpG_execs_cons {st rest} {Q : Flow → Shared → Prop} (h : wpG M A (exec st env) (fun f s' => match f with | .next => wpG M A (execs rest env) Q E s' | f => Q f s') E s) :
    wpG M A (execs (st :: rest) env) Q E s := by
  rw [execs_cons]
  refine wpG_bind (wpG_mono h (fun f s' h' => ?_) fun _ _ h' => h')
  cases f with
  | next => exact h'
  | brk => exact wpG_pure h'
  | cont => exact wpG_pure h'
  | ret v => exact wpG_pure h'

theorem wpG_Assign_Name {x pos' value pos} {Q : Flow → Shared → Prop} (h : wpG M A (eval value env) (fun v s₁ => wpAny M A (storeName env x v) (fun _ => Q .next) E s₁) E s)
    (hs : swapsWith value (some (.Name x pos')) pos.line env = pure false) : wpG M A (exec (.Assign [.Name x pos'] value pos) env) Q E s := by
  rw [exec_Assign_Name env x pos' value pos hs]
  refine wpG_bind (wpG_standAt (wpG_bind (wpG_mono h (fun v s₁ h₁ => ?_) fun _ _ q => q)))
  exact wpG_bind (wpG_standAt (wpG_bind (wpG.any (wpAny_mono (wpAny_bindName h₁) (fun _ _ q => wpG_pure q) fun _ _ q => q))))

theorem wpG_runOwn {c : Code} {h : Option Value} {Q : Flow → Shared → Prop} (hc : codeG M (A.mark h) c (fun r s' => match r with | .ok f => Q f s' | .error _ => False) s) (hnb : h ≠ some byPass := by intro x; cases x) : wpG M A (runOwn c env h) Q E s := by
  unfold runOwn
  refine wpG_onRaise (wpG_run (codeG_mono hc fun r s' hr => ?_) hnb)
  cases r with
  | ok f => exact hr
  | error e => exact hr.elim

theorem wpG_For {target iter body orelse pos} {Q : Flow → Shared → Prop}
    (h : wpAny M A (eval iter env) (fun x s₁ => wpAny M A (pyIter x) (fun it s₂ => codeG M A (.forLoop target it body orelse env) (fun r s' => match r with | .ok f => Q f s' | .error _ => False) s₂) E s₁) E s)
    (hs : ∀ x, foldedSetIterable iter env x = pure x) : wpG M A (exec (.For target iter body orelse pos) env) Q E s := by
  rw [exec_For]
  refine wpG_bind (wpG_standAt (wpG_bind (wpG.any (wpAny_mono h (fun x s₁ h₁ => ?_) fun _ _ q => q))))
  refine wpG_bind (wpG_of_eq (hs x) (wpG_bind (wpG_standAt (wpG_bind (wpG_holding (wpG.any (wpAny_mono h₁ (fun it s₂ h₂ => ?_) fun _ _ q => q)))))))
  exact wpG_runOwn h₂
end

section
variable {prog : Program} {w : World} {A : Around} {s : Shared} {R : Result → Shared → Prop}

theorem codeG_func {body : List Stmt} {env : Env} (h : wpG (model prog w) (A.deeper env) (execs body env) (fun f s' => R (.ok (.ret (match f with | .ret v => v | _ => .none))) s') (fun _ _ => False) s) :
    codeG (model prog w) A (.func body env) R s := by
  refine codeG_of_tree rfl ?_
  show wpG _ (A.deeper env) (do point; match ← (execs body env).onRaise (leaving env) with | .ret v => ret v | _ => ret .none) _ _ s
  refine wpG_bind (wpG.any (wpAny_point (wpG_bind (wpG_onRaise (wpG_mono h (fun f s' h' => ?_) fun _ _ h' => h'.elim)))))
  cases f <;> exact wpG_pure h'

theorem codeG_call_function {a : Addr} {args : Args} {o : Obj} {fd : FuncData} {body : List Stmt} (hroom : A.depth < recursionLimit)
    (ho : s.heap.get? a = some o) (hd' : o.data = .func fd) (hco : fd.scope.isCoroutine = false) (hgen : fd.scope.isGenerator = false) (hbody : fd.body = .stmts body) (hcd : s.heap.CodeRec fd.code fd.qualname)
    (h : wpAny (model prog w) A.in1 (bindArgs fd args) (fun binds s₁ =>
      wpAny (model prog w) A.in1 (newFunctionEnv fd.scope fd.globals fd.closure binds (fd.qualname ++ ".<locals>.") (some a) fd.code none fd.builtins)
        (fun env s₂ => s₂.heap.NoLimit ∧ codeG (model prog w) A (.func body env) R s₂) (fun e s' => R (.error e) s') s₁) (fun e s' => R (.error e) s') s) :
    codeG (model prog w) A (.call (.ref a) args) R s := by
  refine codeG_of_tree rfl (wpG.any ?_)
  show wpAny _ A.in1 (callAny (.ref a) args) _ _ s
  simp only [callAny]
  refine wpAny_bind (wpAny_load ho ?_)
  obtain ⟨c, oc, vs, tq, hc, hoc, hdc, hq⟩ := hcd
  simp only [hd', callFunction, hco, hgen, hbody, hc]
  rw [hc] at h
  refine wpAny_bind (m := field (.ref c) 1) (wpAny_field hoc hdc hq (wpAny_bind (wpAny_pure ?_)))
  exact wpAny_bind (wpAny_mono h (fun binds s₁ h₁ => wpAny_bind (wpAny_mono h₁ (fun env s₂ h₂ => wpAny_bind (wpAny_enterFrame h₂.1 hroom
    (wpAny_pure (And.intro rfl h₂.2)))) fun _ _ h' => h')) fun _ _ h' => h')

theorem codeG_forLoop {target it body orelse env} (I : Nat → Shared → Prop)
    (turn : ∀ n s, I n s → wpAny (model prog w) A (pyNext it) (fun r s₁ => match r with
      | none => wpG (model prog w) A (execs orelse env) (fun f s₃ => R (.ok f) s₃) (fun _ _ => False) s₁
      | some v => wpAny (model prog w) A (letOwnedTupleGo target it v) (fun _ s₁' => wpAny (model prog w) A (assign target env v) (fun _ s₂ => wpG (model prog w) A (execs body env) (fun f s₃ => match f with
          | .next | .cont => ∃ m, m < n ∧ I m s₃
          | .brk => R (.ok .next) s₃
          | .ret v => R (.ok (.ret v)) s₃) (fun _ _ => False) s₂) (fun _ _ => False) s₁') (fun _ _ => False) s₁) (fun _ _ => False) s)
    (n : Nat) (h : I n s) : codeG (model prog w) A (.forLoop target it body orelse env) R s := by
  refine codeG_loop rfl rfl I (fun n s hI => ?_) n h
  show wpG _ A ((forTurn target it body orelse env).onRaise (fun x => do noteFrame x env; theTreesLotGoes x)) _ _ s
  refine wpG_onRaise ?_
  have weak : ∀ {α : Type} {t : Sem α} {Q : α → Shared → Prop} {E : Value → Shared → Prop} {s : Shared}, wpG (model prog w) A t Q (fun _ _ => False) s → wpG (model prog w) A t Q E s := fun h => wpG_mono h (fun _ _ q => q) fun _ _ q => q.elim
  refine weak ?_
  simp only [forTurn]
  refine wpG_bind (wpG_standAt (wpG_bind (wpG_onRaise (wpG_mono (wpG.any (turn n s hI)) (fun r s₁ h₁ => ?_) fun _ _ h' => h'.elim))))
  cases r with
  | none =>
    refine wpG_pure (.inr ⟨rfl, codeG_of_tree rfl ?_⟩)
    show wpG _ A (do return Fin.done (← (execs orelse env).onRaise (fun x => do noteFrame x env; theTreesLotGoes x))) _ _ _
    exact wpG_bind (wpG_onRaise (wpG_mono h₁ (fun f s' h' => wpG_pure h') fun _ _ h' => h'.elim))
  | some v =>
    refine wpG_bind (wpG.any (wpAny_mono h₁ (fun _ s₁' h₁' => ?_) fun _ _ h' => h'))
    refine wpG_bind (wpG.any (wpAny_mono h₁' (fun _ s₂ h₂ => wpG_bind (wpG_mono h₂ (fun f s₃ h₃ => ?_) fun _ _ h' => h')) fun _ _ h' => h'))
    cases f with
    | next => exact wpG_pure (.inl ⟨rfl, h₃⟩)
    | cont => exact wpG_pure (.inl ⟨rfl, h₃⟩)
    | brk => exact wpG_pure h₃
    | ret v => exact wpG_pure h₃
end
end Mine

namespace Mine

namespace BF
open Builtin
theorem mro : mroOf (.type "bytearray") = pure [.type "bytearray", .type "object"] := by rw [mroOf_type]; kernel_rfl
theorem lookup_new : typeLookup (.type "bytearray") "__new__" = pure (some (.builtin "bytearray.__new__")) := by rw [typeLookup_type, builtinLookup_eq_fast]; kernel_rfl
theorem slot_init : Slot "bytearray" "__init__" "bytearray.__init__" :=
  .of (owner := "bytearray") (n := "__init__") (by rw [typeLookup_type, builtinLookup_eq_fast]; kernel_rfl) (by decide +kernel) (by decide +kernel) (by decide +kernel)
    (by first | exact .inl (by decide +kernel) | exact .inr (by decide +kernel)) (by rw [isSubtype_type]; kernel_rfl)
theorem slot_get : Slot "bytearray" "__getitem__" "bytearray.__getitem__" :=
  .of (owner := "bytearray") (n := "__getitem__") (by rw [typeLookup_type, builtinLookup_eq_fast]; kernel_rfl) (by decide +kernel) (by decide +kernel) (by decide +kernel)
    (by first | exact .inl (by decide +kernel) | exact .inr (by decide +kernel)) (by rw [isSubtype_type]; kernel_rfl)
theorem slot_set : Slot "bytearray" "__setitem__" "bytearray.__setitem__" :=
  .of (owner := "bytearray") (n := "__setitem__") (by rw [typeLookup_type, builtinLookup_eq_fast]; kernel_rfl) (by decide +kernel) (by decide +kernel) (by decide +kernel)
    (by first | exact .inl (by decide +kernel) | exact .inr (by decide +kernel)) (by rw [isSubtype_type]; kernel_rfl)
theorem slot_len : Slot "bytearray" "__len__" "bytearray.__len__" :=
  .of (owner := "bytearray") (n := "__len__") (by rw [typeLookup_type, builtinLookup_eq_fast]; kernel_rfl) (by decide +kernel) (by decide +kernel) (by decide +kernel)
    (by first | exact .inl (by decide +kernel) | exact .inr (by decide +kernel)) (by rw [isSubtype_type]; kernel_rfl)
theorem slot_iter : Slot "bytearray" "__iter__" "bytearray.__iter__" :=
  .of (owner := "bytearray") (n := "__iter__") (by rw [typeLookup_type, builtinLookup_eq_fast]; kernel_rfl) (by decide +kernel) (by decide +kernel) (by decide +kernel)
    (by first | exact .inl (by decide +kernel) | exact .inr (by decide +kernel)) (by rw [isSubtype_type]; kernel_rfl)
theorem sub : isSubtype (.type "bytearray") (.type "bytearray") = pure true := by rw [isSubtype_type]; kernel_rfl
theorem made : Bind.madeBy (.type "bytearray") = pure (some "bytearray.__new__") := madeBy_type mro lookup_new (by decide +kernel)
theorem called : TypeCalled "bytearray" "bytearray.__new__" "bytearray.__init__" := ⟨by decide +kernel, by decide +kernel, ⟨_, _, mro⟩, made, by decide +kernel, sub, slot_init⟩
theorem typeCall (a : Value) : checkTypeCall "bytearray" ⟨[a], []⟩ = pure () := by kernel_rfl
theorem newCall (a : Value) : checkBuiltinCall "bytearray.__new__" ⟨[.type "bytearray", a], []⟩ = pure () := by kernel_rfl
theorem plain_new : plainId "bytearray.__new__" = true := by decide +kernel
theorem entry_new : entryFor table "bytearray.__new__" = some Builtin.«list.__new__» := entryFor_alias (id' := "list.__new__") (by kernel_rfl) (by first | rfl | decide +kernel) (by decide +kernel) (by kernel_rfl)
theorem entry_init : entryFor table "bytearray.__init__" = some Builtin.«bytearray.__init__» := by first | exact entryFor_of_fast (by kernel_rfl) | exact entryFor_of_tree (by kernel_rfl)
theorem entry_get : entryFor table "bytearray.__getitem__" = some Builtin.«bytearray.__getitem__» := by first | exact entryFor_of_fast (by kernel_rfl) | exact entryFor_of_tree (by kernel_rfl)
theorem entry_set : entryFor table "bytearray.__setitem__" = some Builtin.«bytearray.__setitem__» := by first | exact entryFor_of_fast (by kernel_rfl) | exact entryFor_of_tree (by kernel_rfl)
theorem entry_len : entryFor table "bytearray.__len__" = some Builtin.«bytearray.__len__» := by first | exact entryFor_of_fast (by kernel_rfl) | exact entryFor_of_tree (by kernel_rfl)
theorem entry_iter : entryFor table "bytearray.__iter__" = some Builtin.«bytearray.__iter__» := by first | exact entryFor_of_fast (by kernel_rfl) | exact entryFor_of_tree (by kernel_rfl)
theorem args_init (a b : Value) : argsOk "bytearray.__init__" ⟨[a, b], []⟩ := by unfold argsOk; kernel_rfl
theorem args_get (a b : Value) : argsOk "bytearray.__getitem__" ⟨[a, b], []⟩ := by unfold argsOk; kernel_rfl
theorem args_set (a b c : Value) : argsOk "bytearray.__setitem__" ⟨[a, b, c], []⟩ := by unfold argsOk; kernel_rfl
theorem args_len (a : Value) : argsOk "bytearray.__len__" ⟨[a], []⟩ := by unfold argsOk; kernel_rfl
theorem args_iter (a : Value) : argsOk "bytearray.__iter__" ⟨[a], []⟩ := by unfold argsOk; kernel_rfl
theorem lookup_release : typeLookup (.type "bytearray") "__release_buffer__" = pure (some (.builtin "bytearray.__release_buffer__")) := by rw [typeLookup_type, builtinLookup_eq_fast]; kernel_rfl
theorem bindO (v : Value) : Builtin.Bytes.bindOptional "bytearray.__init__" "bytearray" ["source", "encoding", "errors"] [v] [] = pure [some v, none, none] := by kernel_rfl
end BF
end Mine

namespace Mine

theorem holder_false {f : Code × Pos → Bool} (hf : ∀ c p, okCode c = true → f (c, p) = false) {l : List (Code × Pos)} (h : ∀ x ∈ l, okCode x.1 = true) : l.any f = false := by
  rw [List.any_eq_false]
  intro x hx
  obtain ⟨c, p⟩ := x
  rw [hf c p (h _ hx)]
  exact Bool.false_ne_true

theorem exported_G {M : Model} {A : Around} {self : Value} {Q : Bool → Shared → Prop} {E : Value → Shared → Prop} {s : Shared} (h : Q false s) : wpG M A (Builtin.Bytes.exported self) Q E s := fun Γ p i n => by
  have key : ∀ (f : Code × Pos → Bool), (∀ c p, okCode c = true → f (c, p) = false) → Sem.wp M Γ (do return (← stack).any f) (fun a _ s' => Q a s') (fun e _ s' => E e s') p s := fun f hf => by
    show Q (((Γ.code, p) :: Γ.below).any f) s
    rw [holder_false hf (fun x hx => by
      rcases List.mem_cons.mp hx with rfl | hx
      · exact n.1
      · exact n.2 x hx)]
    exact h
  unfold Builtin.Bytes.exported
  refine key _ fun c p hc => ?_
  cases c with
  | builtin id args =>
    simp only [okCode, holders, Bool.not_eq_true', List.contains_eq_mem, decide_eq_false_iff_not, List.mem_append, not_or, List.mem_cons] at hc
    split <;> simp_all
  | _ => rfl

theorem wpG_if_false {α : Type} {M : Model} {A : Around} {E : Value → Shared → Prop} {s : Shared} {c : Bool} {a b : Sem α} {Q : α → Shared → Prop} (hc : c = false) (h : wpG M A b Q E s) : wpG M A (if c = true then a else b) Q E s := by
  subst hc
  exact h
theorem wpG_if_true {α : Type} {M : Model} {A : Around} {E : Value → Shared → Prop} {s : Shared} {c : Bool} {a b : Sem α} {Q : α → Shared → Prop} (hc : c = true) (h : wpG M A a Q E s) : wpG M A (if c = true then a else b) Q E s := by
  subst hc
  exact h

section
variable {prog : Program} {w : World} {A : Around} {s : Shared} {R : Result → Shared → Prop}
theorem okB {id : String} {args : Args} (h : holders.contains id = false) : okCode (.builtin id args) = true := by show (!holders.contains id) = true; rw [h]; rfl
theorem codeG_builtin {id : String} {args : Args} {b : Builtin} (hok : holders.contains id = false) (hb : entryFor table id = some b)
    (h : wpG (model prog w) (A.under (.builtin id args)) (b args) (fun fin s' => match fin with | .done f => R (.ok f) s' | .again c' => c'.quiet = true ∧ codeG (model prog w) A c' R s') (fun e s' => R (.error e) s') s) :
    codeG (model prog w) A (.builtin id args) R s := by
  refine codeG_of_tree (okB hok) ?_
  show wpG _ _ (match entryFor table id with | some b => b args | none => unsupported ((withoutEnding? id "#data").getD id)) _ _ s
  rw [hb]; exact h
theorem codeG_call_builtin {id : String} {args : Args} {b : Builtin} (hq : plainId id = true) (hok : holders.contains id = false) (hb : entryFor table id = some b)
    (h : wpAny (model prog w) A.in1 (checkBuiltinCall id args) (fun _ s₁ => wpG (model prog w) A.in1 (b args)
      (fun fin s' => match fin with | .done f => R (.ok f) s' | .again c' => c'.quiet = true ∧ codeG (model prog w) A c' R s') (fun e s' => R (.error e) s') s₁) (fun e s' => R (.error e) s') s) :
    codeG (model prog w) A (.call (.builtin id) args) R s := by
  refine codeG_of_tree rfl ?_
  show wpG _ A.in1 (do checkBuiltinCall id args; again (.builtin id args)) _ _ s
  refine wpG_bind (wpG.any (wpAny_mono h (fun _ s₁ h₁ => wpG_pure (And.intro (plainId_quiet hq args) (codeG_builtin hok hb ?_))) fun _ _ h' => h'))
  rw [Around.under_plainId hq args]
  exact h₁
end

theorem BA.typeIs {s : Shared} {a : Addr} {b : Array UInt8} (h : BA s.heap a b) : s.TypeIs (.ref a) "bytearray" := let ⟨_, e⟩ := h; ⟨_, e, rfl⟩

theorem ints_good : ∀ {vs : List Value} {ns : List Int}, IntsAre vs ns → (∀ n ∈ ns, 0 ≤ n ∧ n < 256) → ∀ p : Value → Bool, (∀ i t, p (.int i t) = (decide (0 ≤ i) && decide (i < 256))) → vs.takeWhile p = vs
  | _, _, .nil, _, _, _ => rfl
  | _, _, .cons n t h, hr, p, hp => by
    have h1 := hr n List.mem_cons_self
    rw [List.takeWhile_cons, hp, if_pos (by simp [h1.1, h1.2]), ints_good h (fun m hm => hr m (List.mem_cons_of_mem _ hm)) p hp]
theorem ints_bytes : ∀ {vs : List Value} {ns : List Int}, IntsAre vs ns → ∀ f : Value → Option UInt8, (∀ i t, f (.int i t) = some i.toNat.toUInt8) → vs.filterMap f = ns.map fun n => n.toNat.toUInt8
  | _, _, .nil, _, _ => rfl
  | _, _, .cons n t h, f, hf => by rw [List.filterMap_cons, hf, ints_bytes h f hf]; rfl

section
variable {prog : Program} {w : World} {A : Around} {E : Value → Shared → Prop} {s : Shared}

theorem ownRelease_ba {a : Addr} {b : Array UInt8} {Q : Bool → Shared → Prop} (hb : BA s.heap a b) (h : Q false s) : wpAny (model prog w) A (Builtin.Bytes.ownRelease (.ref a)) Q E s := by
  unfold Builtin.Bytes.ownRelease Builtin.Bytes.slotIsOwn
  refine wpAny_bind (wpAny_bind (wpAny_specialOf hb.typeIs BF.lookup_release ?_))
  have e1 : ("bytearray.__release_buffer__".endsWith ("." ++ "__release_buffer__")) = true := by decide +kernel
  have e2 : "bytearray.__release_buffer__".dropRight ("__release_buffer__".length + 1) = "bytearray" := by decide +kernel
  simp only [e1, e2, Bool.not_true, Bool.false_eq_true, if_false]
  exact wpAny_isInstance hb.typeIs BF.sub (wpAny_pure h)

theorem write_ba {a : Addr} {b : Array UInt8} {f : Array UInt8 → Array UInt8} {Q : Unit → Shared → Prop} (hb : BA s.heap a b) (hz : (f b).size ≤ sizeLine) (h : ∀ h', BA h' a (f b) → Heap.SameBut a s.heap h' → Q () { s with heap := h' }) :
    wpAny (model prog w) A (Builtin.Bytes.write (.ref a) f) Q E s := by
  obtain ⟨x, ho⟩ := hb
  show wpAny _ _ (updateBytearray a f) _ _ _
  unfold updateBytearray
  refine wpAny_bind (wpAny_load ho ?_)
  show wpAny _ _ (update a (Obj.mapBytearray f) >>= fun _ => lookBehind a) _ _ _
  refine wpAny_bind (wpAny_update ho ?_)
  have ho2 : (s.heap.update a (Obj.mapBytearray f)).get? a = some { cls := .type "bytearray", data := .bytearray (f b) x } := Heap.get?_update_self (Obj.mapBytearray f) ho rfl
  refine wpAny_lookBehind ho2 ?_ (h _ ⟨x, ho2⟩ (Heap.SameBut.update ..))
  show (if (f b).size > sizeLine then some "bytearray:memory" else none) = none
  rw [if_neg (Nat.not_lt.mpr hz)]

theorem init_ba {a l : Addr} {b : Array UInt8} {vs : List Value} {ns : List Int} {Q : PySem.Fin → Shared → Prop} (hb : BA s.heap a b) (h0 : s.heap.get? a = some { cls := .type "bytearray", data := .bytearray b }) (hl : s.heap.IsList l vs.toArray) (hla : l ≠ a) (hi : IntsAre vs ns) (hr : ∀ n ∈ ns, 0 ≤ n ∧ n < 256) (hz : ns.length ≤ sizeLine)
    (h : ∀ h', BA h' a (byteArr ns) → Heap.SameBut a s.heap h' → Q (.done (.ret .none)) { s with heap := h' }) : wpG (model prog w) A (Builtin.«bytearray.__init__» ⟨[.ref a, .ref l], []⟩) Q E s := by
  unfold Builtin.«bytearray.__init__»
  refine wpG_bind (wpG.any (ownRelease_ba hb ?_))
  refine wpG_if_false rfl ?_
  refine wpG_bind (wpG_of_eq (BF.bindO _) ?_)
  refine wpG_bind (wpG_of_eq (a := ()) rfl ?_)
  refine wpG_bind (wpG_of_eq (a := ()) rfl ?_)
  refine wpG_bind ?_
  show wpG _ _ (Builtin.Bytes.exported (.ref a) >>= _) _ _ _
  refine wpG_bind (exported_G ?_)
  show wpG _ _ (Builtin.Bytes.exportsOf (.ref a) >>= _) _ _ _
  refine wpG_bind (wpG.any ?_)
  unfold Builtin.Bytes.exportsOf
  refine wpAny_bind (wpAny_load h0 (wpAny_pure (wpG_pure ?_)))
  refine wpG_if_false rfl ?_
  refine wpG_bind (wpG.any (write_ba hb (by simp [sizeLine]) fun h₁ hb₁ hs₁ => ?_))
  have hl₁ : h₁.IsList l vs.toArray := hl.extBut hs₁.extBut hla
  obtain ⟨ol, hol, hoc, nl, hod⟩ := id hl₁
  have hT : Shared.TypeIs { s with heap := h₁ } (.ref l) "list" := Heap.IsList.typeIs (s := { s with heap := h₁ }) hl₁
  show wpG _ _ (asStr? (.ref l) >>= _) _ _ _
  refine wpG_bind (wpG.any ?_)
  show wpAny _ _ (load l >>= _) _ _ _
  refine wpAny_bind (wpAny_load hol ?_)
  rw [hod]
  refine wpAny_pure ?_
  refine wpG_if_false rfl ?_
  refine wpG_bind (wpG_of_eq (a := ()) rfl ?_)
  refine wpG_bind (wpG.any (wpAny_specialOf hT F.bm_no_index ?_))
  refine wpG_if_false rfl ?_
  refine wpG_bind (wpG.any ?_)
  unfold Builtin.Bytes.buffer?
  refine wpAny_bind (wpAny_specialOf hT F.bm_no_buffer ?_)
  refine wpAny_bind (wpAny_specialOf hT F.bm_no_buffer ?_)
  refine wpAny_pure ?_
  refine wpG_bind (wpG.any (wpAny_typeOf hT ?_))
  refine wpG_if_true (by decide) ?_
  refine wpG_bind (wpG.any (wpAny_seqItems hol hod ?_))
  have k1 := ints_good hi hr
  have k2 := ints_bytes hi
  dsimp only
  rw [k1 _ (fun _ _ => rfl), k2 _ (fun _ _ => rfl)]
  have e3 : vs.toArray[vs.length]? = none := by simp
  rw [e3]
  refine wpG_bind (wpG.any (wpAny_rule ?_))
  refine wpG_bind (wpG.any (write_ba hb₁ (by show (byteArr ns).size ≤ _; rw [byteArr_size]; exact hz) fun h₂ hb₂ hs₂ => ?_))
  exact wpG_pure (h h₂ hb₂ (hs₁.trans hs₂))

set_option maxRecDepth 1000000 in
set_option maxHeartbeats 4000000 in
theorem owner_new : ("bytearray.__new__".splitOn ".__new__").headD "" = "bytearray" := by simp +decide [String.splitOn, String.splitOnAux]

theorem code_new (v : Value) {Q₁ : Value → Shared → Prop}
    (h : Q₁ (.ref s.heap.objs.size) { s with heap := s.heap.push { cls := .type "bytearray", data := .bytearray #[] } }) :
    codeAny (model prog w) A (.call (.builtin "bytearray.__new__") ⟨[.type "bytearray", v], []⟩) (wants Q₁ E) s := by
  refine codeAny_of_tree ?_
  show wpAny _ A.in1 (do checkBuiltinCall "bytearray.__new__" ⟨[.type "bytearray", v], []⟩; again (.builtin "bytearray.__new__" ⟨[.type "bytearray", v], []⟩)) _ _ s
  refine wpAny_bind (wpAny_of_eq (BF.newCall v) (wpAny_pure ⟨plainId_quiet BF.plain_new _, codeAny_builtin_stack BF.entry_new rfl fun p st => ?_⟩))
  rw [Around.under_plainId BF.plain_new _]
  have hsub := BF.sub
  have hown := owner_new
  obtain ⟨hp, g, d, tk, os⟩ := s
  simp only [hown]
  wp_walk
  exact h

theorem call_ba {l : Addr} {vs : List Value} {ns : List Int} {Q : Value → Shared → Prop} (hl : s.heap.IsList l vs.toArray) (hi : IntsAre vs ns) (hr : ∀ n ∈ ns, 0 ≤ n ∧ n < 256) (hz : ns.length ≤ sizeLine)
    (h : ∀ h', BA h' s.heap.objs.size (byteArr ns) → Up s.heap h' → Q (.ref s.heap.objs.size) { s with heap := h' }) : wpG (model prog w) A (call (.type "bytearray") [.ref l]) Q E s := by
  refine wpG_call (codeG_of_tree rfl ?_)
  show wpG _ _ (callAny (.type "bytearray") ⟨[.ref l], []⟩) _ _ _
  refine wpG_pure ⟨Code.quiet_builtin _ (by decide +kernel), codeG_builtin (by decide +kernel) F.entry_type_call ?_⟩
  rw [Around.under_plain (weight_type_call_type "bytearray" [.ref l] []) rfl]
  have h1 := BF.called.notType
  have h2 := BF.called.canCreate
  unfold Builtin.«type.__call__»
  simp only [h1, h2, BF.typeCall, BF.mro, BF.made, pure_bind, Bool.false_eq_true, if_false, List.isEmpty_cons]
  have upn : Up s.heap (s.heap.push { cls := .type "bytearray", data := .bytearray #[] }) := Up.push _ _
  have hobj : (s.heap.push { cls := .type "bytearray", data := .bytearray #[] }).get? s.heap.objs.size = some { cls := .type "bytearray", data := .bytearray #[] } := Heap.get?_push_size _ rfl
  have hba : BA (s.heap.push { cls := .type "bytearray", data := .bytearray #[] }) s.heap.objs.size #[] := ⟨_, hobj⟩
  have hlt : l ≠ s.heap.objs.size := by obtain ⟨o, ho, _⟩ := hl; exact Nat.ne_of_lt (Heap.lt_size ho)
  refine wpG_bind (wpG_holding (wpG.any (wpAny_runValue (code_new (.ref l) ?_))))
  refine wpG_bind (wpG.any (wpAny_isInstance (T := "bytearray") (b := true) (BA.typeIs (s := { s with heap := _ }) hba) BF.sub ?_))
  refine wpG_if_false rfl ?_
  refine wpG_bind (wpG_holding ?_)
  unfold callSpecial?
  refine wpG_bind (wpG.any (wpAny_specialOf (BA.typeIs (s := { s with heap := _ }) hba) BF.slot_init.lookup ?_))
  simp only [BF.slot_init.bind]
  refine wpG_holding (wpG_bind (wpG_pure (wpG_bind (wpG_call (codeG_call_builtin BF.slot_init.plain (by decide +kernel) BF.entry_init ?_)))))
  refine BF.slot_init.check _ _ _ _ _ _ _ _ (BA.typeIs (s := { s with heap := _ }) hba) (BF.args_init _ _) ?_
  refine init_ba hba hobj (hl.push _) hlt hi hr hz fun h' hb' hs' => ?_
  show wpG _ _ (pure (some Value.none)) _ _ _
  refine wpG_pure ?_
  dsimp only
  refine wpG_if_false (by decide) ?_
  refine wpG_pure ?_
  exact h h' hb' (Chg.up upn (Chg.of_same hs' (List.mem_singleton.mpr rfl)) fun b hb => by simp at hb; subst hb; exact get?_size _)
end
end Mine

namespace Mine

namespace BF
open Builtin
theorem slot_next : Slot "bytearray_iterator" "__next__" "bytearray_iterator.__next__" :=
  .of (owner := "bytearray_iterator") (n := "__next__") (by rw [typeLookup_type, builtinLookup_eq_fast]; kernel_rfl) (by decide +kernel) (by decide +kernel) (by decide +kernel)
    (by first | exact .inl (by decide +kernel) | exact .inr (by decide +kernel)) (by rw [isSubtype_type]; kernel_rfl)
theorem slot_self : Slot "bytearray_iterator" "__iter__" "bytearray_iterator.__iter__" :=
  .of (owner := "bytearray_iterator") (n := "__iter__") (by rw [typeLookup_type, builtinLookup_eq_fast]; kernel_rfl) (by decide +kernel) (by decide +kernel) (by decide +kernel)
    (by first | exact .inl (by decide +kernel) | exact .inr (by decide +kernel)) (by rw [isSubtype_type]; kernel_rfl)
theorem entry_next : entryFor table "bytearray_iterator.__next__" = some Builtin.«bytearray_iterator.__next__» := by first | exact entryFor_of_fast (by kernel_rfl) | exact entryFor_of_tree (by kernel_rfl)
theorem entry_self : entryFor table "bytearray_iterator.__iter__" = some Builtin.«dict_keyiterator.__iter__» := entryFor_alias (id' := "dict_keyiterator.__iter__") (by kernel_rfl) (by first | rfl | decide +kernel) (by decide +kernel) (by kernel_rfl)
theorem args_next (a : Value) : argsOk "bytearray_iterator.__next__" ⟨[a], []⟩ := by unfold argsOk; kernel_rfl
theorem args_self (a : Value) : argsOk "bytearray_iterator.__iter__" ⟨[a], []⟩ := by unfold argsOk; kernel_rfl
end BF

section
variable {prog : Program} {w : World} {A : Around} {E : Value → Shared → Prop} {s : Shared}

theorem payload_ba {a : Addr} {b : Array UInt8} {Q : Array UInt8 → Shared → Prop} (hb : BA s.heap a b) (h : Q b s) : wpAny (model prog w) A (Builtin.Bytes.payload (.ref a)) Q E s := by
  obtain ⟨x, ho⟩ := hb
  unfold Builtin.Bytes.payload Builtin.Bytes.payload?
  exact wpAny_bind (wpAny_bind (wpAny_load ho (wpAny_pure (wpAny_pure h))))

theorem subscript_int {k : Int} {t : Tok} {Q : Option Int → Shared → Prop} (hf : Builtin.Bytes.fitsIndex k = true) (h : Q (some k) s) : wpAny (model prog w) A (Builtin.Bytes.subscript? (.int k t)) Q E s := by
  unfold Builtin.Bytes.subscript?
  refine wpAny_bind (wpAny_specialOf (T := "int") (typeIs_int s k t) int_index ?_)
  show wpAny _ A (asIndex (.int k t) >>= _) Q E s
  refine wpAny_bind (wpAny_of_eq (a := k) rfl ?_)
  show wpAny _ A (if (!Builtin.Bytes.fitsIndex k) = true then _ else _) Q E s
  rw [if_neg (by rw [hf]; decide)]
  exact wpAny_pure h

theorem fits_of {k : Int} (h0 : 0 ≤ k) (h : k < 2 ^ 63) : Builtin.Bytes.fitsIndex k = true := by
  unfold Builtin.Bytes.fitsIndex
  simp only [Bool.and_eq_true, decide_eq_true_eq]
  omega

theorem getItem_ba {a : Addr} {b : Array UInt8} {k : Int} {t : Tok} {x : UInt8} {Q : Value → Shared → Prop} (hb : BA s.heap a b) (h0 : 0 ≤ k) (hfit : k < 2 ^ 63) (hx : b[k.toNat]? = some x)
    (h : Q (.int x.toNat s.toks) { s with toks := s.toks + 1 }) : wpAny (model prog w) A (getItem (.ref a) (.int k t)) Q E s := by
  unfold getItem
  try with_reducible refine wpAny_holding ?_
  first | refine wpAny_bind (wpAny_pure ?_) | skip
  refine wpAny_bind (wpAny_sequenceKey hb.typeIs (by decide) ?_)
  refine wpAny_bind (wpAny_callSpecial?_slot (name := Str.ofString "__getitem__") hb.typeIs BF.slot_get
    (wpAny_call_entry BF.slot_get hb.typeIs BF.entry_get ?_ (BF.args_get _ _)))
  show wpAny _ _ (Builtin.Bytes.subscript? (.int k t) >>= _) _ _ s
  refine wpAny_bind (subscript_int (fits_of h0 hfit) ?_)
  show wpAny _ _ (Builtin.Bytes.payload (.ref a) >>= _) _ _ s
  refine wpAny_bind (payload_ba hb ?_)
  have hlt : k.toNat < b.size := by
    rcases Nat.lt_or_ge k.toNat b.size with q | q
    · exact q
    · rw [Array.getElem?_eq_none q] at hx; cases hx
  have e : (seqIndex? k b.size).bind (b[·]?) = some x := by
    rw [seqIndex_of h0 (by omega)]
    exact hx
  simp only [e]
  refine wpAny_bind (wpAny_mkInt (wpAny_pure ?_))
  exact ⟨_, rfl, wpAny_pure h⟩

theorem setItem_ba {a : Addr} {b : Array UInt8} {k v : Int} {t u : Tok} {Q : Unit → Shared → Prop} (hb : BA s.heap a b) (h0 : 0 ≤ k) (hn : k < b.size) (hz : b.size ≤ sizeLine) (hfit : k < 2 ^ 63) (hv : 0 ≤ v ∧ v < 256)
    (h : ∀ h', BA h' a (b.setIfInBounds k.toNat v.toNat.toUInt8) → Heap.SameBut a s.heap h' → Q () { s with heap := h' }) : wpAny (model prog w) A (setItem (.ref a) (.int k t) (.int v u)) Q E s := by
  unfold setItem
  try with_reducible refine wpAny_holding ?_
  first | refine wpAny_bind (wpAny_pure ?_) | skip
  refine wpAny_bind (wpAny_sequenceKey hb.typeIs (by decide) ?_)
  refine wpAny_bind (wpAny_callSpecial?_slot (name := Str.ofString "__setitem__") hb.typeIs BF.slot_set
    (wpAny_call_entry BF.slot_set hb.typeIs BF.entry_set ?_ (BF.args_set _ _ _)))
  show wpAny _ _ (Builtin.Bytes.subscript? (.int k t) >>= _) _ _ s
  refine wpAny_bind (subscript_int (fits_of h0 hfit) ?_)
  show wpAny _ _ (Builtin.Bytes.byteValue (.int v u) >>= _) _ _ s
  refine wpAny_bind ?_
  unfold Builtin.Bytes.byteValue
  refine wpAny_bind (wpAny_of_eq (a := v) rfl ?_)
  rw [if_neg (by simp; omega)]
  refine wpAny_pure ?_
  show wpAny _ _ (Builtin.Bytes.payload (.ref a) >>= _) _ _ s
  refine wpAny_bind (payload_ba hb ?_)
  have e : seqIndex? k b.size = some k.toNat := seqIndex_of h0 (by omega)
  simp only [e]
  refine wpAny_bind (write_ba hb (by simpa using hz) fun h' hb' hs' => ?_)
  exact wpAny_pure ⟨_, rfl, wpAny_pure (h h' hb' hs')⟩

theorem len_ba {a : Addr} {b : Array UInt8} {Q : Value → Shared → Prop} (hb : BA s.heap a b) (hfit : (b.size : Int) < 2 ^ 63) (h : Q (.int b.size (s.toks + 1)) { s with toks := s.toks + 1 + 1 }) :
    wpAny (model prog w) A (call (.builtin "len") [.ref a]) Q E s := by
  refine PyProof.Rows.call_len_slot (n := b.size) hb.typeIs BF.slot_len (fun Q' hq => wpAny_call_entry BF.slot_len hb.typeIs BF.entry_len ?_ (BF.args_len _)) (by omega) (by omega) h
  show wpAny _ _ (Builtin.Bytes.payload (.ref a) >>= _) _ _ s
  refine wpAny_bind (payload_ba hb ?_)
  exact wpAny_bind (wpAny_mkInt (wpAny_pure ⟨_, rfl, hq⟩))

def IsBaIter (h : Heap) (I a : Addr) (i : Nat) : Prop := ∃ o, h.get? I = some o ∧ o.cls = .type "bytearray_iterator" ∧ o.data = .fields #[.ref a, .int i 0]
theorem baIter_typeIs {s : Shared} {I a : Addr} {i : Nat} (y : IsBaIter s.heap I a i) : s.TypeIs (.ref I) "bytearray_iterator" :=
  let ⟨o, ho, hc, _⟩ := y; ⟨o, ho, hc⟩

theorem pyIter_ba {a : Addr} {b : Array UInt8} {Q : Value → Shared → Prop} (hb : BA s.heap a b) (hQ : Q (.ref s.heap.objs.size) { s with heap := s.heap.push { cls := .type "bytearray_iterator", data := .fields #[.ref a, .int 0 0] } }) : wpAny (model prog w) A (pyIter (.ref a)) Q E s := by
  refine wpAny_pyIter_slot hb.typeIs BF.slot_iter (wpAny_call_entry BF.slot_iter hb.typeIs BF.entry_iter ?_ (BF.args_iter _))
  show wpAny _ _ (do ret (← newFields "bytearray_iterator" [.ref a, rawInt 0])) _ _ s
  exact wpAny_bind (wpAny_newObj_type (wpAny_pure ⟨_, rfl, "bytearray_iterator", _, ⟨_, Heap.get?_push_size _ rfl, rfl⟩, BF.slot_next.lookup, hQ⟩))
theorem pyIter_baself {I a : Addr} {i : Nat} {Q : Value → Shared → Prop} (hit : IsBaIter s.heap I a i) (h : Q (.ref I) s) : wpAny (model prog w) A (pyIter (.ref I)) Q E s := by
  refine wpAny_pyIter_slot (baIter_typeIs hit) BF.slot_self (wpAny_call_entry BF.slot_self (baIter_typeIs hit) BF.entry_self ?_ (BF.args_self _))
  show wpAny _ _ (ret (.ref I)) _ _ s
  exact wpAny_pure ⟨_, rfl, "bytearray_iterator", _, baIter_typeIs hit, BF.slot_next.lookup, h⟩

theorem baNext_item {I a : Addr} {b : Array UInt8} {i : Nat} {c : UInt8} {Q : Option Value → Shared → Prop} (hb : BA s.heap a b) (hit : IsBaIter s.heap I a i) (hx : b[i]? = some c)
    (hQ : ∀ h', IsBaIter h' I a (i + 1) → Heap.SameBut I s.heap h' → Q (some (.int (c.toNat : Int) s.toks)) { s with heap := h', toks := s.toks + 1 }) : wpAny (model prog w) A (pyNext (.ref I)) Q E s := by
  obtain ⟨o, ho, hc, hd⟩ := id hit
  obtain ⟨xb, hob⟩ := hb
  unfold pyNext
  refine wpAny_bind (wpAny_attempt (wpAny_callSpecial?_slot (name := PySem.Str.ofString "__next__") (baIter_typeIs hit) BF.slot_next
    (wpAny_call_entry BF.slot_next (baIter_typeIs hit) BF.entry_next ?_ (BF.args_next _))))
  show wpAny _ _ (field (.ref I) 0 >>= _) _ _ s
  refine wpAny_bind (wpAny_field ho hd (x := .ref a) rfl ?_)
  show wpAny _ _ (load a >>= _) _ _ s
  refine wpAny_bind (wpAny_load hob ?_)
  show wpAny _ _ (field (.ref I) 1 >>= _) _ _ s
  refine wpAny_bind (wpAny_field ho hd (x := .int i 0) rfl ?_)
  simp only [Int.toNat_natCast, hx]
  refine wpAny_bind (wpAny_setField ho hd (by simp) (wpAny_bind (wpAny_mkInt (wpAny_pure ⟨_, rfl, wpAny_pure (hQ _ ?_ (Heap.SameBut.update ..))⟩))))
  exact ⟨_, Heap.get?_update_self _ ho (Obj.isFreed_of_fields (Obj.data_mapFields hd _)), (Obj.cls_mapFields ..).trans hc, by
    rw [Obj.data_mapFields hd]; simp [rawInt]⟩

theorem baNext_end {I a : Addr} {b : Array UInt8} {i : Nat} {Q : Option Value → Shared → Prop} (hh : A.handled = none) (hb : BA s.heap a b) (hit : IsBaIter s.heap I a i) (hx : b[i]? = none)
    (hQ : ∀ h', Heap.ExtBut I s.heap h' → Q none { s with heap := h' }) : wpAny (model prog w) A (pyNext (.ref I)) Q E s := by
  obtain ⟨o, ho, hc, hd⟩ := id hit
  obtain ⟨xb, hob⟩ := hb
  unfold pyNext
  refine wpAny_bind (wpAny_attempt (wpAny_callSpecial?_slot (name := PySem.Str.ofString "__next__") (baIter_typeIs hit) BF.slot_next
    (wpAny_call_entry BF.slot_next (baIter_typeIs hit) BF.entry_next ?_ (BF.args_next _))))
  show wpAny _ _ (field (.ref I) 0 >>= _) _ _ s
  refine wpAny_bind (wpAny_field ho hd (x := .ref a) rfl ?_)
  show wpAny _ _ (load a >>= _) _ _ s
  refine wpAny_bind (wpAny_load hob ?_)
  show wpAny _ _ (field (.ref I) 1 >>= _) _ _ s
  refine wpAny_bind (wpAny_field ho hd (x := .int i 0) rfl ?_)
  simp only [Int.toNat_natCast, hx]
  refine wpAny_bind (wpAny_rule (wpAny_bind (wpAny_setField ho hd (by simp) ?_)))
  refine wpAny_bind (wpAny_letGo ?_)
  show wpAny _ _ (newExc (.type "StopIteration") [] >>= _) _ _ _
  refine wpAny_bind ?_
  simp only [newExc, newTuple]
  refine wpAny_bind (wpAny_newObj_type ?_ (by size_fits))
  refine wpAny_bind (m := firstArgMember _ _) (wpAny_of_eq (a := Value.none) (by first | rfl | (simp only [firstArgMember]; rfl)) ?_)
  refine wpAny_newObj_type ?_ (by size_fits)
  simp only [raiseNew]
  refine wpAny_bind (wpAny_handled ?_)
  rw [show A.in1.handled = none from hh]
  refine wpAny_bind (wpAny_pure (wpAny_throw ?_))
  refine wpAny_bind (wpAny_isInstance (T := "StopIteration") (b := true) ⟨_, Heap.get?_push_size _ rfl, rfl⟩ isSubtype_stop ?_)
  exact wpAny_pure (hQ _ (((Heap.SameBut.update ..).extBut.push _).push _))
end

theorem walks_ba {prog : Program} {w : World} {A : Around} (hh : A.handled = none) (I a : Addr) (hne : a ≠ I) (b : Array UInt8) :
    Walks prog w A I [I, a] [I] b.size (fun i v => ∃ c u, b[i]? = some c ∧ v = Value.int (c.toNat : Int) u) (fun i h => IsBaIter h I a i ∧ BA h a b) where
  sub := fun _ hb => by rw [List.mem_singleton.mp hb]; exact List.mem_cons_self
  frame := fun _ _ _ ⟨⟨o, ho, r⟩, x, hx⟩ hk => ⟨⟨o, hk I (by simp) o ho, r⟩, x, hk a (by simp) _ hx⟩
  item := fun i s Q E hi ⟨st, hb⟩ hQ => by
    refine baNext_item hb st (c := b[i]) (by simp [hi]) fun h' hit' hs' => ?_
    exact hQ _ h' (s.toks + 1) ⟨_, _, by simp [hi], rfl⟩ ⟨hit', let ⟨x, hx⟩ := hb; ⟨x, hs'.extBut a _ hne hx⟩⟩ fun b o hb e => hs'.extBut b o (fun h => hb (by simp [h])) e
  done := fun s Q E ⟨st, hb⟩ hQ => baNext_end hh hb st (by simp) fun h' he' => hQ h' s.toks fun b o hb e => he' b o (fun h => hb (by simp [h])) e
  self := fun _ _ _ _ ⟨st, _⟩ hQ => pyIter_baself st hQ

section
variable {prog : Program} {w : World} {A : Around} {E : Value → Shared → Prop} {s : Shared}

theorem hint_ba {a : Addr} {b : Array UInt8} {Q : Bool → Shared → Prop} (hb : BA s.heap a b) (h : Q false s) : wpAny (model prog w) A (Builtin.List.listLengthHint (.ref a)) Q E s := by
  unfold Builtin.List.listLengthHint
  refine wpAny_bind (wpAny_specialOf hb.typeIs BF.slot_len.lookup ?_)
  generalize hid : ("bytearray.__len__" : String) = id0
  wp_delta
  rw [show splitId id0 = some ("bytearray", "__len__") from by subst hid; decide +kernel]
  subst hid
  refine wpAny_bind (wpAny_isInstance (T := "bytearray") (b := true) hb.typeIs BF.sub ?_)
  refine wpAny_ite_split (fun hab => absurd hab (by decide)) (fun _ => ?_)
  refine wpAny_ite_split (fun _ => ?_) (fun hab => absurd (by decide +kernel) hab)
  refine wpAny_bind (wpAny_typeOf hb.typeIs ?_)
  exact wpAny_pure h

theorem extend_ba {R : Result → Shared → Prop} {a : Addr} {b : Array UInt8} (hh : A.handled = none) (hb : BA s.heap a b) (hlen : b.size ≤ 2 ^ 24) (S : Addr) (res : Value) (c₀ : Nat) (hS : s.heap.get? S = some { cls := .type "list", data := .seq #[] c₀ })
    (hR : ∀ h' tk acc' c', (∀ b o, b ≠ S → s.heap.get? b = some o → h'.get? b = some o) → h'.get? S = some { cls := .type "list", dict := none, data := .seq acc' c', slots := #[] } →
      ItemsOf (fun i v => ∃ c u, b[i]? = some c ∧ v = Value.int (c.toNat : Int) u) acc' b.size → R (.ok (.ret res)) { s with heap := h', toks := tk }) :
    wpAny (model prog w) A.in1 (Builtin.List.listExtendWith (.ref S) (.ref a) res)
      (fun fin s' => match fin with | .done f => R (.ok f) s' | .again c' => c'.quiet = true ∧ codeAny (model prog w) A c' R s') (fun e s' => R (.error e) s') s := by
  obtain ⟨xb, hob⟩ := id hb
  have hSr : S ≠ a := fun e => by rw [e, hob] at hS; simp at hS
  have halt : a ≠ s.heap.objs.size := Nat.ne_of_lt (Heap.lt_size hob)
  have hSI : S ≠ s.heap.objs.size := Nat.ne_of_lt (Heap.lt_size hS)
  have hSf : S ∉ [s.heap.objs.size, a] := by simp [hSI, hSr]
  have W := (walks_ba (prog := prog) (w := w) (A := A.in1) hh s.heap.objs.size a halt b)
  have key : ∀ (h : Heap) (c₁ tk : Nat), IsBaIter h s.heap.objs.size a 0 → BA h a b → (∀ b o, b ≠ S → s.heap.get? b = some o → h.get? b = some o) →
      h.get? S = some { cls := .type "list", data := .seq #[] c₁ } → codeAny (model prog w) A (.builtin "list.extend.loop" ⟨[.ref S, .ref s.heap.objs.size, res], []⟩) R { s with heap := h, toks := tk } := by
    intro h c₁ tk hit hba hk hS₁
    refine codeAny_extend_loopS W.toS (by rw [sizeLine_eq]; omega) S hSf res b.size 0 _ #[] c₁ rfl (Nat.zero_le _) ⟨hit, hba⟩ hS₁ (ItemsOf.nil _) fun s' acc' c' hm hS' hacc => ?_
    rw [Moved.eq_with hm]
    refine hR s'.heap s'.toks acc' c' (fun b o hb e => hm.heap b o (fun hmem => ?_) (hk b o hb e)) hS' hacc
    rcases List.mem_cons.mp hmem with e' | hmem
    · exact hb e'
    · exact absurd (Heap.lt_size e) (by rw [List.mem_singleton.mp hmem]; exact Nat.lt_irrefl _)
  unfold Builtin.List.listExtendWith
  refine wpAny_bind (wpAny_typeOf (T := "bytearray") hb.typeIs ?_)
  have h1 : Builtin.List.listSameRef (.ref S) (.ref a) = false := by simp [Builtin.List.listSameRef, hSr]
  have h2 : (Value.type "bytearray" == Value.type "list") = false := by decide
  have h3 : (Value.type "bytearray" == Value.type "tuple") = false := by decide
  simp only [h1, h2, h3, Bool.or_false, Bool.false_eq_true, if_false]
  refine wpAny_bind (pyIter_ba hb ?_)
  have hb₁ : BA (s.heap.push { cls := .type "bytearray_iterator", data := .fields #[.ref a, .int 0 0] }) a b := ⟨_, Heap.get?_push_of_some _ hob⟩
  refine wpAny_bind (wpAny_holding (hint_ba hb₁ ?_))
  have hit₁ : IsBaIter (s.heap.push { cls := .type "bytearray_iterator", data := .fields #[.ref a, .int 0 0] }) s.heap.objs.size a 0 := ⟨_, Heap.get?_push_size _ rfl, rfl, rfl⟩
  have hS₁ := Heap.get?_push_of_some { cls := .type "bytearray_iterator", data := .fields #[.ref a, .int 0 0] } hS
  refine wpAny_ite_split (fun _ => ?_) (fun _ => wpAny_pure ⟨plainId_quiet F.plain_extend_loop _, key _ c₀ _ hit₁ hb₁ (fun b o _ e => Heap.get?_push_of_some _ e) hS₁⟩)
  refine wpAny_bind (wpAny_rule ?_)
  refine wpAny_bind ?_
  show wpAny _ _ (updateSeq S (·.push .none) >>= fun _ => updateSeq S (·.pop)) _ _ _
  refine wpAny_bind (wpAny_updateSeq hS₁ rfl ?_)
  have hS₂ := Heap.get?_update_self (Obj.mapSeq (·.push Value.none)) hS₁ rfl
  refine wpAny_updateSeq (hz := by seq_fits) hS₂ rfl ?_
  have hS₃ := Heap.get?_update_self (Obj.mapSeq (·.pop)) hS₂ rfl
  have oth : ∀ (b : Addr) o, b ≠ S → (s.heap.push { cls := .type "bytearray_iterator", data := .fields #[.ref a, .int 0 0] }).get? b = some o → (((s.heap.push { cls := .type "bytearray_iterator", data := .fields #[.ref a, .int 0 0] }).update S (Obj.mapSeq (·.push Value.none))).update S (Obj.mapSeq (·.pop))).get? b = some o :=
    fun b o hb e => (Heap.get?_update_other _ _ (Ne.symm hb)).trans ((Heap.get?_update_other _ _ (Ne.symm hb)).trans e)
  refine wpAny_pure ⟨plainId_quiet F.plain_extend_loop _, key _ _ _ ?_ ?_ (fun b o hb e => ?_) hS₃⟩
  · obtain ⟨o, ho, r⟩ := hit₁; exact ⟨o, oth _ _ (Ne.symm hSI) ho, r⟩
  · obtain ⟨x, hx⟩ := hb₁; exact ⟨x, oth _ _ (Ne.symm hSr) hx⟩
  · exact oth b o hb (Heap.get?_push_of_some _ e)

theorem init_list_ba {R : Result → Shared → Prop} {a : Addr} {b : Array UInt8} (hh : A.handled = none) (hb : BA s.heap a b) (hlen : b.size ≤ 2 ^ 24) (S : Addr) (hS : s.heap.get? S = some { cls := .type "list", data := .seq #[] })
    (hR : ∀ h' tk acc' c', (∀ b o, b ≠ S → s.heap.get? b = some o → h'.get? b = some o) → h'.get? S = some { cls := .type "list", dict := none, data := .seq acc' c', slots := #[] } →
      ItemsOf (fun i v => ∃ c u, b[i]? = some c ∧ v = Value.int (c.toNat : Int) u) acc' b.size → R (.ok (.ret .none)) { s with heap := h', toks := tk }) :
    wpAny (model prog w) A.in1 (Builtin.«list.__init__» ⟨[.ref S, .ref a], []⟩)
      (fun fin s' => match fin with | .done f => R (.ok f) s' | .again c' => c'.quiet = true ∧ codeAny (model prog w) A c' R s') (fun e s' => R (.error e) s') s := by
  obtain ⟨xb, hob⟩ := id hb
  have hSr : S ≠ a := fun e => by rw [e, hob] at hS; simp at hS
  show wpAny _ _ (do let old ← Builtin.List.listItems (.ref S); Builtin.List.listUpdate (.ref S) (fun _ => #[]); letGo old.toList.reverse; Builtin.List.listExtendWith (.ref S) (.ref a) .none) _ _ s
  refine wpAny_bind ?_
  unfold Builtin.List.listItems
  refine wpAny_bind (wpAny_seqItems hS rfl (wpAny_pure ?_))
  show wpAny _ _ (updateSeq S (fun _ => #[]) >>= fun _ => letGo (#[] : Array Value).toList.reverse >>= fun _ => Builtin.List.listExtendWith (.ref S) (.ref a) .none) _ _ s
  refine wpAny_bind (wpAny_updateSeq hS rfl ?_)
  have hS₂ := Heap.get?_update_self (Obj.mapSeq (fun _ => (#[] : Array Value))) hS rfl
  have oth : ∀ b o, b ≠ S → s.heap.get? b = some o → (s.heap.update S (Obj.mapSeq (fun _ => (#[] : Array Value)))).get? b = some o :=
    fun b o hb e => (Heap.get?_update_other _ _ (Ne.symm hb)).trans e
  refine wpAny_bind (wpAny_letGo ?_)
  refine extend_ba hh ⟨xb, oth a _ (Ne.symm hSr) hob⟩ hlen S .none _ hS₂ fun h' tk acc' c' hk hS' hacc => ?_
  exact hR h' tk acc' c' (fun b o hb e => hk b o hb (oth b o hb e)) hS' hacc

theorem bytes_paired (h2 : Heap) : ∀ (vs : List Value) (bs : List UInt8), vs.length = bs.length → (∀ (j : Nat) (v : Value), vs[j]? = some v → ∃ (c : UInt8) (u : Tok), bs[j]? = some c ∧ v = Value.int (c.toNat : Int) u) → Paired (RInt.r h2) vs (bs.map fun c => (c.toNat : Int)) := by
  intro vs
  induction vs with
  | nil => intro bs hl _; cases bs with | nil => exact .nil | cons _ _ => simp at hl
  | cons v vs ih =>
    intro bs hl hp
    cases bs with
    | nil => simp at hl
    | cons c bs =>
      refine .cons ?_ (ih bs (by simpa using hl) fun j v' hv => by simpa using hp (j + 1) v' (by simpa using hv))
      obtain ⟨c', u, e, rfl⟩ := hp 0 v rfl
      simp at e; subst e
      exact ⟨u, rfl⟩

def bInts (b : Array UInt8) : List Int := b.toList.map fun c => (c.toNat : Int)

/-- list(a bytearray) -/
theorem list_ba {Q : Value → Shared → Prop} {a : Addr} {b : Array UInt8} (hh : A.handled = none) (hb : BA s.heap a b) (hlen : b.size ≤ 2 ^ 24)
    (hQ : ∀ h' tk, Up s.heap h' → Frsh (RList RInt) s.heap h' (.ref s.heap.objs.size) (bInts b) → Q (.ref s.heap.objs.size) { s with heap := h', toks := tk }) :
    wpAny (model prog w) A (call (.type "list") [.ref a]) Q E s := by
  refine callType_codes (Q₁ := fun obj s₁ => obj = .ref s.heap.objs.size ∧ s₁ = { s with heap := s.heap.push { cls := .type "list", data := .seq #[] } }) F.called_list (F.typeCall_list_1 _) F.entry_list_init
    (code_list_new _ ⟨rfl, rfl⟩) fun obj s₁ h₁ => ?_
  obtain ⟨rfl, rfl⟩ := h₁
  have hS : (s.heap.push { cls := .type "list", data := .seq #[] }).get? s.heap.objs.size = some { cls := .type "list", data := .seq #[] } := Heap.get?_push_size _ rfl
  obtain ⟨xb, hob⟩ := hb
  refine ⟨⟨_, hS, rfl⟩, F.args_list_init_2 _ _, init_list_ba (A := A.in1) hh ⟨xb, Heap.get?_push_of_some _ hob⟩ hlen _ hS fun h' tk acc' c' hk hS' hacc => ?_⟩
  refine ⟨rfl, hQ h' tk (fun b o e => hk b o (Nat.ne_of_lt (Heap.lt_size e)) (Heap.get?_push_of_some _ e)) fun h2 k => ⟨_, acc'.toList, rfl, ⟨c', by simpa using k _ _ (get?_size _) hS'⟩, ?_⟩⟩
  obtain ⟨hsz, hit⟩ := hacc
  refine bytes_paired h2 acc'.toList b.toList (by simpa using hsz) fun j v hv => ?_
  simpa using hit j v (by simpa using hv)
end
end Mine

namespace Mine

/-- a list under way, by a name of the frame -/
structure MVar where
  x : Str
  a : Addr
  α : Type
  R : Rep α
  xs : List α
def MVar.var (m : MVar) : Var := ⟨m.x, List m.α, RList m.R, m.xs⟩

/-- v reads as x, whatever turns at B -/
def Rd {α : Type} (R : Rep α) (B : List Addr) (h : Heap) (v : Value) (x : α) : Prop := ∀ h', Chg B h h' → R.r h' v x
theorem Chg.mono {B B' : List Addr} {h h' : Heap} (c : Chg B h h') (hs : ∀ b ∈ B, b ∈ B') : Chg B' h h' := fun b o n e => c b o (fun hm => n (hs b hm)) e
theorem Rd.r {α : Type} {R : Rep α} {B : List Addr} {h : Heap} {v : Value} {x : α} (f : Rd R B h v x) : R.r h v x := f h (Chg.refl _ _)
theorem Rd.chg {α : Type} {R : Rep α} {B : List Addr} {h h' : Heap} {v : Value} {x : α} (f : Rd R B h v x) (c : Chg B h h') : Rd R B h' v x := fun h2 k => f h2 (c.trans k)
theorem Rd.of_frsh {α : Type} {R : Rep α} {B : List Addr} {h₀ h : Heap} {v : Value} {x : α} (f : Frsh R h₀ h v x) (hl : ∀ b ∈ B, (h₀.get? b).isSome = true) : Rd R B h v x := fun _ c => (f.chg c hl).r
theorem Rd.flat {α : Type} {R : Rep α} {B : List Addr} {h : Heap} {v : Value} {x : α} (hf : Flat R) (r : R.r h v x) : Rd R B h v x := fun _ _ => hf _ _ _ _ r
theorem Rd.sub {α : Type} {R : Rep α} {B B' : List Addr} {h : Heap} {v : Value} {x : α} (f : Rd R B h v x) (hs : ∀ b ∈ B', b ∈ B) : Rd R B' h v x := fun h' c => f h' (c.mono hs)
theorem Rd.widen {α : Type} {R : Rep α} {B B' : List Addr} {h₀ h : Heap} {v : Value} {x : α} (f : Rd R B h₀ v x) (hn : ∀ b ∈ B', b ∈ B ∨ h₀.get? b = none) (u : Up h₀ h) : Rd R B' h v x := fun h' c =>
  f h' fun b o n e => by
    by_cases hb : b ∈ B'
    · rcases hn b hb with q | q
      · exact absurd q n
      · rw [q] at e; cases e
    · exact c b o hb (u b o e)
theorem flat_val : Flat RVal := fun _ _ _ _ r => r

def FB (env : Env) (ms : List MVar) (X : List Addr) : List Addr := env.locals :: (env.cells.map (·.2) ++ (ms.map (·.a) ++ X))

def Stay (B : List Addr) (s s' : Shared) : Prop := s'.gens = s.gens ∧ s'.drawn = s.drawn ∧ s'.os = s.os ∧ Chg B s.heap s'.heap
theorem Stay.refl (B : List Addr) (s : Shared) : Stay B s s := ⟨rfl, rfl, rfl, Chg.refl _ _⟩
theorem Stay.trans {B : List Addr} {a b c : Shared} (x : Stay B a b) (y : Stay B b c) : Stay B a c := ⟨y.1.trans x.1, y.2.1.trans x.2.1, y.2.2.1.trans x.2.2.1, x.2.2.2.trans y.2.2.2⟩
theorem Stay.of_grows {B : List Addr} {a b : Shared} (g : Grows a b) : Stay B a b := by
  obtain ⟨h, t, rfl, u⟩ := g
  exact ⟨rfl, rfl, rfl, Chg.of_up u⟩
theorem Stay.eq {B : List Addr} {s s' : Shared} (x : Stay B s s') : s' = { s with heap := s'.heap, toks := s'.toks } := by
  obtain ⟨e1, e2, e3, _⟩ := x
  cases s'
  simp at *
  exact ⟨e1, e2, e3⟩
/-- changes at what was not there are none -/
theorem Stay.shrink {B B' : List Addr} {sb s s' : Shared} (x : Stay B sb s) (y : Stay B' s s') (hn : ∀ b ∈ B', b ∈ B ∨ sb.heap.get? b = none) : Stay B sb s' :=
  ⟨y.1.trans x.1, y.2.1.trans x.2.1, y.2.2.1.trans x.2.2.1, fun b o n e => y.2.2.2 b o (fun hm => by
    rcases hn b hm with q | q
    · exact n q
    · rw [q] at e; cases e) (x.2.2.2 b o n e)⟩

structure Fx (sb : Shared) (Bb : List Addr) (mg mb : Str → Option Value) (env : Env) (vars : List Var) (ms : List MVar) (X Z : List Addr) (s : Shared) : Prop where
  glo : Glo mg mb s.heap
  kind : env.scope.kind = .function
  gl : env.globals = mainGlobals
  bl : env.builtins = builtinsNs
  out : mainGlobals ∉ FB env ms X ∧ builtinsNs ∉ FB env ms X ∧ cStatics ∉ FB env ms X
  nd : (FB env ms X).Nodup
  live : ∀ b ∈ FB env ms X, (s.heap.get? b).isSome = true
  loc : ∃ m, s.heap.Ns env.locals m
  cel : ∀ c ∈ env.cells.map (·.2), ∃ v, s.heap.IsCell c v
  liveZ : ∀ b ∈ Z, (s.heap.get? b).isSome = true
  var : ∀ e ∈ vars, ∃ v, NameIs s.heap env e.x v ∧ Rd e.R (FB env ms X ++ Z) s.heap v e.val
  mts : ∀ m ∈ ms, NameIs s.heap env m.x (.ref m.a) ∧ ∃ vs, s.heap.PlainList m.a vs.toArray ∧ Paired (Rd m.R (FB env ms X ++ Z) s.heap) vs m.xs
  base : Stay Bb sb s
  fresh : ∀ b ∈ FB env ms X, b ∈ Bb ∨ sb.heap.get? b = none

section
variable {sb s : Shared} {Bb : List Addr} {mg mb : Str → Option Value} {env : Env} {vars : List Var} {ms : List MVar} {X Z : List Addr}

theorem Glo.sameBut {d : Addr} {h h' : Heap} (G : Glo mg mb h) (hs : Heap.SameBut d h h') (h1 : mainGlobals ≠ d) (h2 : builtinsNs ≠ d) (h3 : cStatics ≠ d) : Glo mg mb h' :=
  ⟨G.g.sameBut hs h1, G.b.sameBut hs h2, G.nl.sameBut hs h3⟩
theorem paired_rd {α : Type} {R : Rep α} {B : List Addr} {h h' : Heap} {vs : List Value} {xs : List α} (p : Paired (Rd R B h) vs xs) (c : Chg B h h') : Paired (Rd R B h') vs xs := paired_mono (fun _ _ f => f.chg c) p
theorem live_up {h h' : Heap} {b : Addr} (u : Up h h') (l : (h.get? b).isSome = true) : (h'.get? b).isSome = true := u.dom b l

theorem Fx.cx (F : Fx sb Bb mg mb env vars ms X Z s) : Cx mg mb env (vars ++ ms.map MVar.var) s.heap :=
  ⟨F.glo, F.kind, F.gl, F.bl, F.loc, fun e he => by
    rcases List.mem_append.mp he with q | q
    · obtain ⟨v, n, r⟩ := F.var e q
      exact ⟨v, n, r.r⟩
    · obtain ⟨m, hm, rfl⟩ := List.mem_map.mp q
      obtain ⟨n, vs, hl, hp⟩ := F.mts m hm
      exact ⟨_, n, m.a, vs, rfl, hl, paired_mono (fun _ _ r => Rd.r r) hp⟩⟩

theorem Fx.grow {s' : Shared} (F : Fx sb Bb mg mb env vars ms X Z s) (g : Grows s s') : Fx sb Bb mg mb env vars ms X Z s' :=
  { glo := F.glo.up g.up, kind := F.kind, gl := F.gl, bl := F.bl, out := F.out, nd := F.nd, fresh := F.fresh
    live := fun b hb => live_up g.up (F.live b hb), liveZ := fun b hb => live_up g.up (F.liveZ b hb)
    loc := let ⟨m, hm⟩ := F.loc; ⟨m, hm.keeps g.up⟩
    cel := fun c hc => let ⟨v, hv⟩ := F.cel c hc; ⟨v, hv.keeps g.up⟩
    var := fun e he => let ⟨v, n, r⟩ := F.var e he; ⟨v, n.up g.up, r.chg (Chg.of_up g.up)⟩
    mts := fun m hm => let ⟨n, vs, hl, hp⟩ := F.mts m hm; ⟨n.up g.up, vs, hl.at (g.up m.a), paired_rd hp (Chg.of_up g.up)⟩
    base := F.base.trans (Stay.of_grows g) }

theorem Fx.weak {vars' : List Var} (F : Fx sb Bb mg mb env vars ms X Z s) (h : ∀ e ∈ vars', e ∈ vars) : Fx sb Bb mg mb env vars' ms X Z s :=
  { F with var := fun e he => F.var e (h e he) }

theorem ns_uniq {h : Heap} {a : Addr} {m m' : Str → Option Value} (x : h.Ns a m) (y : h.Ns a m') (n : Str) : m n = m' n := by
  obtain ⟨o, es, ep, ho, hd, _, hf⟩ := x
  obtain ⟨o', es', ep', ho', hd', _, hf'⟩ := y
  rw [ho] at ho'
  cases ho'
  rw [hd] at hd'
  cases hd'
  rw [← hf, ← hf']

theorem lookup_mem' : ∀ {l : List (Str × Addr)} {x : Str} {c : Addr}, l.lookup x = some c → (x, c) ∈ l
  | [], _, _, h => by simp at h
  | (k, v) :: r, x, c, h => by
    rw [List.lookup_cons] at h
    split at h
    · rename_i e
      have e' : x = k := by simpa using e
      cases h; subst e'; exact List.mem_cons_self
    · exact List.mem_cons_of_mem _ (lookup_mem' h)
theorem snd_uniq : ∀ {l : List (Str × Addr)} {x y : Str} {c : Addr}, (l.map (·.2)).Nodup → (x, c) ∈ l → (y, c) ∈ l → x = y
  | (k, v) :: r, x, y, c, nd, hx, hy => by
    rw [List.map_cons, List.nodup_cons] at nd
    rcases List.mem_cons.mp hx with e | hx
    · cases e
      rcases List.mem_cons.mp hy with e | hy
      · cases e; rfl
      · exact absurd (List.mem_map_of_mem hy) nd.1
    · rcases List.mem_cons.mp hy with e | hy
      · cases e; exact absurd (List.mem_map_of_mem hx) nd.1
      · exact snd_uniq nd.2 hx hy

def CanStore (env : Env) (x : Str) : Prop := env.kindOf x = some .local ∨ (env.kindOf x = some .cell ∧ ∃ c, env.cells.lookup x = some c)

theorem cell_mem {x : Str} {c : Addr} (h : env.cells.lookup x = some c) : c ∈ env.cells.map (·.2) := List.mem_map_of_mem (f := (·.2)) (lookup_mem' h)
theorem cells_fb {c : Addr} (h : c ∈ env.cells.map (·.2)) : c ∈ FB env ms X := List.mem_cons_of_mem _ (List.mem_append_left _ h)
theorem ms_fb {m : MVar} (h : m ∈ ms) : m.a ∈ FB env ms X := List.mem_cons_of_mem _ (List.mem_append_right _ (List.mem_append_left _ (List.mem_map_of_mem (f := (·.a)) h)))
theorem x_fb {a : Addr} (h : a ∈ X) : a ∈ FB env ms X := List.mem_cons_of_mem _ (List.mem_append_right _ (List.mem_append_right _ h))
theorem loc_fb : env.locals ∈ FB env ms X := List.mem_cons_self
theorem Fx.loc_ne_cell (F : Fx sb Bb mg mb env vars ms X Z s) {c : Addr} (h : c ∈ env.cells.map (·.2)) : env.locals ≠ c := fun e => by
  have := (List.nodup_cons.mp F.nd).1
  exact this (e ▸ List.mem_append_left _ h)
theorem Fx.loc_ne_m (F : Fx sb Bb mg mb env vars ms X Z s) {m : MVar} (h : m ∈ ms) : env.locals ≠ m.a := fun e => by
  have := (List.nodup_cons.mp F.nd).1
  exact this (e ▸ List.mem_append_right _ (List.mem_append_left _ (List.mem_map_of_mem (f := (·.a)) h)))
theorem Fx.loc_ne_x (F : Fx sb Bb mg mb env vars ms X Z s) {a : Addr} (h : a ∈ X) : env.locals ≠ a := fun e => by
  have := (List.nodup_cons.mp F.nd).1
  exact this (e ▸ List.mem_append_right _ (List.mem_append_right _ h))
theorem Fx.cell_ne_m (F : Fx sb Bb mg mb env vars ms X Z s) {c : Addr} (hc : c ∈ env.cells.map (·.2)) {m : MVar} (h : m ∈ ms) : c ≠ m.a := by
  have := (List.nodup_append.mp (List.nodup_cons.mp F.nd).2).2.2
  exact this c hc _ (List.mem_append_left _ (List.mem_map_of_mem (f := (·.a)) h))
theorem Fx.cell_ne_x (F : Fx sb Bb mg mb env vars ms X Z s) {c : Addr} (hc : c ∈ env.cells.map (·.2)) {a : Addr} (h : a ∈ X) : c ≠ a := by
  have := (List.nodup_append.mp (List.nodup_cons.mp F.nd).2).2.2
  exact this c hc _ (List.mem_append_right _ h)
theorem Fx.m_ne_x (F : Fx sb Bb mg mb env vars ms X Z s) {m : MVar} (hc : m ∈ ms) {a : Addr} (h : a ∈ X) : m.a ≠ a := by
  have := (List.nodup_append.mp (List.nodup_append.mp (List.nodup_cons.mp F.nd).2).2.1).2.2
  exact this _ (List.mem_map_of_mem (f := (·.a)) hc) _ h

theorem Fx.out_ne (F : Fx sb Bb mg mb env vars ms X Z s) {d : Addr} (hd : d ∈ FB env ms X) : mainGlobals ≠ d ∧ builtinsNs ≠ d ∧ cStatics ≠ d :=
  ⟨fun e => F.out.1 (e ▸ hd), fun e => F.out.2.1 (e ▸ hd), fun e => F.out.2.2 (e ▸ hd)⟩

theorem live_same {d b : Addr} {h h' : Heap} (hs : Heap.SameBut d h h') (hd : (h'.get? d).isSome = true) (l : (h.get? b).isSome = true) : (h'.get? b).isSome = true := by
  by_cases e : b = d
  · subst e; exact hd
  · rw [hs.2 b e]; exact l

/-- a name of the frame is bound -/
theorem Fx.store {prog : Program} {w : World} {A : Around} {E : Value → Shared → Prop} {Q : Unit → Shared → Prop} {x : Str} {v : Value} {α : Type} {R : Rep α} {val : α}
    (F : Fx sb Bb mg mb env vars ms X Z s) (hk : CanStore env x) (hr : Rd R (FB env ms X ++ Z) s.heap v val) (hv : (vars.all fun e => e.x != x) = true) (hm : (ms.all fun m => m.x != x) = true)
    (h : ∀ s', Fx sb Bb mg mb env (⟨x, α, R, val⟩ :: vars) ms X Z s' → NameIs s'.heap env x v → Chg (env.locals :: env.cells.map (·.2)) s.heap s'.heap → Q () s') : wpAny (model prog w) A (storeName env x v) Q E s := by
  have hv' : ∀ e ∈ vars, e.x ≠ x := fun e he => by simpa using List.all_eq_true.mp hv e he
  have hm' : ∀ m ∈ ms, m.x ≠ x := fun e he => by simpa using List.all_eq_true.mp hm e he
  obtain ⟨m, hns⟩ := F.loc
  rcases hk with hk | ⟨hk, c, hc⟩
  · refine wpAny_storeName_local hk hns (fun h' hns' hs => ?_) (by rw [F.kind]; rfl)
    have hch : Chg (FB env ms X) s.heap h' := Chg.of_same hs loc_fb
    have hch' : Chg (FB env ms X ++ Z) s.heap h' := hch.mono fun _ hb => List.mem_append_left _ hb
    obtain ⟨o1, o2, o3⟩ := F.out_ne loc_fb
    have hnx : NameIs h' env x v := .inl ⟨hk, _, hns', by simp⟩
    have hn : ∀ y u, y ≠ x → NameIs s.heap env y u → NameIs h' env y u := fun y u hy n => by
      rcases n with ⟨k, m', hn', e⟩ | ⟨c, k, hc, hcell⟩
      · refine .inl ⟨k, _, hns', ?_⟩
        show (if y = x then some v else m y) = some u
        rw [if_neg hy, ns_uniq hns hn' y]; exact e
      · exact .inr ⟨c, k, hc, let ⟨o, ho, hd⟩ := hcell; ⟨o, hs.extBut c o (F.loc_ne_cell (cell_mem hc)).symm ho, hd⟩⟩
    refine h _ ?_ hnx ?_
    rotate_left
    · exact Chg.of_same hs (List.mem_cons_self)
    exact
      { glo := F.glo.sameBut hs o1 o2 o3, kind := F.kind, gl := F.gl, bl := F.bl, out := F.out, nd := F.nd, fresh := F.fresh
        live := fun b hb => live_same hs (by obtain ⟨o, _, _, ho, _⟩ := hns'; rw [ho]; rfl) (F.live b hb)
        liveZ := fun b hb => live_same hs (by obtain ⟨o, _, _, ho, _⟩ := hns'; rw [ho]; rfl) (F.liveZ b hb)
        loc := ⟨_, hns'⟩
        cel := fun c hc => let ⟨v, o, ho, hd⟩ := F.cel c hc; ⟨v, o, hs.extBut c o (F.loc_ne_cell hc).symm ho, hd⟩
        var := fun e he => by
          rcases List.mem_cons.mp he with rfl | he
          · exact ⟨v, hnx, hr.chg hch'⟩
          · obtain ⟨u, n, r⟩ := F.var e he
            exact ⟨u, hn _ _ (hv' e he) n, r.chg hch'⟩
        mts := fun m hm => by
          obtain ⟨n, vs, hl, hp⟩ := F.mts m hm
          exact ⟨hn _ _ (hm' m hm) n, vs, hl.at fun o e => hs.extBut _ o (F.loc_ne_m hm).symm e, paired_rd hp hch'⟩
        base := F.base.shrink (s' := { s with heap := h', toks := s.toks + 1 }) ⟨rfl, rfl, rfl, hch⟩ F.fresh }
  · have hcm := cell_mem hc
    obtain ⟨v₀, hcv⟩ := F.cel c hcm
    refine wpAny_storeName_cell F.kind hk hc hcv (fun h' hcell hs => ?_)
    have hch : Chg (FB env ms X) s.heap h' := Chg.of_same hs (cells_fb hcm)
    have hch' : Chg (FB env ms X ++ Z) s.heap h' := hch.mono fun _ hb => List.mem_append_left _ hb
    obtain ⟨o1, o2, o3⟩ := F.out_ne (cells_fb hcm)
    have hnx : NameIs h' env x v := .inr ⟨c, .inl hk, hc, hcell⟩
    have hn : ∀ y u, y ≠ x → NameIs s.heap env y u → NameIs h' env y u := fun y u hy n => by
      rcases n with ⟨k, m', hn', e⟩ | ⟨c', k, hc', hcell'⟩
      · exact .inl ⟨k, m', hn'.sameBut hs (F.loc_ne_cell hcm), e⟩
      · have hne : c' ≠ c := fun e => hy (snd_uniq (List.nodup_append.mp (List.nodup_cons.mp F.nd).2).1 (lookup_mem' hc') (e ▸ lookup_mem' hc))
        exact .inr ⟨c', k, hc', let ⟨o, ho, hd⟩ := hcell'; ⟨o, hs.extBut c' o hne ho, hd⟩⟩
    refine h _ ?_ hnx ?_
    rotate_left
    · exact Chg.of_same hs (List.mem_cons_of_mem _ hcm)
    exact
      { glo := F.glo.sameBut hs o1 o2 o3, kind := F.kind, gl := F.gl, bl := F.bl, out := F.out, nd := F.nd, fresh := F.fresh
        live := fun b hb => live_same hs (by obtain ⟨o, ho, _⟩ := hcell; rw [ho]; rfl) (F.live b hb)
        liveZ := fun b hb => live_same hs (by obtain ⟨o, ho, _⟩ := hcell; rw [ho]; rfl) (F.liveZ b hb)
        loc := ⟨m, hns.sameBut hs (F.loc_ne_cell hcm)⟩
        cel := fun c' hc' => by
          by_cases e : c' = c
          · subst e; exact ⟨_, hcell⟩
          · obtain ⟨v, o, ho, hd⟩ := F.cel c' hc'
            exact ⟨v, o, hs.extBut c' o e ho, hd⟩
        var := fun e he => by
          rcases List.mem_cons.mp he with rfl | he
          · exact ⟨v, hnx, hr.chg hch'⟩
          · obtain ⟨u, n, r⟩ := F.var e he
            exact ⟨u, hn _ _ (hv' e he) n, r.chg hch'⟩
        mts := fun m hm => by
          obtain ⟨n, vs, hl, hp⟩ := F.mts m hm
          exact ⟨hn _ _ (hm' m hm) n, vs, hl.at fun o e => hs.extBut _ o (F.cell_ne_m hcm hm).symm e, paired_rd hp hch'⟩
        base := F.base.shrink (s' := { s with heap := h' }) ⟨rfl, rfl, rfl, hch⟩ F.fresh }

theorem Fx.chgX {s' : Shared} {d : List Addr} (F : Fx sb Bb mg mb env vars ms X Z s) (hd : ∀ a ∈ d, a ∈ X) (y : Stay d s s') (hl : ∀ a ∈ d, (s'.heap.get? a).isSome = true) : Fx sb Bb mg mb env vars ms X Z s' := by
  have hch' : Chg (FB env ms X ++ Z) s.heap s'.heap := y.2.2.2.mono fun b hb => List.mem_append_left _ (x_fb (hd b hb))
  have kp : ∀ b o, b ∉ d → s.heap.get? b = some o → s'.heap.get? b = some o := y.2.2.2
  have nsk : ∀ {a m}, a ∉ d → s.heap.Ns a m → s'.heap.Ns a m := fun ha ⟨o, es, ep, ho, r⟩ => ⟨o, es, ep, kp _ _ ha ho, r⟩
  have nout : mainGlobals ∉ d ∧ builtinsNs ∉ d ∧ cStatics ∉ d := ⟨fun h => F.out.1 (x_fb (hd _ h)), fun h => F.out.2.1 (x_fb (hd _ h)), fun h => F.out.2.2 (x_fb (hd _ h))⟩
  have hn : ∀ y u, NameIs s.heap env y u → NameIs s'.heap env y u := fun y u n => by
    rcases n with ⟨k, m', hn', e⟩ | ⟨c', k, hc', o, ho, hcd⟩
    · exact .inl ⟨k, m', nsk (fun h => F.loc_ne_x (hd _ h) rfl) hn', e⟩
    · exact .inr ⟨c', k, hc', o, kp _ _ (fun h => F.cell_ne_x (cell_mem hc') (hd _ h) rfl) ho, hcd⟩
  exact
    { glo := ⟨nsk nout.1 F.glo.g, nsk nout.2.1 F.glo.b, let ⟨mc, p, q⟩ := F.glo.nl; ⟨mc, nsk nout.2.2 p, q⟩⟩, kind := F.kind, gl := F.gl, bl := F.bl, out := F.out, nd := F.nd, fresh := F.fresh
      live := fun b hb => by
        by_cases e : b ∈ d
        · exact hl b e
        · obtain ⟨o, ho⟩ := Option.isSome_iff_exists.mp (F.live b hb)
          rw [kp b o e ho]; rfl
      liveZ := fun b hb => by
        by_cases e : b ∈ d
        · exact hl b e
        · obtain ⟨o, ho⟩ := Option.isSome_iff_exists.mp (F.liveZ b hb)
          rw [kp b o e ho]; rfl
      loc := let ⟨m, hm⟩ := F.loc; ⟨m, nsk (fun h => F.loc_ne_x (hd _ h) rfl) hm⟩
      cel := fun c hc => let ⟨v, o, ho, hcd⟩ := F.cel c hc; ⟨v, o, kp _ _ (fun h => F.cell_ne_x hc (hd _ h) rfl) ho, hcd⟩
      var := fun e he => let ⟨u, n, r⟩ := F.var e he; ⟨u, hn _ _ n, r.chg hch'⟩
      mts := fun m hm => let ⟨n, vs, hl, hp⟩ := F.mts m hm; ⟨hn _ _ n, vs, hl.at fun o e => kp _ _ (fun h => F.m_ne_x hm (hd _ h) rfl) e, paired_rd hp hch'⟩
      base := F.base.shrink y fun b hb => F.fresh b (x_fb (hd b hb)) }

theorem stay_live {B : List Addr} {a b : Shared} {d : Addr} (x : Stay B a b) (h : d ∉ B) (n : b.heap.get? d = none) : a.heap.get? d = none := by
  cases q : a.heap.get? d with
  | none => rfl
  | some o => rw [x.2.2.2 d o h q] at n; cases n

theorem wid {h : Heap} {a : Addr} {B B' Z : List Addr} (memE : ∀ b, b ∈ B' ↔ b = a ∨ b ∈ B) (hn : h.get? a = none) : ∀ b ∈ B' ++ Z, b ∈ B ++ Z ∨ h.get? b = none := fun b hb => by
  rcases List.mem_append.mp hb with q | q
  · rcases (memE b).mp q with q | q
    · exact .inr (q ▸ hn)
    · exact .inl (List.mem_append_left _ q)
  · exact .inl (List.mem_append_right _ q)
theorem app_sub {B B' Z : List Addr} (hs : ∀ b ∈ B', b ∈ B) : ∀ b ∈ B' ++ Z, b ∈ B ++ Z := fun b hb => by
  rcases List.mem_append.mp hb with q | q
  · exact List.mem_append_left _ (hs b q)
  · exact List.mem_append_right _ q
/-- a new object joins what may turn -/
theorem Fx.widen {s₁ : Shared} {a : Addr} (F : Fx sb Bb mg mb env vars ms X Z s) (g : Grows s s₁) (hn : s.heap.get? a = none) (hl : (s₁.heap.get? a).isSome = true) : Fx sb Bb mg mb env vars ms (a :: X) Z s₁ := by
  have F₁ := F.grow g
  have hperm : (FB env ms (a :: X)).Perm (a :: FB env ms X) := by
    unfold FB
    have h1 : (ms.map (·.a) ++ a :: X).Perm (a :: (ms.map (·.a) ++ X)) := List.perm_middle
    have h2 := h1.append_left (env.cells.map (·.2))
    have h3 : (env.cells.map (·.2) ++ a :: (ms.map (·.a) ++ X)).Perm (a :: (env.cells.map (·.2) ++ (ms.map (·.a) ++ X))) := List.perm_middle
    exact ((h2.trans h3).cons env.locals).trans (List.Perm.swap _ _ _)
  have memE : ∀ b, b ∈ FB env ms (a :: X) ↔ b = a ∨ b ∈ FB env ms X := fun b => hperm.mem_iff.trans List.mem_cons
  have hna : a ∉ FB env ms X := fun h => by have := F.live a h; rw [hn] at this; cases this
  have glive : ∀ b o, s.heap.get? b = some o → b ≠ a := fun b o e q => by rw [q, hn] at e; cases e
  refine
    { glo := F₁.glo, kind := F.kind, gl := F.gl, bl := F.bl, loc := F₁.loc, cel := F₁.cel, base := F₁.base, liveZ := F₁.liveZ
      out := ?_, nd := ?_, live := ?_, var := ?_, mts := ?_, fresh := ?_ }
  · refine ⟨fun h => ?_, fun h => ?_, fun h => ?_⟩ <;> rcases (memE _).mp h with e | e
    · obtain ⟨o, _, _, ho, _⟩ := F.glo.g; exact glive _ o ho e
    · exact F.out.1 e
    · obtain ⟨o, _, _, ho, _⟩ := F.glo.b; exact glive _ o ho e
    · exact F.out.2.1 e
    · obtain ⟨mc, ⟨o, _, _, ho, _⟩, _⟩ := F.glo.nl; exact glive _ o ho e
    · exact F.out.2.2 e
  · exact hperm.nodup_iff.mpr (List.nodup_cons.mpr ⟨hna, F.nd⟩)
  · intro b hb
    rcases (memE b).mp hb with e | e
    · rw [e]; exact hl
    · exact F₁.live b e
  · intro e he
    obtain ⟨v, n, r⟩ := F.var e he
    exact ⟨v, n.up g.up, r.widen (wid memE hn) g.up⟩
  · intro m hm
    obtain ⟨n, vs, hl, hp⟩ := F.mts m hm
    exact ⟨n.up g.up, vs, hl.at (g.up m.a), paired_mono (fun _ _ r => r.widen (wid memE hn) g.up) hp⟩
  · intro b hb
    rcases (memE b).mp hb with e | e
    · subst e
      by_cases q : b ∈ Bb
      · exact .inl q
      · exact .inr (stay_live F.base q hn)
    · exact F.fresh b e

theorem Fx.narrow {a : Addr} (F : Fx sb Bb mg mb env vars ms (a :: X) Z s) : Fx sb Bb mg mb env vars ms X Z s := by
  have hsl : (FB env ms X).Sublist (FB env ms (a :: X)) := by
    unfold FB
    exact ((List.Sublist.append_left ((List.Sublist.append_left (List.sublist_cons_self _ _) _)) _)).cons_cons _
  have hs : ∀ b ∈ FB env ms X, b ∈ FB env ms (a :: X) := fun b hb => hsl.subset hb
  exact
    { F with
      out := ⟨fun h => F.out.1 (hs _ h), fun h => F.out.2.1 (hs _ h), fun h => F.out.2.2 (hs _ h)⟩
      nd := F.nd.sublist hsl
      live := fun b hb => F.live b (hs b hb)
      fresh := fun b hb => F.fresh b (hs b hb)
      var := fun e he => let ⟨v, n, r⟩ := F.var e he; ⟨v, n, r.sub (app_sub hs)⟩
      mts := fun m hm => let ⟨n, vs, hl, hp⟩ := F.mts m hm; ⟨n, vs, hl, paired_mono (fun _ _ r => r.sub (app_sub hs)) hp⟩ }

/-- a list that may turn gets its name -/
theorem Fx.promote {x : Str} {a : Addr} {α : Type} {R : Rep α} {vs : List Value} {xs : List α} (F : Fx sb Bb mg mb env vars ms (a :: X) Z s) (n : NameIs s.heap env x (.ref a)) (hl : s.heap.PlainList a vs.toArray)
    (hp : Paired (Rd R (FB env ms (a :: X) ++ Z) s.heap) vs xs) : Fx sb Bb mg mb env vars (⟨x, a, α, R, xs⟩ :: ms) X Z s := by
  have hperm : (FB env (⟨x, a, α, R, xs⟩ :: ms) X).Perm (FB env ms (a :: X)) := by
    unfold FB
    refine List.Perm.cons _ (List.Perm.append_left _ ?_)
    exact List.perm_middle.symm
  have memE : ∀ b, b ∈ FB env (⟨x, a, α, R, xs⟩ :: ms) X ↔ b ∈ FB env ms (a :: X) := fun b => hperm.mem_iff
  exact
    { F with
      out := ⟨fun h => F.out.1 ((memE _).mp h), fun h => F.out.2.1 ((memE _).mp h), fun h => F.out.2.2 ((memE _).mp h)⟩
      nd := hperm.nodup_iff.mpr F.nd
      live := fun b hb => F.live b ((memE b).mp hb)
      fresh := fun b hb => F.fresh b ((memE b).mp hb)
      var := fun e he => let ⟨v, n, r⟩ := F.var e he; ⟨v, n, r.sub (app_sub fun b hb => (memE b).mp hb)⟩
      mts := fun m hm => by
        rcases List.mem_cons.mp hm with rfl | hm
        · exact ⟨n, vs, hl, paired_mono (fun _ _ r => r.sub (app_sub fun b hb => (memE b).mp hb)) hp⟩
        · obtain ⟨n, vs, hl, hp⟩ := F.mts m hm
          exact ⟨n, vs, hl, paired_mono (fun _ _ r => r.sub (app_sub fun b hb => (memE b).mp hb)) hp⟩ }

theorem Fx.freeze {m : MVar} (F : Fx sb Bb mg mb env vars (m :: ms) X Z s) (hz : m.a ∉ Z) : Fx sb Bb mg mb env (m.var :: vars) ms X Z s := by
  have hsl : (FB env ms X).Sublist (FB env (m :: ms) X) := by
    unfold FB
    exact (List.Sublist.append_left ((List.sublist_cons_self _ _).append_right _) _).cons_cons _
  have hs : ∀ b ∈ FB env ms X, b ∈ FB env (m :: ms) X := fun b hb => hsl.subset hb
  have hna : m.a ∉ FB env ms X := fun h => by
    simp only [FB, List.mem_cons] at h
    rcases h with h | h
    · exact F.loc_ne_m List.mem_cons_self h.symm
    · rcases List.mem_append.mp h with h | h
      · exact F.cell_ne_m h List.mem_cons_self rfl
      · have := (List.nodup_append.mp (List.nodup_cons.mp F.nd).2).2.1
        rw [List.map_cons, List.cons_append] at this
        exact (List.nodup_cons.mp this).1 h
  exact
    { F with
      out := ⟨fun h => F.out.1 (hs _ h), fun h => F.out.2.1 (hs _ h), fun h => F.out.2.2 (hs _ h)⟩
      nd := F.nd.sublist hsl
      live := fun b hb => F.live b (hs b hb)
      fresh := fun b hb => F.fresh b (hs b hb)
      var := fun e he => by
        rcases List.mem_cons.mp he with rfl | he
        · obtain ⟨n, vs, hl, hp⟩ := F.mts m List.mem_cons_self
          refine ⟨_, n, fun h' c => ⟨m.a, vs, rfl, hl.at fun o e => c _ o (fun hm => (List.mem_append.mp hm).elim hna hz) e, ?_⟩⟩
          exact paired_mono (fun _ _ r => r h' (c.mono (app_sub hs))) hp
        · obtain ⟨v, n, r⟩ := F.var e he
          exact ⟨v, n, r.sub (app_sub hs)⟩
      mts := fun m' hm => let ⟨n, vs, hl, hp⟩ := F.mts m' (List.mem_cons_of_mem _ hm); ⟨n, vs, hl, paired_mono (fun _ _ r => r.sub (app_sub hs)) hp⟩ }

/-- another state to reckon from -/
theorem Fx.rebase (F : Fx sb Bb mg mb env vars ms X Z s) : Fx s (FB env ms X) mg mb env vars ms X Z s := { F with base := Stay.refl _ _, fresh := fun _ hb => .inl hb }
theorem Fx.unbase {s' : Shared} {vars' : List Var} {ms' : List MVar} {X' Z' : List Addr} {B : List Addr} (x : Stay Bb sb s) (hB : ∀ b ∈ B, b ∈ Bb ∨ sb.heap.get? b = none) (F' : Fx s B mg mb env vars' ms' X' Z' s') : Fx sb Bb mg mb env vars' ms' X' Z' s' :=
  { F' with
    base := x.shrink F'.base hB
    fresh := fun b hb => by
      rcases F'.fresh b hb with q | q
      · exact hB b q
      · by_cases e : b ∈ Bb
        · exact .inl e
        · exact .inr (stay_live x e q) }

/-- what others may turn -/
theorem Fx.widenZ {s₁ : Shared} {a : Addr} (F : Fx sb Bb mg mb env vars ms X Z s) (g : Grows s s₁) (hn : s.heap.get? a = none) (hl : (s₁.heap.get? a).isSome = true) : Fx sb Bb mg mb env vars ms X (a :: Z) s₁ := by
  have F₁ := F.grow g
  have wz : ∀ b ∈ FB env ms X ++ (a :: Z), b ∈ FB env ms X ++ Z ∨ s.heap.get? b = none := fun b hb => by
    rcases List.mem_append.mp hb with q | q
    · exact .inl (List.mem_append_left _ q)
    · rcases List.mem_cons.mp q with q | q
      · exact .inr (q ▸ hn)
      · exact .inl (List.mem_append_right _ q)
  exact
    { F₁ with
      liveZ := fun b hb => by
        rcases List.mem_cons.mp hb with q | q
        · rw [q]; exact hl
        · exact F₁.liveZ b q
      var := fun e he => let ⟨v, n, r⟩ := F.var e he; ⟨v, n.up g.up, r.widen wz g.up⟩
      mts := fun m hm => let ⟨n, vs, hl, hp⟩ := F.mts m hm; ⟨n.up g.up, vs, hl.at (g.up m.a), paired_mono (fun _ _ r => r.widen wz g.up) hp⟩ }
theorem Fx.narrowZ {a : Addr} (F : Fx sb Bb mg mb env vars ms X (a :: Z) s) : Fx sb Bb mg mb env vars ms X Z s := by
  have hs : ∀ b ∈ FB env ms X ++ Z, b ∈ FB env ms X ++ (a :: Z) := fun b hb => by
    rcases List.mem_append.mp hb with q | q
    · exact List.mem_append_left _ q
    · exact List.mem_append_right _ (List.mem_cons_of_mem _ q)
  exact
    { F with
      liveZ := fun b hb => F.liveZ b (List.mem_cons_of_mem _ hb)
      var := fun e he => let ⟨v, n, r⟩ := F.var e he; ⟨v, n, r.sub hs⟩
      mts := fun m hm => let ⟨n, vs, hl, hp⟩ := F.mts m hm; ⟨n, vs, hl, paired_mono (fun _ _ r => r.sub hs) hp⟩ }
theorem Fx.chgZ {s' : Shared} {d : Addr} {Z' : List Addr} (F : Fx sb Bb mg mb env vars ms X Z s) (hd : d ∈ Z) (hZ : ∀ b ∈ Z', b ∈ Z) (hf : d ∉ FB env ms X) (ho : mainGlobals ≠ d ∧ builtinsNs ≠ d ∧ cStatics ≠ d) (hfr : d ∈ Bb ∨ sb.heap.get? d = none)
    (y : Stay [d] s s') (hl : ∀ b ∈ Z', b = d → (s'.heap.get? d).isSome = true) : Fx sb Bb mg mb env vars ms X Z' s' := by
  have hsub : ∀ b ∈ FB env ms X ++ Z', b ∈ FB env ms X ++ Z := fun b hb => by
    rcases List.mem_append.mp hb with q | q
    · exact List.mem_append_left _ q
    · exact List.mem_append_right _ (hZ b q)
  have hch' : Chg (FB env ms X ++ Z) s.heap s'.heap := y.2.2.2.mono fun b hb => List.mem_append_right _ (by rw [List.mem_singleton.mp hb]; exact hd)
  have kp : ∀ b o, b ≠ d → s.heap.get? b = some o → s'.heap.get? b = some o := fun b o hb => y.2.2.2 b o (fun hm => hb (List.mem_singleton.mp hm))
  have nsk : ∀ {a m}, a ≠ d → s.heap.Ns a m → s'.heap.Ns a m := fun ha ⟨o, es, ep, ho, r⟩ => ⟨o, es, ep, kp _ _ ha ho, r⟩
  have hL : env.locals ≠ d := fun e => hf (e ▸ loc_fb)
  have hC : ∀ {c}, c ∈ env.cells.map (·.2) → c ≠ d := fun h e => hf (e ▸ cells_fb h)
  have hn : ∀ y u, NameIs s.heap env y u → NameIs s'.heap env y u := fun y u n => by
    rcases n with ⟨k, m', hn', e⟩ | ⟨c', k, hc', o, ho, hcd⟩
    · exact .inl ⟨k, m', nsk hL hn', e⟩
    · exact .inr ⟨c', k, hc', o, kp _ _ (hC (cell_mem hc')) ho, hcd⟩
  have hlv : ∀ b, b ≠ d → (s.heap.get? b).isSome = true → (s'.heap.get? b).isSome = true := fun b e hb => by
    obtain ⟨o, ho⟩ := Option.isSome_iff_exists.mp hb
    rw [kp b o e ho]; rfl
  exact
    { glo := ⟨nsk ho.1 F.glo.g, nsk ho.2.1 F.glo.b, let ⟨mc, p, q⟩ := F.glo.nl; ⟨mc, nsk ho.2.2 p, q⟩⟩, kind := F.kind, gl := F.gl, bl := F.bl, out := F.out, nd := F.nd, fresh := F.fresh
      live := fun b hb => hlv b (fun e => hf (e ▸ hb)) (F.live b hb)
      liveZ := fun b hb => by
        by_cases e : b = d
        · rw [e]; exact hl b hb e
        · exact hlv b e (F.liveZ b (hZ b hb))
      loc := let ⟨m, hm⟩ := F.loc; ⟨m, nsk hL hm⟩
      cel := fun c hc => let ⟨v, o, ho, hcd⟩ := F.cel c hc; ⟨v, o, kp _ _ (hC hc) ho, hcd⟩
      var := fun e he => let ⟨u, n, r⟩ := F.var e he; ⟨u, hn _ _ n, (r.chg hch').sub hsub⟩
      mts := fun m hm => let ⟨n, vs, hl, hp⟩ := F.mts m hm; ⟨hn _ _ n, vs, hl.at fun o e => kp _ _ (fun e => hf (e ▸ ms_fb hm)) e, paired_mono (fun _ _ r => r.sub hsub) (paired_rd hp hch')⟩
      base := F.base.shrink y fun b hb => by rw [List.mem_singleton.mp hb]; exact hfr }
theorem map_a {l1 l2 : List MVar} {m m' : MVar} (h : m'.a = m.a) : (l1 ++ m' :: l2).map (·.a) = (l1 ++ m :: l2).map (·.a) := by simp [h]
theorem Fx.setM {l1 l2 : List MVar} {m : MVar} {h' : Heap} {tk : Nat} {vs' : List Value} {xs' : List m.α} (F : Fx sb Bb mg mb env vars (l1 ++ m :: l2) X Z s) (hs : Heap.SameBut m.a s.heap h') (hl' : h'.PlainList m.a vs'.toArray)
    (hp' : Paired (Rd m.R (FB env (l1 ++ m :: l2) X ++ Z) s.heap) vs' xs') : Fx sb Bb mg mb env vars (l1 ++ ⟨m.x, m.a, m.α, m.R, xs'⟩ :: l2) X Z { s with heap := h', toks := tk } := by
  have hmm : m ∈ l1 ++ m :: l2 := List.mem_append_right _ List.mem_cons_self
  have eFB : FB env (l1 ++ ⟨m.x, m.a, m.α, m.R, xs'⟩ :: l2) X = FB env (l1 ++ m :: l2) X := by unfold FB; rw [map_a (m := m) (m' := ⟨m.x, m.a, m.α, m.R, xs'⟩) rfl]
  have hda : m.a ∈ FB env (l1 ++ m :: l2) X := ms_fb hmm
  have hch : Chg (FB env (l1 ++ m :: l2) X) s.heap h' := Chg.of_same hs hda
  have hch' : Chg (FB env (l1 ++ m :: l2) X ++ Z) s.heap h' := hch.mono fun _ hb => List.mem_append_left _ hb
  obtain ⟨o1, o2, o3⟩ := F.out_ne hda
  have hn : ∀ y u, NameIs s.heap env y u → NameIs h' env y u := fun y u n => by
    rcases n with ⟨k, m', hn', e⟩ | ⟨c', k, hc', o, ho, hcd⟩
    · exact .inl ⟨k, m', hn'.sameBut hs (F.loc_ne_m hmm), e⟩
    · exact .inr ⟨c', k, hc', o, hs.extBut _ _ (F.cell_ne_m (cell_mem hc') hmm) ho, hcd⟩
  have hda' : (h'.get? m.a).isSome = true := by obtain ⟨n, ho⟩ := hl'; rw [ho]; rfl
  have ndm : ((l1 ++ m :: l2).map (·.a)).Nodup := (List.nodup_append.mp (List.nodup_append.mp (List.nodup_cons.mp F.nd).2).2.1).1
  have hne : ∀ m' ∈ l1 ++ l2, m'.a ≠ m.a := fun m' hm' e => by
    rw [List.map_append, List.map_cons] at ndm
    have hp := (List.perm_middle (a := m.a) (l₁ := l1.map (·.a)) (l₂ := l2.map (·.a))).nodup_iff.mp ndm
    refine (List.nodup_cons.mp hp).1 ?_
    rw [← List.map_append]
    exact e ▸ List.mem_map_of_mem hm'
  refine
    { glo := F.glo.sameBut hs o1 o2 o3, kind := F.kind, gl := F.gl, bl := F.bl, out := eFB ▸ F.out, nd := eFB ▸ F.nd, fresh := eFB ▸ F.fresh
      live := fun b hb => live_same hs hda' (F.live b (eFB ▸ hb)), liveZ := fun b hb => live_same hs hda' (F.liveZ b hb)
      loc := let ⟨m, hm⟩ := F.loc; ⟨m, hm.sameBut hs (F.loc_ne_m hmm)⟩
      cel := fun c hc => let ⟨v, o, ho, hcd⟩ := F.cel c hc; ⟨v, o, hs.extBut _ _ (F.cell_ne_m hc hmm) ho, hcd⟩
      var := fun e he => by
        obtain ⟨u, n, r⟩ := F.var e he
        rw [eFB]
        exact ⟨u, hn _ _ n, r.chg hch'⟩
      mts := ?_
      base := F.base.shrink (s' := { s with heap := h', toks := tk }) ⟨rfl, rfl, rfl, hch⟩ F.fresh }
  intro m' hm'
  rw [eFB]
  have old : ∀ m' ∈ l1 ++ l2, NameIs h' env m'.x (.ref m'.a) ∧ ∃ vs, h'.PlainList m'.a vs.toArray ∧ Paired (Rd m'.R (FB env (l1 ++ m :: l2) X ++ Z) h') vs m'.xs := fun m' q => by
    have q' : m' ∈ l1 ++ m :: l2 := by
      rcases List.mem_append.mp q with q | q
      · exact List.mem_append_left _ q
      · exact List.mem_append_right _ (List.mem_cons_of_mem _ q)
    obtain ⟨n, vs, hl, hp⟩ := F.mts m' q'
    exact ⟨hn _ _ n, vs, hl.at fun o e => hs.extBut _ o (hne m' q) e, paired_rd hp hch'⟩
  rcases List.mem_append.mp hm' with q | q
  · exact old m' (List.mem_append_left _ q)
  · rcases List.mem_cons.mp q with rfl | q
    · exact ⟨hn _ _ (F.mts m hmm).1, vs', hl', paired_rd hp' hch'⟩
    · exact old m' (List.mem_append_right _ q)
end
end Mine

namespace Mine

section
variable {prog : Program} {w : World} {A : Around} {E : Value → Shared → Prop} {Q : Flow → Shared → Prop} {sb s : Shared} {Bb : List Addr} {mg mb : Str → Option Value} {env : Env} {vars : List Var} {ms : List MVar} {X Z : List Addr}
variable {α β γ : Type} {R : Rep α} {S : Rep β}

theorem Fx.rdOf {v : Value} {x : α} {s₁ : Shared} (F : Fx sb Bb mg mb env vars ms X Z s) (f : Frsh R s.heap s₁.heap v x) : Rd R (FB env ms X ++ Z) s₁.heap v x :=
  Rd.of_frsh f fun b hb => by
    rcases List.mem_append.mp hb with q | q
    · exact F.live b q
    · exact F.liveZ b q

/-- x = e -/
theorem x_assign {x : Str} {px pos : Pos} {e : Expr} {rest : List Stmt} {val : α} (F : Fx sb Bb mg mb env vars ms X Z s) (he : EvF prog w A mg mb env (vars ++ ms.map MVar.var) e R val)
    (hk : CanStore env x) (hv : (vars.all fun e => e.x != x) = true) (hm : (ms.all fun m => m.x != x) = true) (hs : swapsWith e (some (.Name x px)) pos.line env = pure false)
    (k : ∀ s', Fx sb Bb mg mb env (⟨x, α, R, val⟩ :: vars) ms X Z s' → wpAny (model prog w) A (execs rest env) Q E s') : wpAny (model prog w) A (execs (.Assign [.Name x px] e pos :: rest) env) Q E s :=
  wpAny_execs_cons (wpAny_Assign_Name (wpAny_mono (he s E F.cx) (fun _ _ ⟨f, g⟩ => (F.grow g).store hk (F.rdOf f) hv hm fun s' F' _ _ => k s' F') fun _ _ q => q) hs)

/-- x = e, e a display that may turn -/
theorem x_new {x : Str} {px pos : Pos} {e : Expr} {rest : List Stmt} (R : Rep α) (F : Fx sb Bb mg mb env vars ms X Z s)
    (he : ∀ E, wpAny (model prog w) A (eval e env) (fun v s' => ∃ a, v = .ref a ∧ s.heap.get? a = none ∧ s'.heap.PlainList a #[] ∧ Grows s s') E s)
    (hk : CanStore env x) (hv : (vars.all fun e => e.x != x) = true) (hm : (ms.all fun m => m.x != x) = true) (hs : swapsWith e (some (.Name x px)) pos.line env = pure false)
    (k : ∀ a s', s.heap.get? a = none → Fx sb Bb mg mb env vars (⟨x, a, α, R, []⟩ :: ms) X Z s' → wpAny (model prog w) A (execs rest env) Q E s') : wpAny (model prog w) A (execs (.Assign [.Name x px] e pos :: rest) env) Q E s := by
  refine wpAny_execs_cons (wpAny_Assign_Name (wpAny_mono (he E) (fun v s₁ ⟨a, e, hn, hl, g⟩ => ?_) fun _ _ q => q) hs)
  subst e
  have hla : (s₁.heap.get? a).isSome = true := by obtain ⟨n, ho⟩ := hl; rw [ho]; rfl
  have F₁ := F.widen g hn hla
  refine F₁.store (R := RVal) (val := .ref a) hk (fun _ _ => rfl) hv hm fun s' F' n c => ?_
  have hla' : s'.heap.PlainList a ([] : List Value).toArray := hl.at fun o e => c _ o (fun hm => by
    rcases List.mem_cons.mp hm with q | q
    · exact F₁.loc_ne_x List.mem_cons_self q.symm
    · exact F₁.cell_ne_x q List.mem_cons_self rfl) e
  exact k a s' hn ((F'.weak fun _ he => List.mem_cons_of_mem _ he).promote n hla' .nil)

theorem x_expr_skip {e : Expr} {pos : Pos} {rest : List Stmt} (h : wpAny (model prog w) A (exec (.Expr e pos) env) (fun f s' => f = .next ∧ wpAny (model prog w) A (execs rest env) Q E s') E s) :
    wpAny (model prog w) A (execs (.Expr e pos :: rest) env) Q E s :=
  wpAny_execs_cons (wpAny_mono h (fun f s' ⟨e, h⟩ => by subst e; exact h) fun _ _ q => q)

theorem Fx.name_m {m : MVar} (F : Fx sb Bb mg mb env vars ms X Z s) (h : m ∈ ms) : NameIs s.heap env m.x (.ref m.a) := (F.mts m h).1

/-- xs.append(e) -/
theorem x_append {l1 l2 : List MVar} {m : MVar} {po apos pos pos' : Pos} {elt : Expr} {rest : List Stmt} {y : m.α} (F : Fx sb Bb mg mb env vars (l1 ++ m :: l2) X Z s)
    (he : ∀ E, wpAny (model prog w) A (eval elt env) (fun v s' => Frsh m.R s.heap s'.heap v y ∧ Grows s s') E s) (hsz : m.xs.length ≤ sizeLine) (hd : (m.x == ("__debug__" : Str)) = false) (hn : (m.x == ("__classdict__" : Str)) = false)
    (hbase : attributeBase (.Name m.x po) "append" env (eval (.Name m.x po) env) = eval (.Name m.x po) env)
    (hfew : ((backTo pos (starEach [elt] env)).all (fun x => !x.1) && (backToKw pos (keywordEach [] env)).all (fun x => x.1.isSome)
      && decide (([elt] : List Expr).length + ([] : List Keyword).length + (if ([] : List Keyword).isEmpty then 0 else 1) < 30)) = true)
    (hline : (apos.endLine == pos.line) = true)
    (htrees : backTo pos (starEach [elt] env) = [(false, eval elt env)])
    (hi : interactive env = false) (hs : swapsWith (.Call (.Attribute (.Name m.x po) "append" apos) [elt] [] pos) none pos'.line env = pure false)
    (k : ∀ s', Fx sb Bb mg mb env vars (l1 ++ ⟨m.x, m.a, m.α, m.R, m.xs ++ [y]⟩ :: l2) X Z s' → Chg [m.a] s.heap s'.heap → wpAny (model prog w) A (execs rest env) Q E s') :
    wpAny (model prog w) A (execs (.Expr (.Call (.Attribute (.Name m.x po) "append" apos) [elt] [] pos) pos' :: rest) env) Q E s := by
  have hmm : m ∈ l1 ++ m :: l2 := List.mem_append_right _ List.mem_cons_self
  refine x_expr_skip (wpAny_Expr (wpAny_Call_append hbase hfew hline htrees ?_) hi hs)
  refine wpAny_Name (loadName_any F.kind (F.name_m hmm) ?_ hn) hd
  obtain ⟨_, vs, ⟨n, hl⟩, hp⟩ := F.mts m hmm
  refine ⟨m.a, vs.toArray, rfl, ⟨_, n, hl, rfl, rfl, rfl⟩, ?_⟩
  refine wpAny_mono (he E) (fun v s₁ ⟨f, g⟩ => ?_) fun _ _ q => q
  have F₁ := F.grow g
  have hl₁ : s₁.heap.PlainList m.a vs.toArray := ⟨n, g.up _ _ hl⟩
  refine wpAny_list_append_plain hl₁ (fun h₂ hl₂ hs₂ => ⟨rfl, k _ (F₁.setM (tk := s₁.toks) (vs' := vs ++ [v]) hs₂ (by simpa using hl₂) ?_) ((Chg.of_up g.up).trans (Chg.of_same hs₂ List.mem_cons_self))⟩) (by rw [List.size_toArray, paired_length hp]; exact hsz)
  exact paired_append (paired_rd hp (Chg.of_up g.up)) (.cons (F.rdOf f) .nil)

/-- for x in range(..) -/
theorem x_for {x : Str} {px pos : Pos} {iter : Expr} {body rest : List Stmt} {a b : Int} (vs : Nat → List Var) (mss : Nat → List MVar) (J : Nat → Heap → Prop) (hh : A.handled = none)
    (F : Fx sb Bb mg mb env (vs 0) (mss 0) X Z s) (h1 : -1000000 ≤ a) (h2 : a ≤ 1000000) (h3 : -1000000 ≤ b) (h4 : b ≤ 1000000)
    (he : ∀ E, wpAny (model prog w) A (eval iter env) (fun v s' => RRange.r s'.heap v (a, b) ∧ Grows s s') E s)
    (hk : CanStore env x) (hv : ∀ i, ((vs i).all fun e => e.x != x) = true) (hm : ∀ i, ((mss i).all fun m => m.x != x) = true)
    (hF : ∀ i, (mss i).map (·.a) = (mss 0).map (·.a))
    (hJ : ∀ i h h', J i h → (∀ b ∈ X, ∀ o, h.get? b = some o → h'.get? b = some o) → J i h') (J0 : J 0 s.heap)
    (turn : ∀ (i : Nat) (Z' : List Addr) (s' : Shared) (E' : Value → Shared → Prop), i < (b - a).toNat → Fx s' (FB env (mss 0) X) mg mb env (⟨x, Int, RInt, a + (i : Int)⟩ :: vs i) (mss i) X Z' s' → J i s'.heap →
      wpAny (model prog w) A (execs body env) (fun f s'' => f = .next ∧ Fx s' (FB env (mss 0) X) mg mb env (vs (i + 1)) (mss (i + 1)) X Z' s'' ∧ J (i + 1) s''.heap) E' s')
    (hs : ∀ v, foldedSetIterable iter env v = pure v) (ht : ∀ it v, letOwnedTupleGo (.Name x px) it v = pure ())
    (k : ∀ s', Fx sb Bb mg mb env (vs (b - a).toNat) (mss (b - a).toNat) X Z s' → J (b - a).toNat s'.heap → wpAny (model prog w) A (execs rest env) Q E s') :
    wpAny (model prog w) A (execs (.For (.Name x px) iter body [] pos :: rest) env) Q E s := by
  refine wpAny_execs_cons (wpAny_For (wpAny_mono (he E) (fun v s₁ ⟨r, g⟩ => ?_) fun _ _ q => q) hs)
  have F₁ := F.grow g
  have J₁ : J 0 s₁.heap := hJ 0 _ _ J0 fun b _ o e => g.up b o e
  refine range_itr hh h1 h2 h3 h4 r fun St h₂ hI st live u => ?_
  generalize hII : s₁.heap.objs.size = I at *
  have hIn : s₁.heap.get? I = none := hII ▸ get?_size _
  obtain ⟨P, W, hP, _⟩ := hI s₁.heap
  have lenE : (rangeL a b).length = (b - a).toNat := rangeL_length a b
  rw [lenE] at W
  have F₂ : Fx sb Bb mg mb env (vs 0) (mss 0) X (I :: Z) { s₁ with heap := h₂ } := F₁.widenZ (s₁ := { s₁ with heap := h₂ }) ⟨h₂, s₁.toks, rfl, u⟩ hIn live
  have eFB : ∀ i, FB env (mss i) X = FB env (mss 0) X := fun i => by unfold FB; rw [hF i]
  have hIF : I ∉ FB env (mss 0) X := fun hm => by have := F₁.live I hm; rw [hIn] at this; cases this
  have hIout : mainGlobals ≠ I ∧ builtinsNs ≠ I ∧ cStatics ≠ I := by
    refine ⟨fun e => ?_, fun e => ?_, fun e => ?_⟩
    · obtain ⟨o, _, _, ho, _⟩ := F₁.glo.g; rw [e, hIn] at ho; cases ho
    · obtain ⟨o, _, _, ho, _⟩ := F₁.glo.b; rw [e, hIn] at ho; cases ho
    · obtain ⟨mc, ⟨o, _, _, ho, _⟩, _⟩ := F₁.glo.nl; rw [e, hIn] at ho; cases ho
  have hIX : I ∉ X := fun hm => hIF (x_fb hm)
  have hIfr : I ∈ Bb ∨ sb.heap.get? I = none := by
    by_cases q : I ∈ Bb
    · exact .inl q
    · exact .inr (stay_live F₁.base q hIn)
  -- a change at I alone
  have chg : ∀ i (t : Shared) (h' : Heap) (tk : Nat) (Z' : List Addr), Fx sb Bb mg mb env (vs i) (mss i) X (I :: Z) t → J i t.heap → (∀ b o, b ∉ [I] → t.heap.get? b = some o → h'.get? b = some o) → (∀ b ∈ Z', b ∈ I :: Z) → (∀ b ∈ Z', b = I → (h'.get? I).isSome = true) →
      Fx sb Bb mg mb env (vs i) (mss i) X Z' { t with heap := h', toks := tk } ∧ J i h' := fun i t h' tk Z' Ft Jt hc hz hl =>
    ⟨Ft.chgZ (s' := { t with heap := h', toks := tk }) List.mem_cons_self hz (by rw [eFB i]; exact hIF) hIout hIfr ⟨rfl, rfl, rfl, hc⟩ hl,
     hJ i _ _ Jt fun b hb o e => hc b o (fun hm => hIX (List.mem_singleton.mp hm ▸ hb)) e⟩
  refine codeAny_forLoop (fun n t => ∃ i, n = (b - a).toNat - i ∧ i ≤ (b - a).toNat ∧ Fx sb Bb mg mb env (vs i) (mss i) X (I :: Z) t ∧ J i t.heap ∧ St i t.heap) ?_ (b - a).toNat
    ⟨0, by simp, Nat.zero_le _, F₂, hJ 0 _ _ J₁ fun b _ o e => u b o e, st⟩ (ht _)
  rintro n t ⟨i, rfl, hi, Ft, Jt, stt⟩
  have lI : (t.heap.get? I).isSome = true := Ft.liveZ I List.mem_cons_self
  rcases Nat.lt_or_ge i (b - a).toNat with hlt | hge
  · refine W.item i t _ _ hlt stt fun v h' tk hPv st' hc => ?_
    obtain ⟨xi, hxi, tv, rfl⟩ := hP i v hPv
    rw [rangeL_get hlt] at hxi
    cases hxi
    have lI' : (h'.get? I).isSome = true := (hI s₁.heap).elim fun P' q => q.2.2 _ _ st'
    obtain ⟨Ft', Jt'⟩ := chg i t h' tk (I :: Z) Ft Jt hc (fun _ h => h) fun _ _ _ => lI'
    refine wpAny_assign_Name (Fx.store Ft' hk (Rd.flat flat_int ⟨tv, rfl⟩) (hv i) (hm i) fun s₃ F₃ _ c₃ => ?_)
    have hIlc : I ∉ env.locals :: env.cells.map (·.2) := fun hm => by
      rcases List.mem_cons.mp hm with q | q
      · exact hIF (q ▸ loc_fb)
      · exact hIF (cells_fb q)
    have hXlc : ∀ b ∈ X, b ∉ env.locals :: env.cells.map (·.2) := fun b hb hm => by
      rcases List.mem_cons.mp hm with q | q
      · exact Ft'.loc_ne_x hb q.symm
      · exact Ft'.cell_ne_x q hb rfl
    have J₃ : J i s₃.heap := hJ i _ _ Jt' fun b hb o e => c₃ b o (hXlc b hb) e
    have st₃ : St (i + 1) s₃.heap := W.frame _ _ _ st' fun b hb o e => c₃ b o (by rw [List.mem_singleton.mp hb]; exact hIlc) e
    refine wpAny_mono (turn i (I :: Z) s₃ _ hlt (eFB i ▸ F₃.rebase) J₃) (fun f s₄ ⟨ef, F₄, J₄⟩ => ?_) fun _ _ q => q
    subst ef
    refine ⟨(b - a).toNat - (i + 1), by omega, i + 1, rfl, hlt, Fx.unbase F₃.base (eFB i ▸ F₃.fresh) F₄, J₄, ?_⟩
    exact W.frame _ _ _ st₃ fun b hb o e => F₄.base.2.2.2 b o (by rw [List.mem_singleton.mp hb]; exact hIF) e
  · have : i = (b - a).toNat := Nat.le_antisymm hi hge
    subst this
    refine W.done t _ _ stt fun h' tk hc => ?_
    obtain ⟨Ft', Jt'⟩ := chg _ t h' tk Z Ft Jt hc (fun _ h => List.mem_cons_of_mem _ h) fun b hb e => by
      have := F₁.liveZ b hb
      rw [e, hIn] at this
      cases this
    exact wpAny_execs_nil (k _ Ft' Jt')
end
end Mine

namespace Mine

/-- a plain def of the text, as the heap holds it -/
def FnAt (h : Heap) (fa : Addr) (name : Str) (params : Arguments) (body : List Stmt) (scope : Scope) : Prop :=
  ∃ o pm cd doc, h.get? fa = some o ∧ o.data = .func (Calls.docDef name params body scope pm cd doc) ∧ h.CodeRec cd name
theorem FnAt.up {h h' : Heap} {fa : Addr} {name : Str} {params : Arguments} {body : List Stmt} {scope : Scope} (u : Up h h') (f : FnAt h fa name params body scope) : FnAt h' fa name params body scope :=
  let ⟨o, pm, cd, doc, ho, hd, hc⟩ := f; ⟨o, pm, cd, doc, u _ _ ho, hd, hc.keeps u⟩

theorem bindL_other {kindOf : Str → Option NameKind} {x : Str} : ∀ (binds : List (Str × Value)) (m : Str → Option Value), x ∉ binds.map (·.1) → bindL kindOf binds m x = m x
  | [], _, _ => rfl
  | (n, v) :: r, m, h => by
    simp only [List.map_cons, List.mem_cons, not_or] at h
    unfold bindL
    rw [bindL_other r _ h.2]
    split
    · exact if_neg h.1
    · rfl
theorem bindL_get {kindOf : Str → Option NameKind} {x : Str} {v : Value} : ∀ (binds : List (Str × Value)) (m : Str → Option Value), (∀ y ∈ binds, kindOf y.1 = some .local) → (binds.map (·.1)).Nodup → (x, v) ∈ binds → bindL kindOf binds m x = some v
  | [], _, _, _, h => by simp at h
  | (n, u) :: r, m, hk, nd, h => by
    rw [List.map_cons, List.nodup_cons] at nd
    unfold bindL
    rcases List.mem_cons.mp h with e | h
    · cases e
      rw [bindL_other r _ nd.1, if_pos (hk (x, v) List.mem_cons_self)]
      simp
    · exact bindL_get r _ (fun y hy => hk y (List.mem_cons_of_mem _ hy)) nd.2 h

theorem cellsFrom_names : ∀ (names : List (Str × NameKind)) (n m : Nat) (acc acc' : List (Str × Addr)), acc.map (·.1) = acc'.map (·.1) → (cellsFrom n names acc).map (·.1) = (cellsFrom m names acc').map (·.1)
  | [], _, _, _, _, h => h
  | (name, kind) :: r, n, m, acc, acc', h => by
    unfold cellsFrom
    split
    · exact cellsFrom_names r _ _ _ _ (by simp [h])
    · exact cellsFrom_names r _ _ _ _ h
theorem lookup_of_mem : ∀ {l : List (Str × Addr)} {x : Str} {c : Addr}, (l.map (·.1)).Nodup → (x, c) ∈ l → l.lookup x = some c
  | (k, v) :: r, x, c, nd, h => by
    rw [List.map_cons, List.nodup_cons] at nd
    rw [List.lookup_cons]
    rcases List.mem_cons.mp h with e | h
    · cases e; simp
    · have : ¬ x = k := fun e => nd.1 (e ▸ List.mem_map_of_mem (f := (·.1)) h)
      have e : (x == k) = false := by simpa using this
      rw [e]
      exact lookup_of_mem nd.2 h

section
variable {prog : Program} {w : World} {A : Around} {E : Value → Shared → Prop} {s : Shared} {mg mb : Str → Option Value}

/-- a frame is opened -/
theorem enter_frame {scope : Scope} {binds : List (Str × Value)} {vars : List Var} {X : List Addr} {qual : Str} {func : Option Addr} {code : Value} {Q : Env → Shared → Prop} (Gl : Glo mg mb s.heap) (hk : scope.kind = .function)
    (hkind : ∀ x ∈ binds, scope.names.lookup x.1 = some .local) (hnb : (binds.map (·.1)).Nodup) (hnd : ((cellsFrom 0 scope.names []).map (·.1)).Nodup)
    (hXn : X.Nodup) (hXl : ∀ b ∈ X, (s.heap.get? b).isSome = true) (hXo : mainGlobals ∉ X ∧ builtinsNs ∉ X ∧ cStatics ∉ X)
    (hv : ∀ e ∈ vars, ∃ v, (e.x, v) ∈ binds ∧ Rd e.R X s.heap v e.val)
    (k : ∀ env s', env = newEnv scope s.heap.objs.size mainGlobals (cellsFrom (s.heap.objs.size + 1) scope.names []) qual func code none builtinsNs → Fx s X mg mb env vars [] X [] s' → Up s.heap s'.heap → Q env s') :
    wpAny (model prog w) A (newFunctionEnv scope mainGlobals [] binds qual func code none builtinsNs) Q E s := by
  refine wpAny_newFunctionEnv_cells hk (fun x hx => .inl (hkind x hx)) fun env he s' I => ?_
  have hL : env.locals = s.heap.objs.size := by rw [he]; rfl
  have hsc : env.scope = scope := by rw [he]; rfl
  have hcells : env.cells = cellsFrom (s.heap.objs.size + 1) scope.names [] := by rw [he]; rfl
  have hkl : ∀ y ∈ binds, env.kindOf y.1 = some .local := fun y hy => by
    show env.scope.names.lookup y.1 = _
    rw [hsc]; exact hkind y hy
  obtain ⟨h', tk, e, keep⟩ := I.done
  have up : Up s.heap s'.heap := by rw [e]; exact keep
  have g : Grows s s' := ⟨h', tk, e, keep⟩
  refine k env s' he ?_ up
  have lL : s.heap.get? env.locals = none := by rw [hL]; exact get?_size _
  have ndn : (env.cells.map (·.1)).Nodup := by
    rw [hcells, cellsFrom_names scope.names (s.heap.objs.size + 1) 0 [] [] rfl]; exact hnd
  have hcm : ∀ c ∈ env.cells.map (·.2), env.locals < c ∧ ∃ v, s'.heap.IsCell c v := fun c hc => by
    obtain ⟨⟨n, c'⟩, hm, rfl⟩ := List.mem_map.mp hc
    exact ⟨I.above n c' hm, _, I.cell n c' (lookup_of_mem ndn hm)⟩
  have hcn : ∀ c ∈ env.cells.map (·.2), s.heap.get? c = none := fun c hc => by
    cases q : s.heap.get? c with
    | none => rfl
    | some o =>
      have h1 := Heap.lt_size q
      have h2 := (hcm c hc).1
      rw [hL] at h2
      exact absurd (Nat.lt_trans h1 h2) (Nat.lt_irrefl _)
  have fbE : FB env [] X = env.locals :: (env.cells.map (·.2) ++ X) := rfl
  have mem : ∀ b, b ∈ FB env [] X → (s.heap.get? b = none ∧ (b = env.locals ∨ b ∈ env.cells.map (·.2))) ∨ b ∈ X := fun b hb => by
    rw [fbE] at hb
    rcases List.mem_cons.mp hb with q | q
    · exact .inl ⟨q ▸ lL, .inl q⟩
    · rcases List.mem_append.mp q with q | q
      · exact .inl ⟨hcn b q, .inr q⟩
      · exact .inr q
  have old : ∀ {d o}, s.heap.get? d = some o → d ∉ X → d ∉ FB env [] X := fun ho hx hm => by
    rcases mem _ hm with ⟨q, _⟩ | q
    · rw [ho] at q; cases q
    · exact hx q
  exact
    { glo := Gl.up up, kind := by rw [hsc]; exact hk, gl := by rw [he]; rfl, bl := by rw [he]; rfl
      out := by
        refine ⟨?_, ?_, ?_⟩
        · obtain ⟨o, _, _, ho, _⟩ := Gl.g; exact old ho hXo.1
        · obtain ⟨o, _, _, ho, _⟩ := Gl.b; exact old ho hXo.2.1
        · obtain ⟨mc, ⟨o, _, _, ho, _⟩, _⟩ := Gl.nl; exact old ho hXo.2.2
      nd := by
        rw [fbE]
        refine List.nodup_cons.mpr ⟨fun hm => ?_, List.nodup_append.mpr ⟨?_, hXn, fun a ha b hb e => ?_⟩⟩
        · rcases List.mem_append.mp hm with q | q
          · exact Nat.lt_irrefl _ (hcm _ q).1
          · have := hXl _ q; rw [lL] at this; cases this
        · exact List.pairwise_map.mpr I.apart
        · have := hXl b hb; rw [← e, hcn a ha] at this; cases this
      live := fun b hb => by
        rcases mem b hb with ⟨_, q | q⟩ | q
        · obtain ⟨o, _, _, ho, _⟩ := I.toInCall.ns; rw [q, ho]; rfl
        · obtain ⟨_, _, o, ho, _⟩ := hcm b q; rw [ho]; rfl
        · exact up.dom b (hXl b q)
      loc := ⟨_, I.toInCall.ns⟩
      cel := fun c hc => (hcm c hc).2
      liveZ := fun b hb => by simp at hb
      var := fun e' he' => by
        obtain ⟨v, hm, r⟩ := hv e' he'
        refine ⟨v, .inl ⟨hkl _ hm, _, I.toInCall.ns, bindL_get binds _ hkl hnb hm⟩, r.widen (fun b hb => ?_) up⟩
        rw [List.append_nil] at hb
        rcases mem b hb with ⟨q, _⟩ | q
        · exact .inr q
        · exact .inl q
      mts := fun m hm => by simp at hm
      base := Stay.of_grows g
      fresh := fun b hb => by
        rcases mem b hb with ⟨q, _⟩ | q
        · exact .inr q
        · exact .inl q }

/-- a call of a def, its body walked in wpG -/
theorem callG {fa : Addr} {name : Str} {params : Arguments} {body : List Stmt} {scope : Scope} {vals : List Value} {binds : List (Str × Value)} {vars : List Var} {X : List Addr} {Q : Value → Shared → Prop}
    (f : FnAt s.heap fa name params body scope) (hroom : A.depth < recursionLimit) (hco : scope.isCoroutine = false) (hgen : scope.isGenerator = false)
    (hb : ∀ pm cd doc, bindArgs (Calls.docDef name params body scope pm cd doc) ⟨vals, []⟩ = pure binds) (Gl : Glo mg mb s.heap) (hk : scope.kind = .function)
    (hkind : ∀ x ∈ binds, scope.names.lookup x.1 = some .local) (hnb : (binds.map (·.1)).Nodup) (hnd : ((cellsFrom 0 scope.names []).map (·.1)).Nodup)
    (hXn : X.Nodup) (hXl : ∀ b ∈ X, (s.heap.get? b).isSome = true) (hXo : mainGlobals ∉ X ∧ builtinsNs ∉ X ∧ cStatics ∉ X)
    (hv : ∀ e ∈ vars, ∃ v, (e.x, v) ∈ binds ∧ Rd e.R X s.heap v e.val)
    (k : ∀ L code s', Fx s X mg mb (newEnv scope L mainGlobals (cellsFrom (L + 1) scope.names []) (name ++ ".<locals>.") (some fa) code none builtinsNs) vars [] X [] s' → Up s.heap s'.heap →
      wpG (model prog w) (A.deeper (newEnv scope L mainGlobals (cellsFrom (L + 1) scope.names []) (name ++ ".<locals>.") (some fa) code none builtinsNs))
        (execs body (newEnv scope L mainGlobals (cellsFrom (L + 1) scope.names []) (name ++ ".<locals>.") (some fa) code none builtinsNs)) (fun fl s'' => Q (match fl with | .ret v => v | _ => .none) s'') (fun _ _ => False) s') :
    wpG (model prog w) A (call (.ref fa) vals) Q E s := by
  obtain ⟨o, pm, cd, doc, ho, hd, hcd⟩ := f
  refine wpG_call (codeG_call_function (fd := Calls.docDef name params body scope pm cd doc) hroom ho hd hco hgen rfl hcd ?_)
  rw [hb]
  refine wpAny_pure ?_
  refine enter_frame (vars := vars) (X := X) Gl hk hkind hnb hnd hXn hXl hXo hv fun env s' he F u => ?_
  refine ⟨F.glo.nl, codeG_func ?_⟩
  subst he
  exact k _ _ _ F u

theorem callA {fa : Addr} {name : Str} {params : Arguments} {body : List Stmt} {scope : Scope} {vals : List Value} {binds : List (Str × Value)} {vars : List Var} {X : List Addr} {Q : Value → Shared → Prop}
    (f : FnAt s.heap fa name params body scope) (hroom : A.depth < recursionLimit) (hco : scope.isCoroutine = false) (hgen : scope.isGenerator = false)
    (hb : ∀ pm cd doc, bindArgs (Calls.docDef name params body scope pm cd doc) ⟨vals, []⟩ = pure binds) (Gl : Glo mg mb s.heap) (hk : scope.kind = .function)
    (hkind : ∀ x ∈ binds, scope.names.lookup x.1 = some .local) (hnb : (binds.map (·.1)).Nodup) (hnd : ((cellsFrom 0 scope.names []).map (·.1)).Nodup)
    (hXn : X.Nodup) (hXl : ∀ b ∈ X, (s.heap.get? b).isSome = true) (hXo : mainGlobals ∉ X ∧ builtinsNs ∉ X ∧ cStatics ∉ X)
    (hv : ∀ e ∈ vars, ∃ v, (e.x, v) ∈ binds ∧ Rd e.R X s.heap v e.val)
    (k : ∀ L code s' E', Fx s X mg mb (newEnv scope L mainGlobals (cellsFrom (L + 1) scope.names []) (name ++ ".<locals>.") (some fa) code none builtinsNs) vars [] X [] s' → Up s.heap s'.heap →
      wpAny (model prog w) (A.deeper (newEnv scope L mainGlobals (cellsFrom (L + 1) scope.names []) (name ++ ".<locals>.") (some fa) code none builtinsNs))
        (execs body (newEnv scope L mainGlobals (cellsFrom (L + 1) scope.names []) (name ++ ".<locals>.") (some fa) code none builtinsNs)) (fun fl s'' => Q (match fl with | .ret v => v | _ => .none) s'') E' s') :
    wpAny (model prog w) A (call (.ref fa) vals) Q E s := by
  obtain ⟨o, pm, cd, doc, ho, hd, hcd⟩ := f
  refine wpAny_call (codeAny_call_function (fd := Calls.docDef name params body scope pm cd doc) hroom ho hd hco hgen rfl hcd ?_)
  rw [hb]
  refine wpAny_pure ?_
  refine enter_frame (vars := vars) (X := X) Gl hk hkind hnb hnd hXn hXl hXo hv fun env s' he F u => ?_
  refine ⟨F.glo.nl, codeAny_func ?_⟩
  subst he
  exact k _ _ _ _ F u
end
end Mine

namespace Mine

theorem band255 {x : Int} (h : 0 ≤ x) : Builtin.bitAnd x 255 = x % 256 := by
  rw [bitAnd_pp h (by decide)]
  obtain ⟨n, rfl⟩ := Int.eq_ofNat_of_zero_le h
  have : (Int.toNat (n : Int)) &&& (Int.toNat 255) = n % 256 := Nat.and_two_pow_sub_one_eq_mod n 8
  rw [this]
  rfl

section
variable {prog : Program} {w : World} {A : Around} {E : Value → Shared → Prop} {Q : Flow → Shared → Prop} {sb s : Shared} {Bb : List Addr} {mg mb : Str → Option Value} {env : Env} {vars : List Var} {ms : List MVar} {X Z : List Addr}
variable {α β γ : Type} {R : Rep α} {S : Rep β}

theorem Cx.add {h : Heap} {x : Str} {v : Value} {val : α} (c : Cx mg mb env vars h) (n : NameIs h env x v) (r : R.r h v val) : Cx mg mb env (⟨x, α, R, val⟩ :: vars) h :=
  ⟨c.glo, c.kind, c.gl, c.bl, c.loc, fun e he => by
    rcases List.mem_cons.mp he with rfl | he
    · exact ⟨v, n, r⟩
    · exact c.var e he⟩

theorem Ev.baItem {a b : Expr} {pos : Pos} {ba : Array UInt8} {k : Int} {x : UInt8} (ha : Ev prog w A mg mb env vars a RBA ba) (hb : Ev prog w A mg mb env vars b RInt k) (h0 : 0 ≤ k) (h1 : k < 2 ^ 63) (hx : ba[k.toNat]? = some x)
    (hs : ∀ o i, subscripted b false o i = operate [o, i] (getItem o i)) : Ev prog w A mg mb env vars (.Subscript a b pos) RInt (x.toNat : Int) := fun s E c => by
  refine Subscript_ (ev2 ha hb c ?_)
  rintro _ _ s' ⟨l, rfl, hl⟩ ⟨u, rfl⟩ g
  unfold subscriptTail
  refine wpAny_bind ?_
  have hT : s'.TypeIs (.ref l) "bytearray" := BA.typeIs hl
  rw [getitemInPython_of_ne hT.not_modules]
  refine wpAny_bind (wpAny_specialOf hT BF.slot_get.lookup ?_)
  refine wpAny_pure ?_
  rw [hs]
  exact wpAny_bind (wpAny_operating (getItem_ba hl h0 h1 hx (wpAny_bind (wpAny_letTemporaryGo (wpAny_pure ⟨⟨_, rfl⟩, g.trans ⟨s'.heap, s'.toks + 1, rfl, Up.refl _⟩⟩)))))

theorem Ev.baLen {np pos : Pos} {e : Expr} {ba : Array UInt8} (b : Blt mg mb env "len" (.builtin "len")) (h : Ev prog w A mg mb env vars e RBA ba) (he : starEach [e] env = (false, eval e env) :: starEach [] env) (hz : (ba.size : Int) < 2 ^ 63) :
    Ev prog w A mg mb env vars (.Call (.Name "len" np) [e] [] pos) RInt (ba.size : Int) := fun s E c => by
  refine call1_any b (fun _ q => by cases q) h he c ?_
  rintro _ s' ⟨l, rfl, hl⟩ g
  exact len_ba hl hz ⟨⟨_, rfl⟩, g.trans ⟨s'.heap, _, rfl, Up.refl _⟩⟩

theorem Fx.keepBA {s' : Shared} {rs : Addr} {b : Array UInt8} (G : Fx sb Bb mg mb env vars ms X Z s) (hr : rs ∈ X) (c : Chg (env.locals :: env.cells.map (·.2)) s.heap s'.heap) (h : BA s.heap rs b) : BA s'.heap rs b :=
  let ⟨x, hx⟩ := h
  ⟨x, c _ _ (fun hm => by
    rcases List.mem_cons.mp hm with q | q
    · exact G.loc_ne_x hr q.symm
    · exact G.cell_ne_x q hr rfl) hx⟩
theorem Fx.nameVal {x : Str} {v : Value} (G : Fx sb Bb mg mb env vars ms X Z s) (h : (⟨x, Value, RVal, v⟩ : Var) ∈ vars) : NameIs s.heap env x v := by
  obtain ⟨u, n, r⟩ := G.var _ h
  have : u = v := r.r
  exact this ▸ n
/-- a name that reads as a bytearray now -/
theorem Fx.cxBA {x : Str} {rs : Addr} {b : Array UInt8} (G : Fx sb Bb mg mb env vars ms X Z s) (h : (⟨x, Value, RVal, .ref rs⟩ : Var) ∈ vars) (hb : BA s.heap rs b) : Cx mg mb env (⟨x, Array UInt8, RBA, b⟩ :: (vars ++ ms.map MVar.var)) s.heap :=
  G.cx.add (R := RBA) (G.nameVal h) ⟨rs, rfl, hb⟩

/-- x = e, at this state -/
theorem x_assign' {x : Str} {px pos : Pos} {e : Expr} {rest : List Stmt} {val : α} (F : Fx sb Bb mg mb env vars ms X Z s) (he : ∀ E, wpAny (model prog w) A (eval e env) (fun v s' => Frsh R s.heap s'.heap v val ∧ Grows s s') E s)
    (hk : CanStore env x) (hv : (vars.all fun e => e.x != x) = true) (hm : (ms.all fun m => m.x != x) = true) (hs : swapsWith e (some (.Name x px)) pos.line env = pure false)
    (k : ∀ s', Fx sb Bb mg mb env (⟨x, α, R, val⟩ :: vars) ms X Z s' → Chg (env.locals :: env.cells.map (·.2)) s.heap s'.heap → wpAny (model prog w) A (execs rest env) Q E s') : wpAny (model prog w) A (execs (.Assign [.Name x px] e pos :: rest) env) Q E s :=
  wpAny_execs_cons (wpAny_Assign_Name (wpAny_mono (he E) (fun _ _ ⟨f, g⟩ => (F.grow g).store hk (F.rdOf f) hv hm fun s' F' _ c => k s' F' ((Chg.of_up g.up).trans c)) fun _ _ q => q) hs)

/-- x += e -/
theorem x_aug {x : Str} {px pos : Pos} {e : Expr} {rest : List Stmt} {i d : Int} {vars' : List Var} (F : Fx sb Bb mg mb env vars ms X Z s) (hx : (⟨x, Int, RInt, i⟩ : Var) ∈ vars) (hd : (x == ("__classdict__" : Str)) = false)
    (he : Ev prog w A mg mb env (vars ++ ms.map MVar.var) e RInt d) (hk : CanStore env x) (hv' : ∀ e ∈ vars', e ∈ vars) (hv : (vars'.all fun e => e.x != x) = true) (hm : (ms.all fun m => m.x != x) = true)
    (k : ∀ s', Fx sb Bb mg mb env (⟨x, Int, RInt, i + d⟩ :: vars') ms X Z s' → Chg (env.locals :: env.cells.map (·.2)) s.heap s'.heap → wpAny (model prog w) A (execs rest env) Q E s') : wpAny (model prog w) A (execs (.AugAssign (.Name x px) .Add e pos :: rest) env) Q E s := by
  refine wpAny_execs_cons (wpAny_AugAssign_Name ?_)
  obtain ⟨v, n, r⟩ := F.var _ hx
  obtain ⟨t, e1⟩ := r.r
  subst e1
  refine loadName_any F.kind n ?_ hd
  refine wpAny_mono (he s E F.cx) (fun u s₁ ⟨⟨t', e1⟩, g⟩ => ?_) fun _ _ q => q
  subst e1
  refine PySem.AutoIntOps.iadd_0 ?_
  have F₁ := (F.grow (g.trans ⟨s₁.heap, s₁.toks + 1, rfl, Up.refl _⟩)).weak hv'
  exact F₁.store hk (Rd.flat flat_int ⟨_, rfl⟩) hv hm fun s' F' _ c => k s' F' ((Chg.of_up g.up).trans c)

/-- if -/
theorem x_if {test : Expr} {body orelse : List Stmt} {pos : Pos} {rest : List Stmt} {b : Bool} (F : Fx sb Bb mg mb env vars ms X Z s) (ht : EvB prog w A mg mb env (vars ++ ms.map MVar.var) test b)
    (h : ∀ s', Fx sb Bb mg mb env vars ms X Z s' → Up s.heap s'.heap → wpAny (model prog w) A (execs (if b = true then body else orelse) env) (fun f s'' => match f with | .next => wpAny (model prog w) A (execs rest env) Q E s'' | f => Q f s'') E s') :
    wpAny (model prog w) A (execs (.If test body orelse pos :: rest) env) Q E s := by
  refine wpAny_execs_cons (wpAny_If (wpAny_mono (ht s E F.cx) (fun r s₁ ⟨e, g⟩ => ?_) fun _ _ q => q))
  subst e
  have := h s₁ (F.grow g) g.up
  cases r <;> exact this

/-- b[i] = e -/
theorem x_set {o i : Expr} {pos' pos : Pos} {e : Expr} {rest : List Stmt} {rs : Addr} {ba : Array UInt8} {k v : Int} (F : Fx sb Bb mg mb env vars ms X Z s) (hr : rs ∈ X) (hb : BA s.heap rs ba)
    (he : Ev prog w A mg mb env (vars ++ ms.map MVar.var) e RInt v) (ho : Ev prog w A mg mb env (vars ++ ms.map MVar.var) o RVal (.ref rs)) (hi : Ev prog w A mg mb env (vars ++ ms.map MVar.var) i RInt k)
    (h0 : 0 ≤ k) (hn : k < ba.size) (hz : ba.size ≤ 1000000) (hv : 0 ≤ v ∧ v < 256) (hs : swapsWith e (some (.Subscript o i pos')) pos.line env = pure false)
    (kk : ∀ s', Fx sb Bb mg mb env vars ms X Z s' → BA s'.heap rs (ba.setIfInBounds k.toNat v.toNat.toUInt8) → wpAny (model prog w) A (execs rest env) Q E s') :
    wpAny (model prog w) A (execs (.Assign [.Subscript o i pos'] e pos :: rest) env) Q E s := by
  refine wpAny_execs_cons (wpAny_Assign_Subscript (wpAny_mono (he s E F.cx) (fun u s₁ ⟨⟨t, e1⟩, g₁⟩ => ?_) fun _ _ q => q) hs)
  subst e1
  have F₁ := F.grow g₁
  refine ev2 ho hi F₁.cx ?_
  rintro _ _ s₂ rfl ⟨t', rfl⟩ g₂
  have F₂ := F₁.grow g₂
  obtain ⟨x, hx⟩ := hb
  refine setItem_ba (b := ba) ⟨x, g₂.up _ _ (g₁.up _ _ hx)⟩ h0 hn (by simp [sizeLine]; omega) (by omega) hv fun h' hb' hs' => ?_
  exact kk _ (F₂.chgX (s' := { s₂ with heap := h' }) (d := [rs]) (fun a ha => by rw [List.mem_singleton.mp ha]; exact hr) ⟨rfl, rfl, rfl, Chg.of_same hs' List.mem_cons_self⟩ fun a ha => by
    rw [List.mem_singleton.mp ha]; obtain ⟨y, hy⟩ := hb'; rw [hy]; rfl) hb'

/-- if, its branches joined -/
theorem x_ifJ {test : Expr} {body orelse : List Stmt} {pos : Pos} {rest : List Stmt} {b : Bool} (P : Shared → Prop) (F : Fx sb Bb mg mb env vars ms X Z s) (ht : EvB prog w A mg mb env (vars ++ ms.map MVar.var) test b)
    (h : ∀ s' E', Fx sb Bb mg mb env vars ms X Z s' → Up s.heap s'.heap → wpAny (model prog w) A (execs (if b = true then body else orelse) env) (fun f s'' => f = .next ∧ P s'') E' s')
    (k : ∀ s', P s' → wpAny (model prog w) A (execs rest env) Q E s') :
    wpAny (model prog w) A (execs (.If test body orelse pos :: rest) env) Q E s :=
  x_if F ht fun s' F' u => wpAny_mono (h s' E F' u) (fun f s'' ⟨e, p⟩ => by subst e; exact k s'' p) fun _ _ q => q

/-- x = y = e -/
theorem x_two {x y : Str} {px py pos : Pos} {e : Expr} {rest : List Stmt} {val : α} (F : Fx sb Bb mg mb env vars ms X Z s) (he : ∀ E, wpAny (model prog w) A (eval e env) (fun v s' => Frsh R s.heap s'.heap v val ∧ Grows s s') E s)
    (hkx : CanStore env x) (hky : CanStore env y) (hv : (vars.all fun e => e.x != x) = true) (hm : (ms.all fun m => m.x != x) = true) (hv' : (vars.all fun e => e.x != y) = true) (hm' : (ms.all fun m => m.x != y) = true) (hxy : (x != y) = true)
    (hee : (assignEach [.Name x px, .Name y py] env).map (·.2) = [assign (.Name x px) env, assign (.Name y py) env]) (hw : swappedStores [.Name x px, .Name y py] e env = pure none)
    (k : ∀ s', Fx sb Bb mg mb env (⟨y, α, R, val⟩ :: ⟨x, α, R, val⟩ :: vars) ms X Z s' → Chg (env.locals :: env.cells.map (·.2)) s.heap s'.heap → wpAny (model prog w) A (execs rest env) Q E s') :
    wpAny (model prog w) A (execs (.Assign [.Name x px, .Name y py] e pos :: rest) env) Q E s := by
  refine wpAny_execs_cons (wpAny_Assign_two (wpAny_mono (he E) (fun v s₁ ⟨f, g⟩ => ?_) fun _ _ q => q) hee hw)
  have F₁ := F.grow g
  have rd := F.rdOf f
  refine wpAny_assign_Name (F₁.store hkx rd hv hm fun s₂ F₂ _ c₂ => wpAny_assign_Name ?_)
  have c₂' : Chg (FB env ms X ++ Z) s₁.heap s₂.heap := c₂.mono fun b hb => List.mem_append_left _ (by
    rcases List.mem_cons.mp hb with q | q
    · exact q ▸ loc_fb
    · exact cells_fb q)
  refine F₂.store hky (rd.chg c₂') (by rw [List.all_cons, hv']; simpa using hxy) hm' fun s₃ F₃ _ c₃ => ?_
  exact k s₃ F₃ (((Chg.of_up g.up).trans c₂).trans c₃)
end
end Mine

namespace Mine

def fnOf (p : Program) (n : Nat) : Option (Arguments × List Stmt × Scope) := match p.main.body[n]? with
  | some (.FunctionDef _ a b _ _ _ sc _ _ _) => some (a, b, sc)
  | _ => none
def subT : Arguments × List Stmt × Scope := (fnOf PySem.Challenge.pw_bf5021_01 1).get (by rfl)
def paethT : Arguments × List Stmt × Scope := (fnOf PySem.Challenge.pw_bf5021_01 2).get (by rfl)

def bat (b : Array UInt8) (j : Nat) : Int := ((b[j]?).getD 0).toNat
theorem bat_range (b : Array UInt8) (j : Nat) : 0 ≤ bat b j ∧ bat b j < 256 := by
  have := ((b[j]?).getD 0).toNat_lt
  unfold bat
  omega
theorem bat_get {b : Array UInt8} {j : Nat} (h : j < b.size) : ∃ c, b[j]? = some c ∧ bat b j = (c.toNat : Int) := ⟨b[j], Array.getElem?_eq_getElem h, by simp [bat, h]⟩
theorem bat_set {b : Array UInt8} {j k : Nat} {v : Int} (h : k < b.size) (hv : 0 ≤ v ∧ v < 256) : bat (b.setIfInBounds k v.toNat.toUInt8) j = if j = k then v else bat b j := by
  unfold bat
  rw [Array.getElem?_setIfInBounds]
  by_cases e : k = j
  · subst e
    have hm : v.toNat.toUInt8.toNat = v.toNat % 256 := by simp
    rw [if_pos rfl, if_pos h, if_pos rfl]
    show ((v.toNat.toUInt8).toNat : Int) = v
    rw [hm]; omega
  · rw [if_neg e, if_neg (Ne.symm e)]
theorem BA.ne_ns {h : Heap} {a l : Addr} {b : Array UInt8} {m : Str → Option Value} (x : BA h a b) (n : h.Ns l m) : l ≠ a := fun e => by
  obtain ⟨y, hy⟩ := x
  obtain ⟨o, es, ep, ho, hd, _⟩ := n
  rw [e, hy] at ho
  cases ho
  cases hd
theorem BA.out {mg mb : Str → Option Value} {h : Heap} {a : Addr} {b : Array UInt8} (x : BA h a b) (G : Glo mg mb h) : mainGlobals ∉ [a] ∧ builtinsNs ∉ [a] ∧ cStatics ∉ [a] := by
  obtain ⟨mc, hc, _⟩ := G.nl
  exact ⟨fun h => x.ne_ns G.g (List.mem_singleton.mp h), fun h => x.ne_ns G.b (List.mem_singleton.mp h), fun h => x.ne_ns hc (List.mem_singleton.mp h)⟩
theorem BA.live {h : Heap} {a : Addr} {b : Array UInt8} (x : BA h a b) : (h.get? a).isSome = true := by obtain ⟨y, hy⟩ := x; rw [hy]; rfl
theorem BA.rd {h : Heap} {a : Addr} {b : Array UInt8} {X : List Addr} (x : BA h a b) (hn : a ∉ X) : Rd RBA X h (.ref a) b := fun _ c => let ⟨y, hy⟩ := x; ⟨a, rfl, y, c _ _ hn hy⟩
theorem BA.uniq {h : Heap} {a : Addr} {b c : Array UInt8} (x : BA h a b) (y : BA h a c) : b = c := by
  obtain ⟨_, e⟩ := x
  obtain ⟨_, e'⟩ := y
  rw [e] at e'
  cases e'
  rfl

section
variable {prog : Program} {w : World} {A : Around} {E : Value → Shared → Prop} {s : Shared} {mg mb : Str → Option Value}

theorem sub_walk {fa : Addr} {u n : Nat} {t : Tok} {sc rs : Addr} {pv : Value} {line : Array UInt8} {out : Nat → Int} {Q : Value → Shared → Prop} (hh : A.handled = none) (hroom : A.depth < recursionLimit)
    (f : FnAt s.heap fa "undo_filter_sub" subT.1 subT.2.1 subT.2.2) (Gl : Glo mg mb s.heap) (hmr : mg "range" = none) (hbr : mb "range" = some (.type "range")) (hml : mg "len" = none) (hbl : mb "len" = some (.builtin "len"))
    (hsc : BA s.heap sc line) (hrs : BA s.heap rs line) (hne : sc ≠ rs) (hln : line.size = n) (hn : n ≤ 1000) (hu : u ≤ n)
    (hout : ∀ j, j < n → 0 ≤ out j ∧ out j < 256) (h0 : ∀ j, j < n → j < u → bat line j = out j) (h1 : ∀ j, u ≤ j → j < n → out j = (bat line j + out (j - u)) % 256)
    (hu0 : 0 < u) (hQ : ∀ s' b, Stay [rs] s s' → BA s'.heap rs b → b.size = n → (∀ j, j < n → bat b j = out j) → Q .none s') :
    wpAny (model prog w) A (call (.ref fa) [.int u t, .ref sc, pv, .ref rs]) Q E s := by
  refine callA (vars := [⟨"filter_unit", Int, RInt, (u : Int)⟩, ⟨"scanline", Array UInt8, RBA, line⟩, ⟨"result", Value, RVal, .ref rs⟩]) (X := [rs])
    (binds := [("filter_unit", .int u t), ("scanline", .ref sc), ("previous", pv), ("result", .ref rs)]) f hroom rfl rfl (fun _ _ _ => rfl) Gl rfl ?_ ?_ ?_ (by simp) ?_ (hrs.out Gl) ?_ ?_
  · intro x hx
    simp only [List.mem_cons, List.not_mem_nil, or_false] at hx
    rcases hx with rfl | rfl | rfl | rfl <;> kernel_rfl
  · show (["filter_unit", "scanline", "previous", "result"] : List Str).Nodup
    decide +kernel
  · decide +kernel
  · intro b hb; rw [List.mem_singleton.mp hb]; exact hrs.live
  · intro e he
    simp only [List.mem_cons, List.not_mem_nil, or_false] at he
    rcases he with rfl | rfl | rfl
    · exact ⟨.int u t, by simp, fun _ _ => ⟨t, rfl⟩⟩
    · exact ⟨.ref sc, by simp, hsc.rd (by simpa using hne)⟩
    · exact ⟨.ref rs, by simp, fun _ _ => rfl⟩
  intro L code s₁ E₁ F up
  generalize hA : A.deeper _ = A'
  have hh' : A'.handled = none := by rw [← hA]; exact hh
  have hrs₁ : BA s₁.heap rs line := let ⟨x, hx⟩ := hrs; ⟨x, up _ _ hx⟩
  generalize hE : newEnv _ _ _ _ _ _ _ _ _ = env at *
  have hkr : Blt mg mb env "range" (.type "range") := ⟨by rw [← hE]; kernel_rfl, hmr, hbr, by kernel_rfl⟩
  have hkl : Blt mg mb env "len" (.builtin "len") := ⟨by rw [← hE]; kernel_rfl, hml, hbl, by kernel_rfl⟩
  have kl : ∀ x : Str, subT.2.2.names.lookup x = some .local → CanStore env x := fun x hx => .inl (by rw [← hE]; exact hx)
  refine x_assign' (val := (0 : Int)) (R := RInt) F (fun E => (Ev.int 0).flat flat_int s₁ E F.cx) (kl _ (by kernel_rfl)) (by kernel_rfl) (by kernel_rfl) rfl fun s₂ F₂ c₂ => ?_
  have hrs₂ : BA s₂.heap rs line := F.keepBA (by simp) c₂ hrs₁
  refine x_for (vs := fun i => [⟨"ai", Int, RInt, (i : Int)⟩, ⟨"filter_unit", Int, RInt, (u : Int)⟩, ⟨"scanline", Array UInt8, RBA, line⟩, ⟨"result", Value, RVal, .ref rs⟩]) (mss := fun _ => [])
    (J := fun i h => ∃ b, BA h rs b ∧ b.size = n ∧ ∀ j, j < u + i → j < n → bat b j = out j) (a := (u : Int)) (b := (n : Int)) hh' F₂ (by omega) (by omega) (by omega) (by omega) (fun E => ?_) (kl _ (by kernel_rfl)) (fun i => (by kernel_rfl)) (fun i => (by kernel_rfl)) (fun _ => rfl) ?_ ?_ ?_
    (fun _ => rfl) (fun _ _ => rfl) (fun s' F' J' => ?_)
  · rw [← hln]
    exact Ev.range2 hkr (Ev.var (by repeat (first | exact List.mem_cons_self | apply List.mem_cons_of_mem)) (by kernel_rfl) (by kernel_rfl)) (Ev.baLen hkl (Ev.var (by repeat (first | exact List.mem_cons_self | apply List.mem_cons_of_mem)) (by kernel_rfl) (by kernel_rfl)) rfl (by omega)) rfl s₂ E (F₂.cxBA (by repeat (first | exact List.mem_cons_self | apply List.mem_cons_of_mem)) hrs₂)
  · rintro i h h' ⟨b, ⟨x, hx⟩, r⟩ k
    exact ⟨b, ⟨x, k rs (by simp) _ hx⟩, r⟩
  · exact ⟨line, hrs₂, hln, fun j h1 h2 => h0 j h2 (by omega)⟩
  · rintro i Z' s₃ E' hi F₃ ⟨b, hb, hbn, hbo⟩
    have hi' : u + i < n := by omega
    obtain ⟨c, hc, hc'⟩ := bat_get (b := line) (j := u + i) (by omega)
    obtain ⟨d, hd, hd'⟩ := bat_get (b := b) (j := i) (by omega)
    have e1 : ((u : Int) + (i : Int)).toNat = u + i := by omega
    refine x_assign' (val := bat line (u + i)) (R := RInt) F₃ (fun E => Ev.flat (Ev.conv (Ev.baItem (Ev.var (by repeat (first | exact List.mem_cons_self | apply List.mem_cons_of_mem)) (by kernel_rfl) (by kernel_rfl)) (Ev.var (by repeat (first | exact List.mem_cons_self | apply List.mem_cons_of_mem)) (by kernel_rfl) (by kernel_rfl)) (by omega) (by omega) (by rw [e1]; exact hc) (fun _ _ => rfl)) hc'.symm) flat_int s₃ E F₃.cx) (kl _ (by kernel_rfl)) (by kernel_rfl) (by kernel_rfl) rfl fun s₄ F₄ c₄ => ?_
    have hb₄ : BA s₄.heap rs b := F₃.keepBA (by simp) c₄ hb
    refine x_assign' (val := out i) (R := RInt) F₄ (fun E => Ev.flat (Ev.conv (Ev.baItem (Ev.var (by repeat (first | exact List.mem_cons_self | apply List.mem_cons_of_mem)) (by kernel_rfl) (by kernel_rfl)) (Ev.var (by repeat (first | exact List.mem_cons_self | apply List.mem_cons_of_mem)) (by kernel_rfl) (by kernel_rfl)) (by omega) (by omega) (by simpa using hd) (fun _ _ => rfl)) (hd'.symm.trans (hbo i (by omega) (by omega)))) flat_int s₄ E (F₄.cxBA (by repeat (first | exact List.mem_cons_self | apply List.mem_cons_of_mem)) hb₄)) (kl _ (by kernel_rfl)) (by kernel_rfl) (by kernel_rfl) rfl fun s₅ F₅ c₅ => ?_
    have hb₅ : BA s₅.heap rs b := F₄.keepBA (by simp) c₅ hb₄
    have ho1 := hout (u + i) hi'
    have ho2 := hout i (by omega)
    have hl := bat_range line (u + i)
    have hstep : (bat line (u + i) + out i) % 256 = out (u + i) := by rw [h1 (u + i) (by omega) hi', Nat.add_sub_cancel_left]
    refine x_set (rs := rs) (ba := b) (v := out (u + i)) F₅ (by simp) hb₅ (Ev.conv (Ev.band (Ev.add (Ev.var (by repeat (first | exact List.mem_cons_self | apply List.mem_cons_of_mem)) (by kernel_rfl) (by kernel_rfl)) (Ev.var (by repeat (first | exact List.mem_cons_self | apply List.mem_cons_of_mem)) (by kernel_rfl) (by kernel_rfl))) (Ev.int _)) ((band255 (by omega)).trans hstep)) (Ev.var (by repeat (first | exact List.mem_cons_self | apply List.mem_cons_of_mem)) (by kernel_rfl) (by kernel_rfl)) (Ev.var (by repeat (first | exact List.mem_cons_self | apply List.mem_cons_of_mem)) (by kernel_rfl) (by kernel_rfl)) (by omega) (by omega) (by omega) ho1 rfl fun s₆ F₆ hb₆ => ?_
    refine x_aug (i := (i : Int)) (vars' := [⟨"filter_unit", Int, RInt, (u : Int)⟩, ⟨"scanline", Array UInt8, RBA, line⟩, ⟨"result", Value, RVal, .ref rs⟩]) F₆ (by repeat (first | exact List.mem_cons_self | apply List.mem_cons_of_mem)) (by kernel_rfl) (Ev.int _) (kl _ (by kernel_rfl)) ?_ (by kernel_rfl) (by kernel_rfl) fun s₇ F₇ c₇ => ?_
    · intro e he
      simp only [List.mem_cons, List.not_mem_nil, or_false] at he
      rcases he with rfl | rfl | rfl <;> (repeat (first | exact List.mem_cons_self | apply List.mem_cons_of_mem))
    have hb₇ := F₆.keepBA (by simp) c₇ hb₆
    refine wpAny_execs_nil ⟨rfl, by simpa using F₇, _, hb₇, by simpa using hbn, fun j hj hjn => ?_⟩
    rw [e1, bat_set (by omega) ho1]
    split
    · rename_i e; rw [e]
    · exact hbo j (by omega) hjn
  · obtain ⟨b, hb, hbn, hbo⟩ := J'
    refine wpAny_execs_nil ?_
    exact hQ s' b F'.base hb hbn fun j hj => hbo j (by omega) hj
end
end Mine

namespace Mine

def iabs (x : Int) : Int := if x < 0 then -x else x
def paeth (a b c : Int) : Int :=
  if (decide (iabs (a + b - c - a) ≤ iabs (a + b - c - b)) && decide (iabs (a + b - c - a) ≤ iabs (a + b - c - c))) = true then a
  else if decide (iabs (a + b - c - b) ≤ iabs (a + b - c - c)) = true then b else c
theorem paeth_range {a b c : Int} (ha : 0 ≤ a ∧ a < 256) (hb : 0 ≤ b ∧ b < 256) (hc : 0 ≤ c ∧ c < 256) : 0 ≤ paeth a b c ∧ paeth a b c < 256 := by
  unfold paeth
  split
  · exact ha
  · split
    · exact hb
    · exact hc

section
variable {prog : Program} {w : World} {A : Around} {E : Value → Shared → Prop} {s : Shared} {mg mb : Str → Option Value}

theorem paeth_walk {fa : Addr} {u n : Nat} {t : Tok} {sc pv rs : Addr} {line prev : Array UInt8} {out : Nat → Int} {Q : Value → Shared → Prop} (hh : A.handled = none) (hroom : A.depth < recursionLimit)
    (f : FnAt s.heap fa "undo_filter_paeth" paethT.1 paethT.2.1 paethT.2.2) (Gl : Glo mg mb s.heap) (hmr : mg "range" = none) (hbr : mb "range" = some (.type "range")) (hml : mg "len" = none) (hbl : mb "len" = some (.builtin "len"))
    (hma : mg "abs" = none) (hba : mb "abs" = some (.builtin "abs"))
    (hsc : BA s.heap sc line) (hpv : BA s.heap pv prev) (hrs : BA s.heap rs line) (hne : sc ≠ rs) (hnp : pv ≠ rs) (hln : line.size = n) (hpn : prev.size = n) (hn : n ≤ 1000)
    (hout : ∀ j, j < n → 0 ≤ out j ∧ out j < 256)
    (h1 : ∀ j, j < n → out j = (bat line j + paeth (if j < u then 0 else out (j - u)) (bat prev j) (if j < u then 0 else bat prev (j - u))) % 256)
    (hu0 : 0 < u) (hu : u ≤ 1000) (hQ : ∀ s' b, Stay [rs] s s' → BA s'.heap rs b → b.size = n → (∀ j, j < n → bat b j = out j) → Q .none s') :
    wpAny (model prog w) A (call (.ref fa) [.int u t, .ref sc, .ref pv, .ref rs]) Q E s := by
  refine callA (vars := [⟨"filter_unit", Int, RInt, (u : Int)⟩, ⟨"scanline", Array UInt8, RBA, line⟩, ⟨"previous", Array UInt8, RBA, prev⟩, ⟨"result", Value, RVal, .ref rs⟩]) (X := [rs])
    (binds := [("filter_unit", .int u t), ("scanline", .ref sc), ("previous", .ref pv), ("result", .ref rs)]) f hroom rfl rfl (fun _ _ _ => rfl) Gl rfl ?_ ?_ ?_ (by simp) ?_ (hrs.out Gl) ?_ ?_
  · intro x hx
    simp only [List.mem_cons, List.not_mem_nil, or_false] at hx
    rcases hx with rfl | rfl | rfl | rfl <;> kernel_rfl
  · show (["filter_unit", "scanline", "previous", "result"] : List Str).Nodup
    decide +kernel
  · decide +kernel
  · intro b hb; rw [List.mem_singleton.mp hb]; exact hrs.live
  · intro e he
    simp only [List.mem_cons, List.not_mem_nil, or_false] at he
    rcases he with rfl | rfl | rfl | rfl
    · exact ⟨.int u t, by simp, fun _ _ => ⟨t, rfl⟩⟩
    · exact ⟨.ref sc, by simp, hsc.rd (by simpa using hne)⟩
    · exact ⟨.ref pv, by simp, hpv.rd (by simpa using hnp)⟩
    · exact ⟨.ref rs, by simp, fun _ _ => rfl⟩
  intro L code s₁ E₁ F up
  generalize hA : A.deeper _ = A'
  have hh' : A'.handled = none := by rw [← hA]; exact hh
  have hrs₁ : BA s₁.heap rs line := let ⟨x, hx⟩ := hrs; ⟨x, up _ _ hx⟩
  generalize hE : newEnv _ _ _ _ _ _ _ _ _ = env at *
  have hkr : Blt mg mb env "range" (.type "range") := ⟨by rw [← hE]; kernel_rfl, hmr, hbr, by kernel_rfl⟩
  have hkl : Blt mg mb env "len" (.builtin "len") := ⟨by rw [← hE]; kernel_rfl, hml, hbl, by kernel_rfl⟩
  have hka : Blt mg mb env "abs" (.builtin "abs") := ⟨by rw [← hE]; kernel_rfl, hma, hba, by kernel_rfl⟩
  have kl : ∀ x : Str, paethT.2.2.names.lookup x = some .local → CanStore env x := fun x hx => .inl (by rw [← hE]; exact hx)
  refine x_assign' (val := -(u : Int)) (R := RInt) F (fun E => (Ev.neg (Ev.var (by repeat (first | exact List.mem_cons_self | apply List.mem_cons_of_mem)) (by kernel_rfl) (by kernel_rfl))).flat flat_int s₁ E F.cx) (kl _ (by kernel_rfl)) (by kernel_rfl) (by kernel_rfl) rfl fun s₂ F₂ c₂ => ?_
  have hrs₂ : BA s₂.heap rs line := F.keepBA (by simp) c₂ hrs₁
  refine x_for (vs := fun i => [⟨"ai", Int, RInt, (i : Int) - (u : Int)⟩, ⟨"filter_unit", Int, RInt, (u : Int)⟩, ⟨"scanline", Array UInt8, RBA, line⟩, ⟨"previous", Array UInt8, RBA, prev⟩, ⟨"result", Value, RVal, .ref rs⟩]) (mss := fun _ => [])
    (J := fun i h => ∃ b, BA h rs b ∧ b.size = n ∧ ∀ j, j < i → j < n → bat b j = out j) (a := (0 : Int)) (b := (n : Int)) hh' (by simpa using F₂) (by omega) (by omega) (by omega) (by omega) (fun E => ?_) (kl _ (by kernel_rfl)) (fun i => (by kernel_rfl)) (fun i => (by kernel_rfl)) (fun _ => rfl) ?_ ?_ ?_
    (fun _ => rfl) (fun _ _ => rfl) (fun s' F' J' => ?_)
  · rw [← hln]
    exact Ev.range1 hkr (Ev.baLen hkl (Ev.var (by repeat (first | exact List.mem_cons_self | apply List.mem_cons_of_mem)) (by kernel_rfl) (by kernel_rfl)) rfl (by omega)) rfl s₂ E (F₂.cxBA (by repeat (first | exact List.mem_cons_self | apply List.mem_cons_of_mem)) hrs₂)
  · rintro i h h' ⟨b, ⟨x, hx⟩, r⟩ k
    exact ⟨b, ⟨x, k rs (by simp) _ hx⟩, r⟩
  · exact ⟨line, hrs₂, hln, fun j h1 h2 => absurd h1 (Nat.not_lt_zero _)⟩
  · rintro i Z' s₃ E' hi F₃ ⟨b, hb, hbn, hbo⟩
    have hi' : i < n := by omega
    have e1 : ((0 : Int) + (i : Int)).toNat = i := by omega
    obtain ⟨c, hc, hc'⟩ := bat_get (b := line) (j := i) (by omega)
    obtain ⟨c2, hc2, hc2'⟩ := bat_get (b := prev) (j := i) (by omega)
    refine x_assign' (val := bat line i) (R := RInt) F₃ (fun E => Ev.flat (Ev.conv (Ev.baItem (Ev.var (by repeat (first | exact List.mem_cons_self | apply List.mem_cons_of_mem)) (by kernel_rfl) (by kernel_rfl)) (Ev.var (by repeat (first | exact List.mem_cons_self | apply List.mem_cons_of_mem)) (by kernel_rfl) (by kernel_rfl)) (by omega) (by omega) (by rw [e1]; exact hc) (fun _ _ => rfl)) hc'.symm) flat_int s₃ E F₃.cx) (kl _ (by kernel_rfl)) (by kernel_rfl) (by kernel_rfl) rfl fun s₄ F₄ c₄ => ?_
    have hb₄ : BA s₄.heap rs b := F₃.keepBA (by simp) c₄ hb
    refine x_ifJ (b := decide ((i : Int) - (u : Int) < 0)) (fun s' => Fx s₃ (FB env [] [rs]) mg mb env [⟨"c", Int, RInt, if i < u then 0 else bat prev (i - u)⟩, ⟨"a", Int, RInt, if i < u then 0 else out (i - u)⟩, ⟨"x", Int, RInt, bat line i⟩, ⟨"i", Int, RInt, 0 + (i : Int)⟩, ⟨"ai", Int, RInt, (i : Int) - (u : Int)⟩, ⟨"filter_unit", Int, RInt, (u : Int)⟩, ⟨"scanline", Array UInt8, RBA, line⟩, ⟨"previous", Array UInt8, RBA, prev⟩, ⟨"result", Value, RVal, .ref rs⟩] [] [rs] Z' s' ∧ BA s'.heap rs b)
      F₄ (EvB.lt (Ev.var (by repeat (first | exact List.mem_cons_self | apply List.mem_cons_of_mem)) (by kernel_rfl) (by kernel_rfl)) (Ev.int _) rfl) (fun s' E' F' up' => ?_) fun s₅ ⟨F₅, hb₅⟩ => ?_
    · have hb' : BA s'.heap rs b := let ⟨x, hx⟩ := hb₄; ⟨x, up' _ _ hx⟩
      by_cases hlt : i < u
      · rw [if_pos (show decide ((i : Int) - (u : Int) < 0) = true from decide_eq_true (by omega))]
        refine x_two (val := (0 : Int)) (R := RInt) F' (fun E => (Ev.int 0).flat flat_int s' E F'.cx) (kl _ (by kernel_rfl)) (kl _ (by kernel_rfl)) (by kernel_rfl) (by kernel_rfl) (by kernel_rfl) (by kernel_rfl) (by kernel_rfl) rfl rfl fun s₅ F₅ c₅ => ?_
        refine wpAny_execs_nil ⟨rfl, ?_, F'.keepBA (by simp) c₅ hb'⟩
        rw [if_pos hlt, if_pos hlt]
        exact F₅
      · rw [if_neg (show ¬ decide ((i : Int) - (u : Int) < 0) = true from fun h => by have := of_decide_eq_true h; omega)]
        have e2 : ((i : Int) - (u : Int)).toNat = i - u := by omega
        obtain ⟨d, hd, hd'⟩ := bat_get (b := b) (j := i - u) (by omega)
        obtain ⟨d2, hd2, hd2'⟩ := bat_get (b := prev) (j := i - u) (by omega)
        refine x_assign' (val := out (i - u)) (R := RInt) F' (fun E => Ev.flat (Ev.conv (Ev.baItem (Ev.var (by repeat (first | exact List.mem_cons_self | apply List.mem_cons_of_mem)) (by kernel_rfl) (by kernel_rfl)) (Ev.var (by repeat (first | exact List.mem_cons_self | apply List.mem_cons_of_mem)) (by kernel_rfl) (by kernel_rfl)) (by omega) (by omega) (by rw [e2]; exact hd) (fun _ _ => rfl)) (hd'.symm.trans (hbo (i - u) (by omega) (by omega)))) flat_int s' E (F'.cxBA (by repeat (first | exact List.mem_cons_self | apply List.mem_cons_of_mem)) hb')) (kl _ (by kernel_rfl)) (by kernel_rfl) (by kernel_rfl) rfl fun s₅ F₅ c₅ => ?_
        refine x_assign' (val := bat prev (i - u)) (R := RInt) F₅ (fun E => Ev.flat (Ev.conv (Ev.baItem (Ev.var (by repeat (first | exact List.mem_cons_self | apply List.mem_cons_of_mem)) (by kernel_rfl) (by kernel_rfl)) (Ev.var (by repeat (first | exact List.mem_cons_self | apply List.mem_cons_of_mem)) (by kernel_rfl) (by kernel_rfl)) (by omega) (by omega) (by rw [e2]; exact hd2) (fun _ _ => rfl)) hd2'.symm) flat_int s₅ E F₅.cx) (kl _ (by kernel_rfl)) (by kernel_rfl) (by kernel_rfl) rfl fun s₆ F₆ c₆ => ?_
        refine wpAny_execs_nil ⟨rfl, ?_, F₅.keepBA (by simp) c₆ (F'.keepBA (by simp) c₅ hb')⟩
        rw [if_neg hlt, if_neg hlt]
        exact F₆
    generalize hav : (if i < u then (0 : Int) else out (i - u)) = av at F₅
    generalize hcv : (if i < u then (0 : Int) else bat prev (i - u)) = cv at F₅
    have rav : 0 ≤ av ∧ av < 256 := by
      rw [← hav]; split
      · omega
      · exact hout _ (by omega)
    have rcv : 0 ≤ cv ∧ cv < 256 := by
      rw [← hcv]; split
      · omega
      · exact bat_range _ _
    refine x_assign' (val := bat prev i) (R := RInt) F₅ (fun E => Ev.flat (Ev.conv (Ev.baItem (Ev.var (by repeat (first | exact List.mem_cons_self | apply List.mem_cons_of_mem)) (by kernel_rfl) (by kernel_rfl)) (Ev.var (by repeat (first | exact List.mem_cons_self | apply List.mem_cons_of_mem)) (by kernel_rfl) (by kernel_rfl)) (by omega) (by omega) (by rw [e1]; exact hc2) (fun _ _ => rfl)) hc2'.symm) flat_int s₅ E F₅.cx) (kl _ (by kernel_rfl)) (by kernel_rfl) (by kernel_rfl) rfl fun s₆ F₆ c₆ => ?_
    have hb₆ := F₅.keepBA (by simp) c₆ hb₅
    have rbv := bat_range prev i
    generalize hbv : bat prev i = bv at F₆ rbv
    refine x_assign' (val := av + bv - cv) (R := RInt) F₆ (fun E => Ev.flat (Ev.sub (Ev.add (Ev.var (by repeat (first | exact List.mem_cons_self | apply List.mem_cons_of_mem)) (by kernel_rfl) (by kernel_rfl)) (Ev.var (by repeat (first | exact List.mem_cons_self | apply List.mem_cons_of_mem)) (by kernel_rfl) (by kernel_rfl))) (Ev.var (by repeat (first | exact List.mem_cons_self | apply List.mem_cons_of_mem)) (by kernel_rfl) (by kernel_rfl))) flat_int s₆ E F₆.cx) (kl _ (by kernel_rfl)) (by kernel_rfl) (by kernel_rfl) rfl fun s₇ F₇ c₇ => ?_
    have hb₇ := F₆.keepBA (by simp) c₇ hb₆
    refine x_assign' (val := iabs (av + bv - cv - av)) (R := RInt) F₇ (fun E => Ev.flat (Ev.abs hka (Ev.sub (Ev.var (by repeat (first | exact List.mem_cons_self | apply List.mem_cons_of_mem)) (by kernel_rfl) (by kernel_rfl)) (Ev.var (by repeat (first | exact List.mem_cons_self | apply List.mem_cons_of_mem)) (by kernel_rfl) (by kernel_rfl))) rfl) flat_int s₇ E F₇.cx) (kl _ (by kernel_rfl)) (by kernel_rfl) (by kernel_rfl) rfl fun s₈ F₈ c₈ => ?_
    have hb₈ := F₇.keepBA (by simp) c₈ hb₇
    refine x_assign' (val := iabs (av + bv - cv - bv)) (R := RInt) F₈ (fun E => Ev.flat (Ev.abs hka (Ev.sub (Ev.var (by repeat (first | exact List.mem_cons_self | apply List.mem_cons_of_mem)) (by kernel_rfl) (by kernel_rfl)) (Ev.var (by repeat (first | exact List.mem_cons_self | apply List.mem_cons_of_mem)) (by kernel_rfl) (by kernel_rfl))) rfl) flat_int s₈ E F₈.cx) (kl _ (by kernel_rfl)) (by kernel_rfl) (by kernel_rfl) rfl fun s₉ F₉ c₉ => ?_
    have hb₉ := F₈.keepBA (by simp) c₉ hb₈
    refine x_assign' (val := iabs (av + bv - cv - cv)) (R := RInt) F₉ (fun E => Ev.flat (Ev.abs hka (Ev.sub (Ev.var (by repeat (first | exact List.mem_cons_self | apply List.mem_cons_of_mem)) (by kernel_rfl) (by kernel_rfl)) (Ev.var (by repeat (first | exact List.mem_cons_self | apply List.mem_cons_of_mem)) (by kernel_rfl) (by kernel_rfl))) rfl) flat_int s₉ E F₉.cx) (kl _ (by kernel_rfl)) (by kernel_rfl) (by kernel_rfl) rfl fun t₁ G₁ d₁ => ?_
    have hg₁ := F₉.keepBA (by simp) d₁ hb₉
    refine x_ifJ (fun s' => Fx s₃ (FB env [] [rs]) mg mb env [⟨"pr", Int, RInt, paeth av bv cv⟩, ⟨"x", Int, RInt, bat line i⟩, ⟨"i", Int, RInt, 0 + (i : Int)⟩, ⟨"ai", Int, RInt, (i : Int) - (u : Int)⟩, ⟨"filter_unit", Int, RInt, (u : Int)⟩, ⟨"scanline", Array UInt8, RBA, line⟩, ⟨"previous", Array UInt8, RBA, prev⟩, ⟨"result", Value, RVal, .ref rs⟩] [] [rs] Z' s' ∧ BA s'.heap rs b)
      G₁ (EvB.and2 (EvB.le (Ev.var (by repeat (first | exact List.mem_cons_self | apply List.mem_cons_of_mem)) (by kernel_rfl) (by kernel_rfl)) (Ev.var (by repeat (first | exact List.mem_cons_self | apply List.mem_cons_of_mem)) (by kernel_rfl) (by kernel_rfl)) rfl) fun _ => EvB.le (Ev.var (by repeat (first | exact List.mem_cons_self | apply List.mem_cons_of_mem)) (by kernel_rfl) (by kernel_rfl)) (Ev.var (by repeat (first | exact List.mem_cons_self | apply List.mem_cons_of_mem)) (by kernel_rfl) (by kernel_rfl)) rfl) (fun s' E' F' up' => ?_) fun t₂ ⟨G₂, hg₂⟩ => ?_
    · have hb' : BA s'.heap rs b := let ⟨x, hx⟩ := hg₁; ⟨x, up' _ _ hx⟩
      have wk : ∀ {v : Int} {t : Shared}, Fx s₃ (FB env [] [rs]) mg mb env [⟨"pr", Int, RInt, v⟩, ⟨"pc", Int, RInt, iabs (av + bv - cv - cv)⟩, ⟨"pb", Int, RInt, iabs (av + bv - cv - bv)⟩, ⟨"pa", Int, RInt, iabs (av + bv - cv - av)⟩, ⟨"p", Int, RInt, av + bv - cv⟩, ⟨"b", Int, RInt, bv⟩, ⟨"c", Int, RInt, cv⟩, ⟨"a", Int, RInt, av⟩, ⟨"x", Int, RInt, bat line i⟩, ⟨"i", Int, RInt, 0 + (i : Int)⟩, ⟨"ai", Int, RInt, (i : Int) - (u : Int)⟩, ⟨"filter_unit", Int, RInt, (u : Int)⟩, ⟨"scanline", Array UInt8, RBA, line⟩, ⟨"previous", Array UInt8, RBA, prev⟩, ⟨"result", Value, RVal, .ref rs⟩] [] [rs] Z' t →
          v = paeth av bv cv → Fx s₃ (FB env [] [rs]) mg mb env [⟨"pr", Int, RInt, paeth av bv cv⟩, ⟨"x", Int, RInt, bat line i⟩, ⟨"i", Int, RInt, 0 + (i : Int)⟩, ⟨"ai", Int, RInt, (i : Int) - (u : Int)⟩, ⟨"filter_unit", Int, RInt, (u : Int)⟩, ⟨"scanline", Array UInt8, RBA, line⟩, ⟨"previous", Array UInt8, RBA, prev⟩, ⟨"result", Value, RVal, .ref rs⟩] [] [rs] Z' t := fun G e => by
        subst e
        refine G.weak fun e he => ?_
        simp only [List.mem_cons, List.not_mem_nil, or_false] at he
        rcases he with rfl | rfl | rfl | rfl | rfl | rfl | rfl | rfl <;> (repeat (first | exact List.mem_cons_self | apply List.mem_cons_of_mem))
      by_cases hc1 : (decide (iabs (av + bv - cv - av) ≤ iabs (av + bv - cv - bv)) && decide (iabs (av + bv - cv - av) ≤ iabs (av + bv - cv - cv))) = true
      · rw [if_pos hc1]
        refine x_assign' (val := av) (R := RInt) F' (fun E => Ev.flat (Ev.var (by repeat (first | exact List.mem_cons_self | apply List.mem_cons_of_mem)) (by kernel_rfl) (by kernel_rfl)) flat_int s' E F'.cx) (kl _ (by kernel_rfl)) (by kernel_rfl) (by kernel_rfl) rfl fun t₂ G₂ d₂ => ?_
        exact wpAny_execs_nil ⟨rfl, wk G₂ (by unfold paeth; rw [if_pos hc1]), F'.keepBA (by simp) d₂ hb'⟩
      · rw [if_neg hc1]
        refine x_ifJ (fun s' => Fx s₃ (FB env [] [rs]) mg mb env [⟨"pr", Int, RInt, paeth av bv cv⟩, ⟨"x", Int, RInt, bat line i⟩, ⟨"i", Int, RInt, 0 + (i : Int)⟩, ⟨"ai", Int, RInt, (i : Int) - (u : Int)⟩, ⟨"filter_unit", Int, RInt, (u : Int)⟩, ⟨"scanline", Array UInt8, RBA, line⟩, ⟨"previous", Array UInt8, RBA, prev⟩, ⟨"result", Value, RVal, .ref rs⟩] [] [rs] Z' s' ∧ BA s'.heap rs b)
          F' (EvB.le (Ev.var (by repeat (first | exact List.mem_cons_self | apply List.mem_cons_of_mem)) (by kernel_rfl) (by kernel_rfl)) (Ev.var (by repeat (first | exact List.mem_cons_self | apply List.mem_cons_of_mem)) (by kernel_rfl) (by kernel_rfl)) rfl) (fun s'' E'' F'' up'' => ?_) fun t₂ H => wpAny_execs_nil ⟨rfl, H⟩
        have hb'' : BA s''.heap rs b := let ⟨x, hx⟩ := hb'; ⟨x, up'' _ _ hx⟩
        by_cases hc2 : decide (iabs (av + bv - cv - bv) ≤ iabs (av + bv - cv - cv)) = true
        · rw [if_pos hc2]
          refine x_assign' (val := bv) (R := RInt) F'' (fun E => Ev.flat (Ev.var (by repeat (first | exact List.mem_cons_self | apply List.mem_cons_of_mem)) (by kernel_rfl) (by kernel_rfl)) flat_int s'' E F''.cx) (kl _ (by kernel_rfl)) (by kernel_rfl) (by kernel_rfl) rfl fun t₂ G₂ d₂ => ?_
          exact wpAny_execs_nil ⟨rfl, wk G₂ (by unfold paeth; rw [if_neg hc1, if_pos hc2]), F''.keepBA (by simp) d₂ hb''⟩
        · rw [if_neg hc2]
          refine x_assign' (val := cv) (R := RInt) F'' (fun E => Ev.flat (Ev.var (by repeat (first | exact List.mem_cons_self | apply List.mem_cons_of_mem)) (by kernel_rfl) (by kernel_rfl)) flat_int s'' E F''.cx) (kl _ (by kernel_rfl)) (by kernel_rfl) (by kernel_rfl) rfl fun t₂ G₂ d₂ => ?_
          exact wpAny_execs_nil ⟨rfl, wk G₂ (by unfold paeth; rw [if_neg hc1, if_neg hc2]), F''.keepBA (by simp) d₂ hb''⟩
    have ho1 := hout i hi'
    have hl := bat_range line i
    have rp := paeth_range rav rbv rcv
    have hstep : (bat line i + paeth av bv cv) % 256 = out i := by rw [h1 i hi', hav, hcv, hbv]
    refine x_set (rs := rs) (ba := b) (v := out i) G₂ (by simp) hg₂ (Ev.conv (Ev.band (Ev.add (Ev.var (by repeat (first | exact List.mem_cons_self | apply List.mem_cons_of_mem)) (by kernel_rfl) (by kernel_rfl)) (Ev.var (by repeat (first | exact List.mem_cons_self | apply List.mem_cons_of_mem)) (by kernel_rfl) (by kernel_rfl))) (Ev.int _)) ((band255 (by omega)).trans hstep)) (Ev.var (by repeat (first | exact List.mem_cons_self | apply List.mem_cons_of_mem)) (by kernel_rfl) (by kernel_rfl)) (Ev.var (by repeat (first | exact List.mem_cons_self | apply List.mem_cons_of_mem)) (by kernel_rfl) (by kernel_rfl)) (by omega) (by omega) (by omega) ho1 rfl fun t₃ G₃ hg₃ => ?_
    refine x_aug (i := (i : Int) - (u : Int)) (vars' := [⟨"filter_unit", Int, RInt, (u : Int)⟩, ⟨"scanline", Array UInt8, RBA, line⟩, ⟨"previous", Array UInt8, RBA, prev⟩, ⟨"result", Value, RVal, .ref rs⟩]) G₃ (by repeat (first | exact List.mem_cons_self | apply List.mem_cons_of_mem)) (by kernel_rfl) (Ev.int _) (kl _ (by kernel_rfl)) ?_ (by kernel_rfl) (by kernel_rfl) fun t₄ G₄ d₄ => ?_
    · intro e he
      simp only [List.mem_cons, List.not_mem_nil, or_false] at he
      rcases he with rfl | rfl | rfl | rfl <;> (repeat (first | exact List.mem_cons_self | apply List.mem_cons_of_mem))
    have hg₄ := G₃.keepBA (by simp) d₄ hg₃
    refine wpAny_execs_nil ⟨rfl, ?_, _, hg₄, by simpa using hbn, fun j hj hjn => ?_⟩
    · have e3 : (i : Int) - (u : Int) + 1 = ((i + 1 : Nat) : Int) - (u : Int) := by omega
      rw [e3] at G₄
      exact G₄
    · rw [e1, bat_set (by omega) ho1]
      split
      · rename_i e; rw [e]
      · exact hbo j (by omega) hjn
  · obtain ⟨b, hb, hbn, hbo⟩ := J'
    refine wpAny_execs_nil ?_
    exact hQ s' b F'.base hb hbn fun j hj => hbo j (by omega) hj
end
end Mine

namespace Mine

section
variable {M : Model} {A : Around} {E : Value → Shared → Prop} {s : Shared} {env : Env}

theorem g_spliced_nil {Q : List Value → Shared → Prop} (h : Q [] s) : wpG M A (spliced []) Q E s := wpG_pure h
theorem g_spliced_cons {x : Sem Value} {rest : List (Bool × Sem Value)} {Q : List Value → Shared → Prop}
    (h : wpG M A x (fun v s₁ => wpG M A (spliced rest) (fun vs s₂ => Q (v :: vs) s₂) E s₁) E s) : wpG M A (spliced ((false, x) :: rest)) Q E s := by
  rw [spliced]
  refine wpG_bind (wpG_mono h (fun v s₁ h₁ => ?_) fun _ _ x => x)
  simp only [Bool.false_eq_true, if_false]
  exact wpG_bind (wpG_pure (wpG_bind (wpG_holding (wpG_mono h₁ (fun vs s₂ h₂ => wpG_pure h₂) fun _ _ x => x))))
theorem g_evalArgs {f : Value} {x : Sem Value} {rest : List (Bool × Sem Value)} {Q : Args → Shared → Prop}
    (h : wpG M A (spliced ((false, x) :: rest)) (fun vs s' => Q ⟨vs, []⟩ s') E s) : wpG M A (evalArgs f true ((false, x) :: rest) []) Q E s := by
  unfold evalArgs
  show wpG M A (spliced ((false, x) :: rest) >>= _) Q E s
  refine wpG_bind (wpG_mono h (fun vs s' h' => ?_) fun _ _ x => x)
  refine wpG_holding ?_
  exact wpG_bind (wpG_pure (wpG_bind (wpG_pure (wpG_pure h'))))
theorem g_callWith_type {pos : Pos} {t : String} {args : List (Bool × Sem Value)} {Q : Value → Shared → Prop} (hplain : args.any (·.1) = false)
    (h : wpG M A (evalArgs (.type t) true args []) (fun a s₁ => wpG M A (call (.type t) a.pos a.kw) Q E s₁) E s) :
    wpG M A (callWith pos (.type t) [] args []) Q E s := by
  have hk : keeperOf (.type t) = pure .machine := rfl
  unfold callWith
  refine wpG_bind (wpG_holding (wpG_mono h (fun a s₁ h₁ => wpG_bind (wpG_standAt ?_)) fun _ _ x => x))
  simp only [hplain, List.any_nil, Bool.or_false, hk]
  refine wpG_bind (wpG_pure ?_)
  exact wpG_bind (wpG_mono h₁ (fun r s₂ hr => wpG_bind (wpG_holding (wpG.any (wpAny_point (wpG_pure hr))))) fun _ _ x => x)
theorem wpG_ite {α : Type} {c : Prop} [Decidable c] {a b : Sem α} {Q : α → Shared → Prop} (h : wpG M A (if c then a else b) Q E s) : wpG M A (if c then a else b) Q E s := h
theorem g_callWith_function {pos : Pos} {a : Addr} {o : Obj} {fd : FuncData} {args : List (Bool × Sem Value)} {Q : Value → Shared → Prop} (hplain : args.any (·.1) = false)
    (h : wpG M A (evalArgs (.ref a) true args []) (fun x s₁ => (s₁.heap.get? a = some o ∧ o.data = .func fd) ∧ wpG M A (call (.ref a) x.pos x.kw) Q E s₁) E s) :
    wpG M A (callWith pos (.ref a) [] args []) Q E s := by
  unfold callWith
  refine wpG_bind (wpG_holding (wpG_mono h (fun x s₁ h₁ => wpG_bind (wpG_standAt ?_)) fun _ _ x => x))
  have tail : ∀ {t : Sem Value}, wpG M A t Q E s₁ → wpG M A (t >>= fun r => holding [r] point >>= fun _ => pure r) Q E s₁ :=
    fun ht => wpG_bind (wpG_mono ht (fun r s₂ hr => wpG_bind (wpG_holding (wpG.any (wpAny_point (wpG_pure hr))))) fun _ _ x => x)
  simp only [hplain, List.any_nil, Bool.or_false]
  have hk : wpAny M A (keeperOf (.ref a)) (fun k s' => k = .frame ∧ s' = s₁) E s₁ := by
    unfold keeperOf
    refine wpAny_bind (wpAny_load h₁.1.1 ?_)
    rw [h₁.1.2]
    exact wpAny_pure ⟨rfl, rfl⟩
  refine wpG_bind (wpG.any (wpAny_mono hk (fun k s' ⟨e1, e2⟩ => ?_) fun _ _ q => q))
  subst e1 e2
  dsimp only
  split
  · exact tail h₁.2
  · exact tail (by unfold callMarked; exact wpG_keep h₁.2)
theorem g_Call {func : Expr} {args : List Expr} {pos : Pos} {Q : Value → Shared → Prop}
    (h : wpG M A (eval func env) (fun f s₁ => wpG M A (callWith pos f [] (backTo pos (starEach args env)) []) Q E s₁) E s)
    (he : eval (.Call func args [] pos) env = (do callWith pos (← eval func env) [] (backTo pos (starEach args env)) (backToKw pos (keywordEach [] env))) := by rfl) :
    wpG M A (eval (.Call func args [] pos) env) Q E s := by
  rw [he]; exact wpG_bind h

theorem g_If {test body orelse pos} {Q : Flow → Shared → Prop}
    (h : wpAny M A (isTrue test env (eval test env)) (fun b s₂ => if b then wpG M A (execs body env) Q E s₂ else wpG M A (execs orelse env) Q E s₂) E s) :
    wpG M A (exec (.If test body orelse pos) env) Q E s := by
  rw [exec_If]
  refine wpG_bind (wpG_standAt (wpG_bind (wpG.any (wpAny_mono h (fun b s₂ h₂ => ?_) fun _ _ q => q))))
  cases b <;> exact h₂
theorem g_Expr {e pos} {Q : Flow → Shared → Prop} (h : wpG M A (eval e env) (fun v s' => v = .none ∧ Q .next s') E s)
    (hi : interactive env = false) (hs : swapsWith e none pos.line env = pure false) : wpG M A (exec (.Expr e pos) env) Q E s := by
  rw [exec_Expr env e pos hi hs]
  refine wpG_bind (wpG_standAt (wpG_bind (wpG_mono h (fun v s' ⟨e, h'⟩ => ?_) fun _ _ x => x)))
  subst e
  rw [dropValue_plain (fun _ q => by cases q)]
  exact wpG_pure h'

/-- one statement that asks nothing of the stack -/
theorem g_step {st : Stmt} {rest : List Stmt} {Q : Flow → Shared → Prop} (h : wpAny M A (execs [st] env) (fun f s' => f = .next ∧ wpG M A (execs rest env) Q E s') E s) : wpG M A (execs (st :: rest) env) Q E s := by
  refine wpG_execs_cons fun Γ p i n => ?_
  have h' := h Γ p i
  rw [execs_cons, Sem.wp_bind'] at h'
  refine Sem.wp_mono M Γ _ (fun f p' s' q => ?_) (fun _ _ _ q => q) _ _ h'
  cases f with
  | next => exact q.2
  | brk => exact absurd q.1 (by intro e; cases e)
  | cont => exact absurd q.1 (by intro e; cases e)
  | ret v => exact absurd q.1 (by intro e; cases e)
end

section
variable {prog : Program} {w : World} {A : Around} {E : Value → Shared → Prop} {Q : Flow → Shared → Prop} {sb s : Shared} {Bb : List Addr} {mg mb : Str → Option Value} {env : Env} {vars : List Var} {ms : List MVar} {X Z : List Addr}
variable {α β γ : Type} {R : Rep α} {S : Rep β}

/-- bytearray(e) -/
theorem g_ba {np pos : Pos} {e : Expr} {ns : List Int} {Q : Value → Shared → Prop} (b : Blt mg mb env "bytearray" (.type "bytearray")) (c : Cx mg mb env vars s.heap) (h : Ev prog w A mg mb env vars e (RLst RInt) ns) (he : starEach [e] env = (false, eval e env) :: starEach [] env)
    (hr : ∀ n ∈ ns, 0 ≤ n ∧ n < 256) (hz : ns.length ≤ sizeLine) (k : ∀ a s', s.heap.get? a = none → BA s'.heap a (byteArr ns) → Grows s s' → Q (.ref a) s') :
    wpG (model prog w) A (eval (.Call (.Name "bytearray" np) [e] [] pos) env) Q E s := by
  refine g_Call (wpG.any (load_blt b c ?_))
  rw [starEach1 he]
  refine g_callWith_type rfl (g_evalArgs (g_spliced_cons (wpG.any (wpAny_mono (h s E c) (fun v s₁ ⟨r, g⟩ => ?_) fun _ _ q => q))))
  obtain ⟨l, vs, rfl, hl, hp⟩ := r
  refine g_spliced_nil (call_ba hl (paired_ints hp) hr hz fun h' hb u => ?_)
  exact k _ _ (none_down g.up (get?_size _)) hb (g.trans ⟨h', s₁.toks, rfl, u⟩)

theorem Fx.rdOld {v : Value} {x : α} (F : Fx sb [] mg mb env vars ms X Z s) (hZ : ∀ b ∈ Z, sb.heap.get? b = none) (r : R.r sb.heap v x) : Rd R (FB env ms X ++ Z) s.heap v x := fun h' c =>
  R.up (fun b o e => c b o (fun hm => by
    rcases List.mem_append.mp hm with q | q
    · rcases F.fresh b q with q | q
      · simp at q
      · rw [q] at e; cases e
    · rw [hZ b q] at e; cases e) (F.base.2.2.2 b o (by simp) e)) r
theorem Fx.upOld (F : Fx sb [] mg mb env vars ms X Z s) : Up sb.heap s.heap := fun b o e => F.base.2.2.2 b o (by simp) e

/-- x = e, at this state, its reading told apart from what may turn -/
theorem x_assignR {x : Str} {px pos : Pos} {e : Expr} {rest : List Stmt} {val : α} (F : Fx sb Bb mg mb env vars ms X Z s) (he : ∀ E, wpAny (model prog w) A (eval e env) (fun v s' => Rd R (FB env ms X ++ Z) s'.heap v val ∧ Grows s s') E s)
    (hk : CanStore env x) (hv : (vars.all fun e => e.x != x) = true) (hm : (ms.all fun m => m.x != x) = true) (hs : swapsWith e (some (.Name x px)) pos.line env = pure false)
    (k : ∀ s', Fx sb Bb mg mb env (⟨x, α, R, val⟩ :: vars) ms X Z s' → Chg (env.locals :: env.cells.map (·.2)) s.heap s'.heap → wpAny (model prog w) A (execs rest env) Q E s') : wpAny (model prog w) A (execs (.Assign [.Name x px] e pos :: rest) env) Q E s :=
  wpAny_execs_cons (wpAny_Assign_Name (wpAny_mono (he E) (fun _ _ ⟨f, g⟩ => (F.grow g).store hk f hv hm fun s' F' _ c => k s' F' ((Chg.of_up g.up).trans c)) fun _ _ q => q) hs)

theorem Fx.widenZL {s₁ : Shared} {N : List Addr} (F : Fx sb Bb mg mb env vars ms X Z s) (g : Grows s s₁) (hn : ∀ a ∈ N, s.heap.get? a = none) (hl : ∀ a ∈ N, (s₁.heap.get? a).isSome = true) : Fx sb Bb mg mb env vars ms X (N ++ Z) s₁ := by
  have F₁ := F.grow g
  have wz : ∀ b ∈ FB env ms X ++ (N ++ Z), b ∈ FB env ms X ++ Z ∨ s.heap.get? b = none := fun b hb => by
    rcases List.mem_append.mp hb with q | q
    · exact .inl (List.mem_append_left _ q)
    · rcases List.mem_append.mp q with q | q
      · exact .inr (hn b q)
      · exact .inl (List.mem_append_right _ q)
  exact
    { F₁ with
      liveZ := fun b hb => by
        rcases List.mem_append.mp hb with q | q
        · exact hl b q
        · exact F₁.liveZ b q
      var := fun e he => let ⟨v, n, r⟩ := F.var e he; ⟨v, n.up g.up, r.widen wz g.up⟩
      mts := fun m hm => let ⟨n, vs, hl, hp⟩ := F.mts m hm; ⟨n.up g.up, vs, hl.at (g.up m.a), paired_mono (fun _ _ r => r.widen wz g.up) hp⟩ }
theorem Fx.chgZL {s' : Shared} {d Z' : List Addr} (F : Fx sb Bb mg mb env vars ms X Z s) (hd : ∀ a ∈ d, a ∈ Z) (hZ : ∀ b ∈ Z', b ∈ Z) (hf : ∀ a ∈ d, a ∉ FB env ms X) (ho : mainGlobals ∉ d ∧ builtinsNs ∉ d ∧ cStatics ∉ d) (hfr : ∀ a ∈ d, a ∈ Bb ∨ sb.heap.get? a = none)
    (y : Stay d s s') (hl : ∀ b ∈ Z', b ∈ d → (s'.heap.get? b).isSome = true) : Fx sb Bb mg mb env vars ms X Z' s' := by
  have hsub : ∀ b ∈ FB env ms X ++ Z', b ∈ FB env ms X ++ Z := fun b hb => by
    rcases List.mem_append.mp hb with q | q
    · exact List.mem_append_left _ q
    · exact List.mem_append_right _ (hZ b q)
  have hch' : Chg (FB env ms X ++ Z) s.heap s'.heap := y.2.2.2.mono fun b hb => List.mem_append_right _ (hd b hb)
  have kp : ∀ b o, b ∉ d → s.heap.get? b = some o → s'.heap.get? b = some o := fun b o hb => y.2.2.2 b o hb
  have nsk : ∀ {a m}, a ∉ d → s.heap.Ns a m → s'.heap.Ns a m := fun ha ⟨o, es, ep, ho, r⟩ => ⟨o, es, ep, kp _ _ ha ho, r⟩
  have hL : env.locals ∉ d := fun e => hf _ e loc_fb
  have hC : ∀ {c}, c ∈ env.cells.map (·.2) → c ∉ d := fun h e => hf _ e (cells_fb h)
  have hn : ∀ y u, NameIs s.heap env y u → NameIs s'.heap env y u := fun y u n => by
    rcases n with ⟨k, m', hn', e⟩ | ⟨c', k, hc', o, ho, hcd⟩
    · exact .inl ⟨k, m', nsk hL hn', e⟩
    · exact .inr ⟨c', k, hc', o, kp _ _ (hC (cell_mem hc')) ho, hcd⟩
  have hlv : ∀ b, b ∉ d → (s.heap.get? b).isSome = true → (s'.heap.get? b).isSome = true := fun b e hb => by
    obtain ⟨o, ho⟩ := Option.isSome_iff_exists.mp hb
    rw [kp b o e ho]; rfl
  exact
    { glo := ⟨nsk ho.1 F.glo.g, nsk ho.2.1 F.glo.b, let ⟨mc, p, q⟩ := F.glo.nl; ⟨mc, nsk ho.2.2 p, q⟩⟩, kind := F.kind, gl := F.gl, bl := F.bl, out := F.out, nd := F.nd, fresh := F.fresh
      live := fun b hb => hlv b (fun e => hf _ e hb) (F.live b hb)
      liveZ := fun b hb => by
        by_cases e : b ∈ d
        · exact hl b hb e
        · exact hlv b e (F.liveZ b (hZ b hb))
      loc := let ⟨m, hm⟩ := F.loc; ⟨m, nsk hL hm⟩
      cel := fun c hc => let ⟨v, o, ho, hcd⟩ := F.cel c hc; ⟨v, o, kp _ _ (hC hc) ho, hcd⟩
      var := fun e he => let ⟨u, n, r⟩ := F.var e he; ⟨u, hn _ _ n, (r.chg hch').sub hsub⟩
      mts := fun m hm => let ⟨n, vs, hl, hp⟩ := F.mts m hm; ⟨hn _ _ n, vs, hl.at fun o e => kp _ _ (fun e => hf _ e (ms_fb hm)) e, paired_mono (fun _ _ r => r.sub hsub) (paired_rd hp hch')⟩
      base := F.base.shrink y hfr }

theorem Fx.addVal {x : Str} {v : Value} (F : Fx sb Bb mg mb env vars ms X Z s) (n : NameIs s.heap env x v) : Fx sb Bb mg mb env (⟨x, Value, RVal, v⟩ :: vars) ms X Z s :=
  { F with
    var := fun e he => by
      rcases List.mem_cons.mp he with rfl | he
      · exact ⟨v, n, fun _ _ => rfl⟩
      · exact F.var e he }
theorem Fx.x_notin {a : Addr} (F : Fx sb Bb mg mb env vars ms (a :: X) Z s) : a ∉ FB env ms X := fun h => by
  have hperm : (FB env ms (a :: X)).Perm (a :: FB env ms X) := by
    unfold FB
    have h1 : (ms.map (·.a) ++ a :: X).Perm (a :: (ms.map (·.a) ++ X)) := List.perm_middle
    have h2 := h1.append_left (env.cells.map (·.2))
    have h3 : (env.cells.map (·.2) ++ a :: (ms.map (·.a) ++ X)).Perm (a :: (env.cells.map (·.2) ++ (ms.map (·.a) ++ X))) := List.perm_middle
    exact ((h2.trans h3).cons env.locals).trans (List.Perm.swap _ _ _)
  exact (List.nodup_cons.mp (hperm.nodup_iff.mp F.nd)).1 h

/-- a name that a def of the text is bound to -/
structure Gbl (mg : Str → Option Value) (env : Env) (x : Str) (f : Value) : Prop where
  kind : env.kindOf x = some .globalImplicit
  hit : mg x = some f
  dbg : (x == ("__debug__" : Str)) = false
theorem load_gbl {x : Str} {f : Value} {pos : Pos} {Q : Value → Shared → Prop} (b : Gbl mg env x f) (c : Cx mg mb env vars s.heap) (h : Q f s) :
    wpAny (model prog w) A (eval (.Name x pos) env) Q E s :=
  Calls.Name_function_global c.kind b.kind (Calls.loadGlobal_global (by rw [c.gl]; exact c.glo.g) b.hit h) b.dbg
end
end Mine

namespace Mine

def undT : Arguments × List Stmt × Scope := (fnOf PySem.Challenge.pw_bf5021_01 4).get (by rfl)

/-- reads by objects new since h₀, as a reading -/
def RF {α : Type} (h₀ : Heap) (R : Rep α) : Rep α := ⟨fun h v x => Frsh R h₀ h v x, fun u f => f.up u⟩
theorem frsh_rf {α : Type} {R : Rep α} {h₀ h₁ h : Heap} {v : Value} {x : α} (f : Frsh R h₁ h v x) (d : Dom h₀ h₁) : Frsh (RF h₀ R) h₁ h v x := fun h' k h'' k' => f h'' fun b o n e => k' b o (by
  cases q : h₀.get? b with
  | none => rfl
  | some o => have := d b (by rw [q]; rfl); rw [n] at this; cases this) (k b o n e)

theorem bat_arr {ns : List Int} (hr : ∀ n ∈ ns, 0 ≤ n ∧ n < 256) (j : Nat) : bat (byteArr ns) j = ns.getD j 0 := by
  unfold bat byteArr
  rw [List.getElem?_toArray, List.getElem?_map]
  rw [List.getD_eq_getElem?_getD]
  cases q : ns[j]? with
  | none => rfl
  | some n =>
    have := hr n (List.mem_of_getElem? q)
    have hm : n.toNat.toUInt8.toNat = n.toNat % 256 := by simp
    show ((n.toNat.toUInt8).toNat : Int) = n
    rw [hm]; omega
theorem bInts_eq {b : Array UInt8} {n : Nat} {f : Nat → Int} (h : b.size = n) (hf : ∀ j, j < n → bat b j = f j) : bInts b = (List.range n).map f := by
  apply List.ext_getElem
  · simp [bInts, h]
  · intro j h1 h2
    simp [bInts] at h1 h2
    have := hf j h2
    unfold bat at this
    rw [Array.getElem?_eq_getElem h1] at this
    simp [bInts]
    exact this

section
variable {M : Model} {A : Around} {E : Value → Shared → Prop} {s : Shared} {env : Env}
/-- if, its branches joined -/
theorem g_IfJ {test : Expr} {body orelse : List Stmt} {pos : Pos} {rest : List Stmt} {b : Bool} {Q : Flow → Shared → Prop} (P : Shared → Prop) (ht : wpAny M A (isTrue test env (eval test env)) (fun r s₂ => r = b ∧ wpG M A (execs (if b = true then body else orelse) env) (fun f s'' => f = .next ∧ P s'') E s₂) E s)
    (k : ∀ s', P s' → wpG M A (execs rest env) Q E s') : wpG M A (execs (.If test body orelse pos :: rest) env) Q E s := by
  refine wpG_execs_cons (g_If (wpAny_mono ht (fun r s₂ ⟨e, h⟩ => ?_) fun _ _ q => q))
  subst e
  have h' := wpG_mono (Q' := fun f s' => match f with | .next => wpG M A (execs rest env) Q E s' | f => Q f s') h (fun f s'' ⟨e, p⟩ => by subst e; exact k s'' p) fun _ _ q => q
  cases r <;> exact h'
end

section
variable {prog : Program} {w : World} {A : Around} {E : Value → Shared → Prop} {Q : Flow → Shared → Prop} {s : Shared} {env : Env}
theorem tup_unpack {v1 v2 : Value} {t : Addr} {Q : List Value → Shared → Prop} (hh : A.handled = none) (ht : IsTup s.heap t #[v1, v2]) (h : ∀ s', Grows s s' → Q [v1, v2] s') : wpAny (model prog w) A (unpackItems (.ref t) 2 none) Q E s :=
  unpackItems_tuple (items := #[v1, v2]) hh ht fun h' he => h _ ⟨h', s.toks, rfl, fun b o e => he b o (Nat.ne_of_lt (Heap.lt_size e)) e⟩

/-- x, y = (e, e'), stored the other way round -/
theorem g_tup2swap {x y : Str} {px py p p' pos : Pos} {k k' : Nat} {e1 e2 : Expr} {rest : List Stmt} (hh : A.handled = none) (hw : swappedStores [.Tuple [.Name x px, .Name y py] k p] (.Tuple [e1, e2] k' p') env = pure (some [x, y]))
    (hs : swapsWithSole [.Tuple [.Name x px, .Name y py] k p] (.Tuple [e1, e2] k' p') pos.line env = pure false) (hst : backTo p' (starEach [e1, e2] env) = [(false, eval e1 env), (false, eval e2 env)])
    (h : wpG (model prog w) A (eval e1 env) (fun v1 s1 => wpG (model prog w) A (eval e2 env) (fun v2 s2 => ∀ s3, Grows s2 s3 →
      wpAny (model prog w) A (storeName env y v2) (fun _ s4 => wpAny (model prog w) A (storeName env x v1) (fun _ s5 => wpG (model prog w) A (execs rest env) Q E s5) E s4) E s3) E s1) E s) :
    wpG (model prog w) A (execs (.Assign [.Tuple [.Name x px, .Name y py] k p] (.Tuple [e1, e2] k' p') pos :: rest) env) Q E s := by
  refine wpG_execs_cons ?_
  rw [exec_Assign_arm, hs, hw, arm_eval_Tuple, hst]
  refine wpG_bind (wpG_standAt (wpG_bind (wpG_pure ?_)))
  rw [if_neg (by decide)]
  refine wpG_bind (wpG_bind (wpG_standAt (wpG_bind (g_spliced_cons (wpG_mono h (fun v1 s1 h1 => ?_) fun _ _ q => q)))))
  refine g_spliced_cons (wpG_mono h1 (fun v2 s2 h2 => g_spliced_nil ?_) fun _ _ q => q)
  refine wpG.any (wpAny_newTuple ?_ (by simp [sizeLine]))
  refine wpG_bind (wpG_pure ?_)
  unfold assignStores
  refine wpG.any (wpAny_bind (wpAny_rule (wpAny_bind (tup_unpack hh (t := s2.heap.objs.size) (v1 := v1) (v2 := v2) ⟨_, Heap.get?_push_size _ rfl, rfl, _, rfl⟩ fun s3 g3 => ?_))))
  have h3 := h2 s3 (Grows.trans ⟨_, s2.toks, rfl, Up.push _ _⟩ g3)
  show wpAny _ _ ((holding [v1] (bindName env y v2) >>= fun _ => (holding [] (bindName env x v1) >>= fun _ => pure ())) >>= fun _ => pure Flow.next) _ _ _
  refine wpAny_bind (wpAny_bind (wpAny_holding (wpAny_bindName (wpAny_mono h3 (fun _ s4 h4 => ?_) fun _ _ q => q))))
  refine wpAny_bind (wpAny_holding (wpAny_bindName (wpAny_mono h4 (fun _ s5 h5 => wpAny_pure (wpAny_pure h5)) fun _ _ q => q)))
end
end Mine

namespace Mine

def rowsOf (H n : Nat) (f : Nat → Nat → Int) : List (List Int) := (List.range H).map fun y => (List.range n).map (f y)
def prevF (f : Nat → Nat → Int) (y j : Nat) : Int := if y = 0 then 0 else f (y - 1) j
theorem rowsOf_succ (H n : Nat) (f : Nat → Nat → Int) : rowsOf (H + 1) n f = rowsOf H n f ++ [(List.range n).map (f H)] := by simp [rowsOf, List.range_succ]

/-- what the given rows answer to -/
def RowOk (u n : Nat) (line : List Int) (way : Int) (prev out : Nat → Int) : Prop :=
  (way = 1 → (∀ j, j < n → j < u → line.getD j 0 = out j) ∧ ∀ j, u ≤ j → j < n → out j = (line.getD j 0 + out (j - u)) % 256) ∧
  (way ≠ 1 → ∀ j, j < n → out j = (line.getD j 0 + paeth (if j < u then 0 else out (j - u)) (prev j) (if j < u then 0 else prev (j - u))) % 256)

section
variable {prog : Program} {w : World} {A : Around} {E : Value → Shared → Prop} {s : Shared} {mg mb : Str → Option Value}

structure Und (mg mb : Str → Option Value) (h : Heap) (fa fs fp : Addr) : Prop where
  und : FnAt h fa "_law_undone" undT.1 undT.2.1 undT.2.2
  sub : FnAt h fs "undo_filter_sub" subT.1 subT.2.1 subT.2.2
  pae : FnAt h fp "undo_filter_paeth" paethT.1 paethT.2.1 paethT.2.2
  gs : mg "undo_filter_sub" = some (.ref fs)
  gp : mg "undo_filter_paeth" = some (.ref fp)
  hr : mg "range" = none ∧ mb "range" = some (.type "range")
  hl : mg "len" = none ∧ mb "len" = some (.builtin "len")
  ha : mg "abs" = none ∧ mb "abs" = some (.builtin "abs")
  hb : mg "bytearray" = none ∧ mb "bytearray" = some (.type "bytearray")
  hz : mg "zip" = none ∧ mb "zip" = some (.type "zip")
  hi : mg "list" = none ∧ mb "list" = some (.type "list")
theorem Und.up {h h' : Heap} {fa fs fp : Addr} (u : Up h h') (U : Und mg mb h fa fs fp) : Und mg mb h' fa fs fp := { U with und := U.und.up u, sub := U.sub.up u, pae := U.pae.up u }

/-- a row undone: the call of either def -/
theorem row_call {vars : List Var} {ms : List MVar} {Z : List Addr} {sb : Shared} {Bb : List Addr} {env : Env} {fa fs fp : Addr} {u n : Nat} {pv rs : Addr} {prev : Array UInt8} {line : List Int} {way : Int} {out : Nat → Int} {np bp pos pu pa pr bnp pl : Pos} {fnm : Str} {ff : Addr}
    {Q : Value → Shared → Prop} (hh : A.handled = none) (hroom : A.depth < recursionLimit) (U : Und mg mb s.heap fa fs fp) (F : Fx sb Bb mg mb env vars ms [rs] Z s)
    (hf : (fnm = "undo_filter_sub" ∧ way = 1 ∧ ff = fs) ∨ (fnm = "undo_filter_paeth" ∧ way ≠ 1 ∧ ff = fp)) (hg : Gbl mg env fnm (.ref ff)) (hba : Blt mg mb env "bytearray" (.type "bytearray"))
    (hvu : (⟨"unit", Int, RInt, (u : Int)⟩ : Var) ∈ vars ++ ms.map MVar.var) (hvl : (⟨"line", List Int, RLst RInt, line⟩ : Var) ∈ vars ++ ms.map MVar.var)
    (hna : ∀ s' : Shared, Up s.heap s'.heap → NameIs s'.heap env "above" (.ref pv)) (hnr : ∀ s' : Shared, Up s.heap s'.heap → NameIs s'.heap env "result" (.ref rs))
    (hpv : BA s.heap pv prev) (hrs : BA s.heap rs (byteArr line)) (hnp : pv ≠ rs) (hln : line.length = n) (hpn : prev.size = n) (hn : n ≤ 1000) (hr : ∀ x ∈ line, 0 ≤ x ∧ x < 256) (hu0 : 0 < u) (hu : u ≤ n)
    (hout : ∀ j, j < n → 0 ≤ out j ∧ out j < 256) (hrow : RowOk u n line way (bat prev) out)
    (hst : backTo pos (starEach [.Name "unit" pu, .Call (.Name "bytearray" bnp) [.Name "line" pl] [] bp, .Name "above" pa, .Name "result" pr] env) = [(false, eval (.Name "unit" pu) env), (false, eval (.Call (.Name "bytearray" bnp) [.Name "line" pl] [] bp) env), (false, eval (.Name "above" pa) env), (false, eval (.Name "result" pr) env)])
    (hst1 : starEach [.Name "line" pl] env = (false, eval (.Name "line" pl) env) :: starEach [] env)
    (hQ : ∀ s' b, Fx sb Bb mg mb env vars ms [rs] Z s' → BA s'.heap rs b → b.size = n → (∀ j, j < n → bat b j = out j) → Q .none s') :
    wpG (model prog w) A (eval (.Call (.Name fnm np) [.Name "unit" pu, .Call (.Name "bytearray" bnp) [.Name "line" pl] [] bp, .Name "above" pa, .Name "result" pr] [] pos) env) Q E s := by
  have hff : ∃ nm ps bd sc, FnAt s.heap ff nm ps bd sc := by
    rcases hf with ⟨_, _, rfl⟩ | ⟨_, _, rfl⟩
    · exact ⟨_, _, _, _, U.sub⟩
    · exact ⟨_, _, _, _, U.pae⟩
  obtain ⟨nm, ps, bd, scp, o, pm, cd, doc, ho, hd, _⟩ := hff
  refine g_Call (wpG.any (load_gbl hg F.cx ?_))
  rw [hst]
  refine g_callWith_function (o := o) (fd := Calls.docDef nm ps bd scp pm cd doc) rfl (g_evalArgs (g_spliced_cons (wpG.any (wpAny_mono (Ev.var hvu (by kernel_rfl) (by kernel_rfl) s E F.cx) (fun v s₁ ⟨⟨tu, e1⟩, g₁⟩ => ?_) fun _ _ q => q))))
  subst e1
  have F₁ := F.grow g₁
  refine g_spliced_cons (g_ba hba F₁.cx (Ev.var hvl (by kernel_rfl) (by kernel_rfl)) hst1 hr (by rw [hln]; simp [sizeLine]; omega) fun sc s₂ hsc hb₂ g₂ => ?_)
  have F₂ := F₁.grow g₂
  have g12 := g₁.trans g₂
  refine g_spliced_cons (wpG.any (wpAny_Name (loadName_any F.kind (hna s₂ g12.up) ?_ (by kernel_rfl)) (by kernel_rfl)))
  refine g_spliced_cons (wpG.any (wpAny_Name (loadName_any F.kind (hnr s₂ g12.up) ?_ (by kernel_rfl)) (by kernel_rfl)))
  refine g_spliced_nil ⟨⟨g12.up _ _ ho, hd⟩, wpG.any ?_⟩
  have hrs₂ : BA s₂.heap rs (byteArr line) := let ⟨x, hx⟩ := hrs; ⟨x, g12.up _ _ hx⟩
  have hpv₂ : BA s₂.heap pv prev := let ⟨x, hx⟩ := hpv; ⟨x, g12.up _ _ hx⟩
  have hne : sc ≠ rs := fun e => by
    obtain ⟨x, hx⟩ := hrs
    rw [e, g₁.up _ _ hx] at hsc
    cases hsc
  have U₂ := U.up g12.up
  have hsz : (byteArr line).size = n := by rw [byteArr_size, hln]
  have fin : ∀ s' b, Stay [rs] s₂ s' → BA s'.heap rs b → b.size = n → (∀ j, j < n → bat b j = out j) → Q .none s' := fun s' b y hb h1 h2 =>
    hQ s' b (F₂.chgX (d := [rs]) (fun a ha => ha) y fun a ha => by rw [List.mem_singleton.mp ha]; exact hb.live) hb h1 h2
  rcases hf with ⟨_, hw, rfl⟩ | ⟨_, hw, rfl⟩
  · obtain ⟨r0, r1⟩ := hrow.1 hw
    exact sub_walk hh hroom U₂.sub F₂.glo U.hr.1 U.hr.2 U.hl.1 U.hl.2 hb₂ hrs₂ hne hsz hn hu hout (fun j h1 h2 => by rw [bat_arr hr]; exact r0 j h1 h2) (fun j h1 h2 => by rw [bat_arr hr]; exact r1 j h1 h2) hu0 fin
  · exact paeth_walk hh hroom U₂.pae F₂.glo U.hr.1 U.hr.2 U.hl.1 U.hl.2 U.ha.1 U.ha.2 hb₂ hpv₂ hrs₂ hne hnp hsz hpn hn hout (fun j h1 => by rw [bat_arr hr]; exact hrow.2 hw j h1) hu0 (by omega) fin
end
end Mine

namespace Mine

section
variable {prog : Program} {w : World} {A : Around} {E : Value → Shared → Prop} {s : Shared} {mg mb : Str → Option Value}

theorem not_ns {h : Heap} {a : Addr} {m : Str → Option Value} {N : List Addr} (n : h.Ns a m) (hN : ∀ b ∈ N, h.get? b = none) : a ∉ N := fun hm => by
  obtain ⟨o, _, _, ho, _⟩ := n
  rw [hN a hm] at ho; cases ho
theorem not_out {h : Heap} {N : List Addr} (G : Glo mg mb h) (hN : ∀ b ∈ N, h.get? b = none) : mainGlobals ∉ N ∧ builtinsNs ∉ N ∧ cStatics ∉ N := by
  obtain ⟨mc, hc, _⟩ := G.nl
  exact ⟨not_ns G.g hN, not_ns G.b hN, not_ns hc hN⟩

set_option maxHeartbeats 4000000 in
theorem undone_walk {fa fs fp lw ll : Addr} {u n H : Nat} {t : Tok} {vws vls : List Value} {ws : List Int} {lines : List (List Int)} {outF : Nat → Nat → Int} {Q : Value → Shared → Prop} (hh : A.handled = none) (hroom : A.depth + 1 < recursionLimit)
    (U : Und mg mb s.heap fa fs fp) (Gl : Glo mg mb s.heap) (hw : s.heap.IsList lw vws.toArray) (pw : Paired (RInt.r s.heap) vws ws) (hl : s.heap.IsList ll vls.toArray) (pl : Paired ((RLst RInt).r s.heap) vls lines)
    (hws : ws.length = H) (hls : lines.length = H) (hH : 0 < H) (hH1 : H ≤ 1000) (hn : ∀ l ∈ lines, l.length = n) (hn1 : n ≤ 1000) (hr : ∀ l ∈ lines, ∀ x ∈ l, 0 ≤ x ∧ x < 256) (hu0 : 0 < u) (hu : u ≤ n)
    (hout : ∀ y, y < H → ∀ j, j < n → 0 ≤ outF y j ∧ outF y j < 256)
    (hrow : ∀ y, y < H → ∀ line way, lines[y]? = some line → ws[y]? = some way → ∀ pr : Nat → Int, (∀ j, j < n → pr j = prevF outF y j) → RowOk u n line way pr (outF y))
    (hQ : ∀ v s', Frsh (RList (RList RInt)) s.heap s'.heap v (rowsOf H n outF) → Grows s s' → Q v s') :
    wpG (model prog w) A (call (.ref fa) [.ref lw, .int u t, .ref ll]) Q E s := by
  refine callG (vars := [⟨"ways", Value, RVal, .ref lw⟩, ⟨"unit", Int, RInt, (u : Int)⟩, ⟨"lines", Value, RVal, .ref ll⟩]) (X := [])
    (binds := [("ways", .ref lw), ("unit", .int u t), ("lines", .ref ll)]) U.und (by omega) rfl rfl (fun _ _ _ => rfl) Gl rfl ?_ ?_ ?_ (by simp) (by simp) (by simp) ?_ ?_
  · intro x hx
    simp only [List.mem_cons, List.not_mem_nil, or_false] at hx
    rcases hx with rfl | rfl | rfl <;> kernel_rfl
  · show (["ways", "unit", "lines"] : List Str).Nodup
    decide +kernel
  · decide +kernel
  · intro e he
    simp only [List.mem_cons, List.not_mem_nil, or_false] at he
    rcases he with rfl | rfl | rfl
    · exact ⟨.ref lw, by simp, fun _ _ => rfl⟩
    · exact ⟨.int u t, by simp, fun _ _ => ⟨t, rfl⟩⟩
    · exact ⟨.ref ll, by simp, fun _ _ => rfl⟩
  intro L code s₁ F up
  generalize hA : A.deeper _ = A'
  have hh' : A'.handled = none := by rw [← hA]; exact hh
  have hroom' : A'.depth < recursionLimit := by rw [← hA]; exact hroom
  generalize hE : newEnv _ _ _ _ _ _ _ _ _ = env at *
  have hkb : Blt mg mb env "bytearray" (.type "bytearray") := ⟨by rw [← hE]; kernel_rfl, U.hb.1, U.hb.2, by kernel_rfl⟩
  have hkl : Blt mg mb env "len" (.builtin "len") := ⟨by rw [← hE]; kernel_rfl, U.hl.1, U.hl.2, by kernel_rfl⟩
  have hkz : Blt mg mb env "zip" (.type "zip") := ⟨by rw [← hE]; kernel_rfl, U.hz.1, U.hz.2, by kernel_rfl⟩
  have hki : Blt mg mb env "list" (.type "list") := ⟨by rw [← hE]; kernel_rfl, U.hi.1, U.hi.2, by kernel_rfl⟩
  have hgs : Gbl mg env "undo_filter_sub" (.ref fs) := ⟨by rw [← hE]; kernel_rfl, U.gs, by kernel_rfl⟩
  have hgp : Gbl mg env "undo_filter_paeth" (.ref fp) := ⟨by rw [← hE]; kernel_rfl, U.gp, by kernel_rfl⟩
  have kl : ∀ x : Str, undT.2.2.names.lookup x = some .local → CanStore env x := fun x hx => .inl (by rw [← hE]; exact hx)
  have hcells : env.cells = [] := by rw [← hE]; rfl
  have hint : interactive env = false := by rw [← hE]; rfl
  -- done, above = ([], bytearray([0] * len(lines[0])))
  refine g_tup2swap hh' (by rw [← hE]; rfl) rfl rfl ?_
  refine wpG.any (List_ (args_nil (newList_any (by simp [sizeLine]) fun hD => ?_)))
  have hDn : s₁.heap.get? s₁.heap.objs.size = none := get?_size _
  generalize hHD : s₁.heap.push { cls := .type "list", data := .seq ([] : List Value).toArray } = hp₂ at *
  generalize hDa : s₁.heap.objs.size = D at *
  have g₁ : Grows s₁ { s₁ with heap := hp₂ } := ⟨hp₂, s₁.toks, rfl, hHD ▸ Up.push _ _⟩
  have F₂ : Fx s [] mg mb env [⟨"ways", Value, RVal, .ref lw⟩, ⟨"unit", Int, RInt, (u : Int)⟩, ⟨"lines", Value, RVal, .ref ll⟩] [] [D] [] { s₁ with heap := hp₂ } := F.widen g₁ hDn (by obtain ⟨k, hk⟩ := hD; show (hp₂.get? D).isSome = true; rw [hk]; rfl)
  generalize hs₂ : ({ s₁ with heap := hp₂ } : Shared) = s₂ at *
  have hD₂ : s₂.heap.PlainList D ([] : List Value).toArray := by rw [← hs₂]; exact hD
  obtain ⟨line0, hl0⟩ : ∃ l, lines[0]? = some l := ⟨_, List.getElem?_eq_getElem (by omega)⟩
  have hlen0 : line0.length = n := hn _ (List.mem_of_getElem? hl0)
  have upS : Up s.heap s₂.heap := F₂.upOld
  have rdl : ∀ h, Up s.heap h → (RLst (RLst RInt)).r h (.ref ll) lines := fun h u' => (RLst (RLst RInt)).up u' ⟨ll, vls, rfl, hl, pl⟩
  have c₂ : Cx mg mb env (⟨"lines", List (List Int), RLst (RLst RInt), lines⟩ :: ([⟨"ways", Value, RVal, .ref lw⟩, ⟨"unit", Int, RInt, (u : Int)⟩, ⟨"lines", Value, RVal, .ref ll⟩] ++ ([] : List MVar).map MVar.var)) s₂.heap :=
    F₂.cx.add (F₂.nameVal (by repeat (first | exact List.mem_cons_self | apply List.mem_cons_of_mem))) (rdl _ upS)
  refine g_ba hkb c₂ (EvN.ev (EvN.rep1 (EvN.ev (EvN.list (.cons (Ev.int _) .nil rfl) (by simp [sizeLine]))) (Ev.len hkl (Ev.item (Ev.var (by repeat (first | exact List.mem_cons_self | apply List.mem_cons_of_mem)) (by kernel_rfl) (by kernel_rfl)) (Ev.int _) (by omega) (by omega) hl0 (fun _ _ => rfl)) rfl (by omega)) (by omega) (by omega))).weak rfl ?_ ?_ fun ab s₃ hab hb₃ g₂ => ?_
  · intro x hx; have := List.eq_of_mem_replicate hx; subst this; omega
  · simp [sizeLine]; omega
  intro s₄ g₃
  have F₄ := (F₂.grow g₂).grow g₃
  have hb₄ : BA s₄.heap ab (byteArr (List.replicate (line0.length : Int).toNat 0)) := let ⟨x, hx⟩ := hb₃; ⟨x, g₃.up _ _ hx⟩
  have habF : ab ∉ FB env [] [D] ++ [] := fun hm => by
    rw [List.append_nil] at hm
    have := F₂.live ab hm; rw [hab] at this; cases this
  refine F₄.store (R := RBA) (kl _ (by kernel_rfl)) (hb₄.rd habF) (by kernel_rfl) (by kernel_rfl) fun s₅ F₅ _ c₅ => ?_
  refine F₅.store (R := RVal) (val := .ref D) (kl _ (by kernel_rfl)) (fun _ _ => rfl) (by kernel_rfl) (by kernel_rfl) fun s₆ F₆ nD c₆ => ?_
  have keepD : ∀ {vars : List Var} {t t' : Shared}, Fx s [] mg mb env vars [] [D] [] t → Chg (env.locals :: env.cells.map (·.2)) t.heap t'.heap → t.heap.PlainList D ([] : List Value).toArray → t'.heap.PlainList D ([] : List Value).toArray := fun G c h => h.at fun o e => c _ o (fun hm => by
    rcases List.mem_cons.mp hm with q | q
    · exact G.loc_ne_x (a := D) List.mem_cons_self q.symm
    · exact G.cell_ne_x (a := D) q List.mem_cons_self rfl) e
  have hD₆ : s₆.heap.PlainList D ([] : List Value).toArray := keepD F₅ c₆ (keepD F₄ c₅ (hD₂.at fun o e => g₃.up _ _ (g₂.up _ _ e)))
  have F₇ : Fx s [] mg mb env [⟨"above", Array UInt8, RBA, byteArr (List.replicate (line0.length : Int).toNat 0)⟩, ⟨"ways", Value, RVal, .ref lw⟩, ⟨"unit", Int, RInt, (u : Int)⟩, ⟨"lines", Value, RVal, .ref ll⟩] [⟨"done", D, List Int, RF s.heap (RList RInt), []⟩] [] [] s₆ :=
    (F₆.weak fun _ he => List.mem_cons_of_mem _ he).promote nD hD₆ .nil
  have hDs : s.heap.get? D = none := by
    rcases F₇.fresh D (ms_fb (m := ⟨"done", D, List Int, RF s.heap (RList RInt), []⟩) List.mem_cons_self) with q | q
    · simp at q
    · exact q
  have hab0 : (byteArr (List.replicate (line0.length : Int).toNat (0 : Int))).size = n := by rw [byteArr_size]; simp; omega
  have hab1 : ∀ j, j < n → bat (byteArr (List.replicate (line0.length : Int).toNat (0 : Int))) j = prevF outF 0 j := fun j hj => by
    rw [bat_arr (fun x hx => by have := List.eq_of_mem_replicate hx; subst this; omega)]
    simp only [prevF, if_true, List.getD_eq_getElem?_getD, List.getElem?_replicate]
    split <;> rfl
  clear keepD c₂ hb₄ hb₃ c₅ c₆ F₅ F₄ F₆ hD₆
  generalize byteArr (List.replicate (line0.length : Int).toNat (0 : Int)) = b0 at *
  -- for way, line in zip(ways, lines)
  refine wpG_execs_cons (wpG_For ?_ (fun _ => rfl))
  have cw : Cx mg mb env (⟨"ways", List Int, RLst RInt, ws⟩ :: ⟨"lines", List (List Int), RLst (RLst RInt), lines⟩ :: ([⟨"above", Array UInt8, RBA, b0⟩, ⟨"ways", Value, RVal, .ref lw⟩, ⟨"unit", Int, RInt, (u : Int)⟩, ⟨"lines", Value, RVal, .ref ll⟩] ++ ([⟨"done", D, List Int, RF s.heap (RList RInt), []⟩] : List MVar).map MVar.var)) s₆.heap :=
    (F₇.cx.add (F₇.nameVal (by repeat (first | exact List.mem_cons_self | apply List.mem_cons_of_mem))) (rdl _ F₇.upOld)).add (R := RLst RInt) (F₇.nameVal (by repeat (first | exact List.mem_cons_self | apply List.mem_cons_of_mem))) ((RLst RInt).up F₇.upOld ⟨lw, vws, rfl, hw, pw⟩)
  refine call2_any (R := RVal) (S := RVal) (y := .ref lw) (z := .ref ll) hkz (fun _ q => by cases q) (Ev.var (by repeat (first | exact List.mem_cons_self | apply List.mem_cons_of_mem)) (by kernel_rfl) (by kernel_rfl)) (Ev.var (by repeat (first | exact List.mem_cons_self | apply List.mem_cons_of_mem)) (by kernel_rfl) (by kernel_rfl)) rfl F₇.cx fun _ _ s₈ e1 e2 g₈ => ?_
  have e1' : _ = Value.ref lw := e1
  have e2' : _ = Value.ref ll := e2
  subst e1' e2'
  have F₈ := F₇.grow g₈
  have ilw : s₈.heap.IsList lw vws.toArray := let ⟨o, ho, r⟩ := hw; ⟨o, F₈.upOld _ _ ho, r⟩
  have ill : s₈.heap.IsList ll vls.toArray := let ⟨o, ho, r⟩ := hl; ⟨o, F₈.upOld _ _ ho, r⟩
  refine call_zip_2 ilw ill fun h₉ z1 z2 z3 z4 z5 z6 u₉ => ?_
  have hnN : ∀ d : Nat, s₈.heap.get? (s₈.heap.objs.size + d) = none := fun d => by
    cases q : s₈.heap.get? (s₈.heap.objs.size + d) with
    | none => rfl
    | some o => exact absurd (Heap.lt_size q) (by simp)
  have D₀ := zipApart_new (n := s₈.heap.objs.size) (l1 := lw) (l2 := ll) (by obtain ⟨o, ho, _⟩ := ilw; exact Heap.lt_size ho) (by obtain ⟨o, ho, _⟩ := ill; exact Heap.lt_size ho)
  have st₉ : IsZip h₉ (s₈.heap.objs.size + 4) (s₈.heap.objs.size + 2) (s₈.heap.objs.size + 3) .none ∧ IsPair h₉ (s₈.heap.objs.size + 2) (.ref s₈.heap.objs.size) (.ref (s₈.heap.objs.size + 1)) ∧ (∃ a b, IsPair h₉ (s₈.heap.objs.size + 3) a b) ∧ h₉.IsListIter s₈.heap.objs.size lw 0 ∧ h₉.IsListIter (s₈.heap.objs.size + 1) ll 0 ∧ h₉.IsList lw vws.toArray ∧ h₉.IsList ll vls.toArray :=
    ⟨z1, z2, ⟨_, _, z3⟩, z4, z5, let ⟨o, ho, r⟩ := ilw; ⟨o, u₉ _ _ ho, r⟩, let ⟨o, ho, r⟩ := ill; ⟨o, u₉ _ _ ho, r⟩⟩
  have n4 := hnN 4
  have n3 := hnN 3
  have n2 := hnN 2
  have n1 := hnN 1
  have n0 := hnN 0
  rw [Nat.add_zero] at n0
  generalize s₈.heap.objs.size + 4 = zz at *
  generalize s₈.heap.objs.size + 3 = TO at *
  generalize s₈.heap.objs.size + 2 = TI at *
  generalize s₈.heap.objs.size + 1 = i2 at *
  generalize s₈.heap.objs.size = i1 at *
  refine wpAny_pyIter_zip z1 ?_
  have W := WalksT.zip2 (prog := prog) (w := w) (A := A') hh' zz TI TO i1 i2 lw ll D₀ vws.toArray vls.toArray
  have hmin : min vws.toArray.size vls.toArray.size = H := by rw [List.size_toArray, List.size_toArray, paired_length pw, paired_length pl]; omega
  rw [hmin] at W
  have hNn : ∀ a ∈ [zz, TO, i1, i2], s₈.heap.get? a = none := fun a ha => by
    simp only [List.mem_cons, List.not_mem_nil, or_false] at ha
    rcases ha with rfl | rfl | rfl | rfl <;> assumption
  have hliveN : ∀ {h : Heap} {f0 : Value} {k : Nat}, IsZip h zz TI TO f0 → (∃ a b, IsPair h TO a b) → h.IsListIter i1 lw k → h.IsListIter i2 ll k → ∀ a ∈ [zz, TO, i1, i2], (h.get? a).isSome = true := fun q1 q2 q3 q4 a ha => by
    simp only [List.mem_cons, List.not_mem_nil, or_false] at ha
    rcases ha with rfl | rfl | rfl | rfl
    · rw [q1]; rfl
    · obtain ⟨_, _, q2⟩ := q2; rw [q2]; rfl
    · obtain ⟨o, q3, _⟩ := q3; rw [q3]; rfl
    · obtain ⟨o, q4, _⟩ := q4; rw [q4]; rfl
  have F₉ : Fx s [] mg mb env [⟨"above", Array UInt8, RBA, b0⟩, ⟨"ways", Value, RVal, .ref lw⟩, ⟨"unit", Int, RInt, (u : Int)⟩, ⟨"lines", Value, RVal, .ref ll⟩] [⟨"done", D, List Int, RF s.heap (RList RInt), []⟩] [] ([zz, TO, i1, i2] ++ []) { s₈ with heap := h₉ } :=
    F₈.widenZL (s₁ := { s₈ with heap := h₉ }) ⟨h₉, s₈.toks, rfl, u₉⟩ hNn (hliveN z1 ⟨_, _, z3⟩ z4 z5)
  have eFB : ∀ xs, FB env [⟨"done", D, List Int, RF s.heap (RList RInt), xs⟩] [] = FB env [⟨"done", D, List Int, RF s.heap (RList RInt), []⟩] [] := fun _ => rfl
  have hNF : ∀ a ∈ [zz, TO, i1, i2], a ∉ FB env [⟨"done", D, List Int, RF s.heap (RList RInt), []⟩] [] := fun a ha hm => by
    have := F₈.live a hm; rw [hNn a ha] at this; cases this
  have hTIF : TI ∉ FB env [⟨"done", D, List Int, RF s.heap (RList RInt), []⟩] [] := fun hm => by
    have := F₈.live TI hm; rw [n2] at this; cases this
  have hlwF : lw ∉ FB env [⟨"done", D, List Int, RF s.heap (RList RInt), []⟩] [] := fun hm => by
    rcases F₈.fresh lw hm with q | q
    · simp at q
    · obtain ⟨o, ho, _⟩ := hw; rw [q] at ho; cases ho
  have hllF : ll ∉ FB env [⟨"done", D, List Int, RF s.heap (RList RInt), []⟩] [] := fun hm => by
    rcases F₈.fresh ll hm with q | q
    · simp at q
    · obtain ⟨o, ho, _⟩ := hl; rw [q] at ho; cases ho
  have hNs : ∀ a ∈ [zz, TO, i1, i2], s.heap.get? a = none := fun a ha => none_down F₈.upOld (hNn a ha)
  have hNo := not_out F₈.glo hNn
  refine codeG_forLoop (fun k s' => ∃ i b, k = H - i ∧ i ≤ H ∧ Fx s [] mg mb env [⟨"above", Array UInt8, RBA, b⟩, ⟨"ways", Value, RVal, .ref lw⟩, ⟨"unit", Int, RInt, (u : Int)⟩, ⟨"lines", Value, RVal, .ref ll⟩] [⟨"done", D, List Int, RF s.heap (RList RInt), rowsOf i n outF⟩] [] [zz, TO, i1, i2] s' ∧ b.size = n ∧ (∀ j, j < n → bat b j = prevF outF i j) ∧
    (IsZip s'.heap zz TI TO .none ∧ IsPair s'.heap TI (.ref i1) (.ref i2) ∧ (∃ a b, IsPair s'.heap TO a b) ∧ s'.heap.IsListIter i1 lw i ∧ s'.heap.IsListIter i2 ll i ∧ s'.heap.IsList lw vws.toArray ∧ s'.heap.IsList ll vls.toArray)) ?_ H
    ⟨0, b0, by simp, Nat.zero_le _, F₉, hab0, hab1, st₉⟩
  clear F₉ st₉ z1 z2 z3 z4 z5 cw F₇ hab0 hab1
  rintro k t' ⟨i, b, rfl, hi, Ft, hbn, hbo, st⟩
  rcases Nat.lt_or_ge i H with hlt | hge
  · refine W.item i t' _ _ hlt st fun T vals h' tk hP hTn hTup hMid hc => ?_
    obtain ⟨x, y, hx, hy, rfl⟩ := hP
    obtain ⟨m1, m2, m3, m4, m5, m6, m7, m8⟩ := id hMid
    have G₁ := Ft.chgZL (s' := { t' with heap := h', toks := tk }) (d := [zz, TO, i1, i2]) (Z' := [zz, TO, i1, i2]) (fun _ h => h) (fun _ h => h) (by rw [eFB]; exact hNF) hNo (fun a ha => .inr (hNs a ha)) ⟨rfl, rfl, rfl, hc⟩ (fun a ha _ => hliveN m1 m3 m4 m5 a ha)
    refine W.go _ _ _ i T _ _ _ hMid fun h'' st'' hc'' => ?_
    have G₂ := G₁.chgZL (s' := { t' with heap := h'', toks := tk }) (d := [zz, TO, i1, i2]) (Z' := [zz, TO, i1, i2]) (fun _ h => h) (fun _ h => h) (by rw [eFB]; exact hNF) hNo (fun a ha => .inr (hNs a ha)) ⟨rfl, rfl, rfl, hc''⟩ (fun a ha _ => hliveN st''.1 st''.2.2.1 st''.2.2.2.1 st''.2.2.2.2.1 a ha)
    have hT2 : IsTup h'' T #[x, y] := by
      obtain ⟨o, ho, r⟩ := hTup
      exact ⟨o, hc'' _ _ (W.apart i T _ hMid) ho, r⟩
    refine assign_Tuple_tuple hh' (items := #[x, y]) hT2 rfl rfl fun h₃ he => ?_
    have u₃ : Up h'' h₃ := fun b o e => he b o (Nat.ne_of_lt (Heap.lt_size e)) e
    have G₃ := G₂.grow (s' := { t' with heap := h₃, toks := tk }) ⟨h₃, tk, rfl, u₃⟩
    obtain ⟨way, hway, rway⟩ := paired_get' pw (i := i) (v := x) (by simpa using hx)
    obtain ⟨line, hline, rline⟩ := paired_get' pl (i := i) (v := y) (by simpa using hy)
    show wpAny _ _ (holding [y] (assign (.Name "way" _) env x) >>= fun _ => (holding [] (assign (.Name "line" _) env y) >>= fun _ => pure ())) _ _ _
    refine wpAny_bind (wpAny_holding (wpAny_assign_Name (G₃.store (R := RInt) (val := way) (kl _ (by kernel_rfl)) (G₃.rdOld hNs rway) (by kernel_rfl) (by kernel_rfl) fun s₄ G₄ _ c₄ => ?_)))
    refine wpAny_bind (wpAny_holding (wpAny_assign_Name (G₄.store (R := RLst RInt) (val := line) (kl _ (by kernel_rfl)) (G₄.rdOld hNs rline) (by kernel_rfl) (by kernel_rfl) fun s₅ G₅ _ c₅ => wpAny_pure ?_)))
    have hfpF : ∀ b ∈ [zz, TI, TO, i1, i2, lw, ll], b ∉ FB env [⟨"done", D, List Int, RF s.heap (RList RInt), []⟩] [] := fun b hb => by
      simp only [List.mem_cons, List.not_mem_nil, or_false] at hb
      rcases hb with rfl | rfl | rfl | rfl | rfl | rfl | rfl
      · exact hNF _ (by simp)
      · exact hTIF
      · exact hNF _ (by simp)
      · exact hNF _ (by simp)
      · exact hNF _ (by simp)
      · exact hlwF
      · exact hllF
    have hlc : ∀ b, b ∉ FB env [⟨"done", D, List Int, RF s.heap (RList RInt), []⟩] [] → b ∉ env.locals :: env.cells.map (·.2) := fun b hb hm => by
      rcases List.mem_cons.mp hm with q | q
      · exact hb (q ▸ loc_fb)
      · exact hb (cells_fb q)
    have st₅ := W.frame _ _ s₅.heap st'' fun b hb o e => c₅ b o (hlc b (hfpF b hb)) (c₄ b o (hlc b (hfpF b hb)) (u₃ b o e))
    obtain ⟨pvv, npv, rpv⟩ := G₅.var ⟨"above", Array UInt8, RBA, b⟩ (by repeat (first | exact List.mem_cons_self | apply List.mem_cons_of_mem))
    obtain ⟨pv, rfl, hpv₅⟩ := rpv.r
    have hlen : line.length = n := hn _ (List.mem_of_getElem? hline)
    have hrl := hr _ (List.mem_of_getElem? hline)
    have R₅ := (G₅.addVal npv).rebase
    refine wpG_execs_cons (wpG_Assign_Name (g_ba hkb R₅.cx (Ev.var (x := "line") (R := RLst RInt) (v := line) (by repeat (first | exact List.mem_cons_self | apply List.mem_cons_of_mem)) (by kernel_rfl) (by kernel_rfl)) rfl hrl (by rw [hlen]; simp [sizeLine]; omega) fun rs s₆ hrs hb₆ g₆ => ?_) rfl)
    have R₆ := R₅.widen g₆ hrs hb₆.live
    refine R₆.store (R := RVal) (val := .ref rs) (kl _ (by kernel_rfl)) (fun _ _ => rfl) (by kernel_rfl) (by kernel_rfl) fun s₇ R₇ nr c₇ => ?_
    have hb₇ : BA s₇.heap rs (byteArr line) := R₆.keepBA List.mem_cons_self c₇ hb₆
    have hnp : pv ≠ rs := fun e => by
      have := hpv₅.live; rw [e, hrs] at this; cases this
    have hpv₇ : BA s₇.heap pv b := by
      obtain ⟨q, hq⟩ := hpv₅
      refine ⟨q, c₇ _ _ (fun hm => ?_) (g₆.up _ _ hq)⟩
      rw [hcells] at hm
      obtain ⟨m, hm'⟩ := R₅.loc
      exact (BA.ne_ns ⟨q, hq⟩ hm') (List.mem_singleton.mp hm).symm
    show wpG _ _ _ _ _ _
    refine g_IfJ (b := (way == 1)) (fun s' => ∃ b', Fx s₅ (FB env [⟨"done", D, List Int, RF s.heap (RList RInt), rowsOf i n outF⟩] []) mg mb env [⟨"result", Value, RVal, .ref rs⟩, ⟨"above", Value, RVal, .ref pv⟩, ⟨"line", List Int, RLst RInt, line⟩, ⟨"way", Int, RInt, way⟩, ⟨"above", Array UInt8, RBA, b⟩, ⟨"ways", Value, RVal, .ref lw⟩, ⟨"unit", Int, RInt, (u : Int)⟩, ⟨"lines", Value, RVal, .ref ll⟩] [⟨"done", D, List Int, RF s.heap (RList RInt), rowsOf i n outF⟩] [rs] [zz, TO, i1, i2] s' ∧ BA s'.heap rs b' ∧ b'.size = n ∧ ∀ j, j < n → bat b' j = outF i j)
      (wpAny_mono (EvB.eq (Ev.var (by repeat (first | exact List.mem_cons_self | apply List.mem_cons_of_mem)) (by kernel_rfl) (by kernel_rfl)) (Ev.int _) rfl s₇ _ R₇.cx) (fun r s₈ ⟨e, g₈⟩ => ⟨e, ?_⟩) fun _ _ q => q) ?_
    · have R₈ := R₇.grow g₈
      have V₈ := Fx.unbase G₅.base G₅.fresh R₈.narrow
      have hb₈ : BA s₈.heap rs (byteArr line) := let ⟨q, hq⟩ := hb₇; ⟨q, g₈.up _ _ hq⟩
      have hpv₈ : BA s₈.heap pv b := let ⟨q, hq⟩ := hpv₇; ⟨q, g₈.up _ _ hq⟩
      have hrow' := hrow i hlt line way hline hway (bat b) hbo
      by_cases hw1 : way = 1
      · rw [if_pos (by simpa using hw1)]
        refine wpG_execs_cons (g_Expr (row_call hh' hroom' (U.up V₈.upOld) R₈ (.inl ⟨rfl, hw1, rfl⟩) hgs hkb (by repeat (first | exact List.mem_cons_self | apply List.mem_cons_of_mem)) (by repeat (first | exact List.mem_cons_self | apply List.mem_cons_of_mem)) (fun s' u' => (R₈.nameVal (by repeat (first | exact List.mem_cons_self | apply List.mem_cons_of_mem))).up u') (fun s' u' => (R₈.nameVal (by repeat (first | exact List.mem_cons_self | apply List.mem_cons_of_mem))).up u') hpv₈ hb₈ hnp hlen hbn hn1 hrl hu0 hu (hout i hlt) hrow' rfl rfl fun s' b' F' q1 q2 q3 => ⟨rfl, ?_⟩) hint rfl)
        exact wpG_execs_nil ⟨rfl, b', F', q1, q2, q3⟩
      · rw [if_neg (by simpa using hw1)]
        refine wpG_execs_cons (g_Expr (row_call hh' hroom' (U.up V₈.upOld) R₈ (.inr ⟨rfl, hw1, rfl⟩) hgp hkb (by repeat (first | exact List.mem_cons_self | apply List.mem_cons_of_mem)) (by repeat (first | exact List.mem_cons_self | apply List.mem_cons_of_mem)) (fun s' u' => (R₈.nameVal (by repeat (first | exact List.mem_cons_self | apply List.mem_cons_of_mem))).up u') (fun s' u' => (R₈.nameVal (by repeat (first | exact List.mem_cons_self | apply List.mem_cons_of_mem))).up u') hpv₈ hb₈ hnp hlen hbn hn1 hrl hu0 hu (hout i hlt) hrow' rfl rfl fun s' b' F' q1 q2 q3 => ⟨rfl, ?_⟩) hint rfl)
        exact wpG_execs_nil ⟨rfl, b', F', q1, q2, q3⟩
    rintro s₉ ⟨b', R₉, hb₉, hb'n, hb'o⟩
    have V₉ := Fx.unbase G₅.base G₅.fresh R₉.narrow
    refine g_step (x_append (l1 := []) (y := (List.range n).map (outF i)) R₉ (fun E => ?_) (by simp [rowsOf, sizeLine]; omega) (by kernel_rfl) (by kernel_rfl) rfl rfl rfl rfl hint rfl fun sa Ra ca => wpAny_execs_nil ⟨rfl, ?_⟩)
    · refine call1_any (S := RVal) (y := .ref rs) hki (fun _ q => by cases q) (Ev.var (by repeat (first | exact List.mem_cons_self | apply List.mem_cons_of_mem)) (by kernel_rfl) (by kernel_rfl)) rfl R₉.cx fun v s' e g => ?_
      have e' : v = Value.ref rs := e
      subst e'
      have hb' : BA s'.heap rs b' := let ⟨q, hq⟩ := hb₉; ⟨q, g.up _ _ hq⟩
      refine list_ba hh' hb' (by omega) fun h₄ tk₄ u₄ fr => ⟨?_, g.trans ⟨h₄, tk₄, rfl, u₄⟩⟩
      rw [bInts_eq hb'n hb'o] at fr
      exact frsh_rf (fr.down g.up.dom) V₉.upOld.dom
    have hDrs : rs ≠ D := fun e => R₉.m_ne_x (m := ⟨"done", D, List Int, RF s.heap (RList RInt), rowsOf i n outF⟩) List.mem_cons_self (a := rs) List.mem_cons_self e.symm
    have hba : BA sa.heap rs b' := let ⟨q, hq⟩ := hb₉; ⟨q, ca _ _ (by simpa using hDrs) hq⟩
    have Rb : Fx s₅ (FB env [⟨"done", D, List Int, RF s.heap (RList RInt), rowsOf i n outF⟩] []) mg mb env [⟨"result", Value, RVal, .ref rs⟩, ⟨"ways", Value, RVal, .ref lw⟩, ⟨"unit", Int, RInt, (u : Int)⟩, ⟨"lines", Value, RVal, .ref ll⟩] [⟨"done", D, List Int, RF s.heap (RList RInt), rowsOf (i + 1) n outF⟩] [] [zz, TO, i1, i2] sa := by
      rw [rowsOf_succ]
      refine Fx.weak Ra.narrow fun e he => ?_
      simp only [List.mem_cons, List.not_mem_nil, or_false] at he
      rcases he with rfl | rfl | rfl | rfl <;> (repeat (first | exact List.mem_cons_self | apply List.mem_cons_of_mem))
    have hrsF : rs ∉ FB env [⟨"done", D, List Int, RF s.heap (RList RInt), rowsOf (i + 1) n outF⟩] [] ++ [zz, TO, i1, i2] := fun hm => by
      rcases List.mem_append.mp hm with q | q
      · exact Ra.x_notin q
      · have := R₅.liveZ rs q; rw [hrs] at this; cases this
    refine g_step (x_assignR (R := RBA) (val := b') Rb (fun E => wpAny_Name (loadName_any Rb.kind (Rb.nameVal (by repeat (first | exact List.mem_cons_self | apply List.mem_cons_of_mem))) ⟨hba.rd hrsF, Grows.refl _⟩ (by kernel_rfl)) (by kernel_rfl)) (kl _ (by kernel_rfl)) (by kernel_rfl) (by kernel_rfl) rfl fun sc Rc cc => wpAny_execs_nil ⟨rfl, ?_⟩)
    refine wpG_execs_nil ⟨H - (i + 1), by omega, i + 1, b', rfl, hlt, Fx.weak (Fx.unbase G₅.base G₅.fresh Rc) fun e he => ?_, hb'n, fun j hj => by rw [hb'o j hj]; simp [prevF], ?_⟩
    · simp only [List.mem_cons, List.not_mem_nil, or_false] at he
      rcases he with rfl | rfl | rfl | rfl <;> (repeat (first | exact List.mem_cons_self | apply List.mem_cons_of_mem))
    · exact W.frame _ _ _ st₅ fun b hb o e => Rc.base.2.2.2 b o (by rw [eFB]; exact hfpF b hb) e
  · have : i = H := Nat.le_antisymm hi hge
    subst this
    refine W.done t' _ _ st fun h' tk hc => ?_
    have G : Fx s [] mg mb env [⟨"above", Array UInt8, RBA, b⟩, ⟨"ways", Value, RVal, .ref lw⟩, ⟨"unit", Int, RInt, (u : Int)⟩, ⟨"lines", Value, RVal, .ref ll⟩] [⟨"done", D, List Int, RF s.heap (RList RInt), rowsOf i n outF⟩] [] [] { t' with heap := h', toks := tk } :=
      Ft.chgZL (s' := { t' with heap := h', toks := tk }) (d := [zz, TO, i1, i2]) (Z' := []) (fun _ h => h) (fun _ h => by simp at h) (by rw [eFB]; exact hNF) hNo (fun a ha => .inr (hNs a ha)) ⟨rfl, rfl, rfl, hc⟩ (fun _ h => by simp at h)
    refine wpG_execs_nil (wpG_execs_cons (wpG.any (wpAny_Return_some (wpAny_Name (loadName_any G.kind (G.name_m (m := ⟨"done", D, List Int, RF s.heap (RList RInt), rowsOf i n outF⟩) List.mem_cons_self) ?_ (by kernel_rfl)) (by kernel_rfl)))))
    obtain ⟨_, vs, hlD, hpD⟩ := G.mts _ List.mem_cons_self
    refine hQ _ _ (fun h2 kk => ⟨D, vs, rfl, hlD.at fun o e => kk D o hDs e, paired_mono (fun v x (r : Rd (RF s.heap (RList RInt)) _ _ v x) => r.r h2 kk) hpD⟩) ⟨h', tk, ?_, G.upOld⟩
    exact G.base.eq
end
end Mine

namespace Mine

/-- the caller's thread ends, where its call was walked in wpG -/
theorem callerEnds {prog : Program} {w : World} {t : Sem PySem.Fin} {s : Shared} {R : Result → Shared → Prop} (hz : s.asleep)
    (h : wpG (model prog w) callerA t (fun fin s' => ∃ f, fin = .done f ∧ R (.ok f) s' ∧ AllBare s'.gens) (fun e s' => R (.error e) s' ∧ AllBare s'.gens) s) :
    ∃ n r s' s'', runN (denote table) prog w n s ⟨t, .builtin "claim.caller" {}, default, []⟩ = .halted (outcomeOf r) s' ∧
      schedN (denote table) prog w n (.single s ⟨t, .builtin "claim.caller" {}, default, []⟩) = .halted (outcomeOf r) s' ∧ s'.forget = s''.forget ∧ R r s'' := by
  have nh : NoHold (⟨.builtin "claim.caller" {}, none, none, [], none⟩ : Ctx) := ⟨by decide +kernel, fun x hx => by simp at hx⟩
  have hwp := Sem.wp_mono (model prog w) ⟨.builtin "claim.caller" {}, none, none, [], none⟩ t (post' := Sem.finPost (model prog w) ⟨.builtin "claim.caller" {}, none, none, [], none⟩ fun r s' => R r s' ∧ leftWithCleanup s'.gens = false) (exc' := fun e _ s' => R (.error e) s' ∧ leftWithCleanup s'.gens = false)
    (fun fin p' s' ⟨f, e, a, b⟩ => by subst e; exact ⟨a, leftWithCleanup_false_of_bare b⟩) (fun _ _ _ ⟨a, b⟩ => ⟨a, leftWithCleanup_false_of_bare b⟩) default s (h _ default caller_in nh)
  obtain ⟨n, r, s₁, s₂, hs, hn, hfo, hR⟩ := wp_halts_full (M := model prog w) (R := R) hz hwp
  exact ⟨n, r, s₂, s₁, hn, hs, hfo, hR⟩

/-- the walk that the head asks, in wpG -/
abbrev WalkH (q : Program) (loose : List Str) (XP : (Str → Option Value) → Heap → Prop) (YP : World → Heap → Prop) (r : RowW) (d : DefRec) (kwd : List (Str × Expr)) : Prop :=
  ∀ (w : World) (s₀ s₁ : Shared) (mg mb : Str → Option Value), Ground q loose r.records XP w s₀ mg mb s₁.heap → YP w s₁.heap → ∀ (a : Addr) (o : Obj) (pm cd doc dV kV : Value), s₁.heap.get? a = some o →
    o.data = .func { Calls.docDef d.name d.params d.body d.scope pm cd doc with defaults := dV, kwdefaults := kV } → s₁.heap.CodeRec cd d.name → Dflts mg s₁.heap d.params kwd dV kV → mg d.name = some (.ref a) → s₁.gens = #[] →
    ∀ (args : List WData) (vals : List Value) (as : List Addr), r.claim.pre args = true → WData.layableAll args = true → ReadsAllW r.records (classAt s₀.heap) s₁.heap vals args as → WellAll w.params s₁.heap vals args → (∀ a ∈ as, (a == sysModules) = false) →
      wpG (model r.prog w) callerA (call (.ref a) vals) (fun v s' => GoodWG r.claim (classAt s₀.heap) (ExcName.means s₀.heap) args s₁ (.ok (.ret v)) s')
        (fun e s' => GoodWG r.claim (classAt s₀.heap) (ExcName.means s₀.heap) args s₁ (.error e) s') s₁

end Mine

namespace Mine.PySem.W
theorem holds_open {r : OpenRow} {q : Program} {loose : List Str} {Xt : Shared → Bool} {XP : (Str → Option Value) → Heap → Prop} {α : Type} {Yf : Shared → α} {Ya : World → α} {YP : World → Heap → Prop} {d : DefRec} {kwd : List (Str × Expr)} {N : Nat}
    (left : LeftO r.prog q loose Xt Yf Ya N) (hY : ∀ w s, Yf s = Ya w → YP w s.heap) (hYk : ∀ w h h', YP w h → (∀ b o, h.get? b = some o → h'.get? b = some o) → YP w h')
    (hX : ∀ s, Xt s = true → XP (s.heap.nsMap mainGlobals) s.heap) (hXk : ∀ mg h h', XP mg h → (∀ b o, h.get? b = some o → h'.get? b = some o) → XP mg h')
    (hdef : defOf q r.name = some (d, kwd)) (hp : r.prog.theDef r.name = some (d.params, d.body, d.scope)) (hk : kwWritten? d.params.kwonlyargs d.params.kw_defaults = some kwd) (hRf : ∀ s, Xt s = true → RecFacts r.records s.heap) (hwr : (!r.writes || r.records.isEmpty) = true)
    (k1 : r.wellSaid = true) (ok : (chainsOk q && opensWell r.prog && (frees r.toRowW && r.within.isEmpty)) = true) (hb : r.prog.bare) (hw : r.toRowW.promised)
    (walk : WalkH q loose XP YP r.toRowW d kwd) : r.Holds := by
  simp only [Bool.and_eq_true] at ok
  obtain ⟨⟨hch, o1⟩, k5, k6⟩ := ok
  obtain ⟨hsame, hu, ha, hap, hm⟩ := frees_parts k5
  refine ⟨k1, hw, ⟨hb, o1, by show r.makers.map _ = []; rw [hm]; rfl⟩, hw.witness, fun w => ?_⟩
  have LB := left.behind (XP := fun mg h => XP mg h ∧ RecFacts r.records h) (fun s hs => ⟨hX s hs, hRf s hs⟩) hch w
  refine ⟨LB.1, fun s' hs' => ?_⟩
  obtain ⟨s₀, hf, hg0, s, hT, hz, hgens, hg, G00, y⟩ := LB.2 s' hs'
  have RF := G00.X.2
  have G0 : Ground q loose [] XP w s (s.heap.nsMap mainGlobals) (s.heap.nsMap builtinsNs) s.heap := { G00 with X := G00.X.1 }
  have G : Ground q loose r.records XP w s (s.heap.nsMap mainGlobals) (s.heap.nsMap builtinsNs) s.heap := RF.ground G0
  have hgens : s.gens = #[] := Array.eq_empty_of_size_eq_zero (beq_iff_eq.mp hgens)
  refine ⟨s₀, hf, hg0, s, hT, fun n hn => ?_, RF.1, RF.2.1, fun args hpre hlay ord hord => ?_⟩
  · obtain rfl : n = r.name := by split at hn <;> simp_all
    exact pinned_of_view hg G0 hdef hp hk
  obtain ⟨⟨vs, s₁⟩, hlaid⟩ := Option.isSome_iff_exists.mp (layAllW_isSome (P := w.params) (ord := ord) G.has args r.args s (pre_splitW hpre).1)
  have keeps := layAllW_keeps _ _ _ hlaid
  have hal := layAllW_rest _ _ _ hlaid
  obtain ⟨as, hrd, hin, hold⟩ := reads_layAllW hord _ _ _ hlaid hlay s₁.heap (fun _ _ e => e)
  have L : Laid r.records w s s₁ args vs as := ⟨⟨ord, hord, hlaid⟩, hrd, hin, hold, keeps, hal.1.trans hgens, hal.2.2.1⟩
  have G₁ := G.keeps hXk keeps
  obtain ⟨a, o, pm, cd, doc, dV, kV, h1, h2, h3, h4, h5⟩ := G₁.fn hdef
  have hwalk := walk w s s₁ _ _ G₁ (hYk _ _ _ (hY w s y) keeps) a o pm cd doc dV kV h2 h3 h4 h5 (defOf_name hdef ▸ h1) L.gens args vs as hpre hlay L.reads L.well (L.low G.low)
  have hi := ident_freeW hu ha hap
  have hwi : r.toRowW.claim.within = [] := List.isEmpty_iff.mp k6
  have ends : ∀ res s', GoodWG r.toRowW.claim (classAt s.heap) (ExcName.means s.heap) args s₁ res s' → _ := fun res s' g => g.laid (c := r.toRowW.claim) hsame hwi hi L
  have kept : ∀ kps res s', GoodWG r.toRowW.claim (classAt s.heap) (ExcName.means s.heap) args s₁ res s' → namesKept r.prog kps s.heap s'.heap := fun kps res s' g => namesKept_of hT hg kps keeps g.2.1.old
  obtain ⟨k, res, t, t', hrun, hsched, hfo, hE, hO, hK⟩ := callerEnds (prog := r.prog) (w := w) (s := s₁) (t := do match ← nsGet mainNs r.name with
      | some f => do ret (← PySem.call f vs)
      | none => unsupported "claim.caller:no-such-global")
    (R := fun res s' => r.toRowW.claim.Ends s args vs s₁ res s' ∧ s'.os = s.os ∧ GoodWG r.toRowW.claim (classAt s.heap) (ExcName.means s.heap) args s₁ res s')
    (Shared.asleep_of_life hal.2.2.2 hz)
    (wpG_bind (wpG.any (wpAny_nsGet G₁.T.g (by
      rw [h1]
      exact wpG_bind (wpG_mono hwalk (fun v s' g => wpG_pure ⟨_, rfl, ⟨(ends _ _ g).1, (ends _ _ g).2.1, g⟩, (ends _ _ g).2.2⟩) fun e s' g => ⟨⟨(ends _ _ g).1, (ends _ _ g).2.1, g⟩, (ends _ _ g).2.2⟩)))))
  obtain ⟨eh, _, _, eo, _⟩ := Shared.forget_eq hfo
  have hE := hE.congr eh
  have hlife : t.heap.life = s.heap.life := (runN_life _ _ _ hrun).trans hal.2.2.2
  have hN : r.writes = true → namesKept r.prog r.keeps s.heap t.heap := fun _ => by rw [eh]; exact kept _ _ _ hK
  refine ⟨vs, s₁, hlaid, k, _, t, hsched, ?_, fun _ i x hx => by rw [hgens] at hx; simp at hx, fun q => ⟨hN q, noTable hwr q⟩, by rw [hlife], Shared.rest_eq (eo.trans hO)⟩
  rcases hE with ⟨v, rfl, d1, d2, d3, d4, d5⟩ | ⟨e, ob, cls, rfl, d1, d2, d3, d4, d5⟩
  · exact .inl ⟨v, rfl, d1, d2, d3, fun b o y _ => d4 b o y, d5⟩
  · exact .inr ⟨e, ob, cls, rfl, d1, d2, d3, d4, fun b o y _ => d5 b o y⟩
end Mine.PySem.W

namespace Mine

section
variable {prog : Program} {w : World} {A : Around} {E : Value → Shared → Prop} {Q : Flow → Shared → Prop} {sb s : Shared} {Bb : List Addr} {mg mb : Str → Option Value} {env : Env} {vars : List Var} {ms : List MVar} {X Z : List Addr}
variable {α β γ δ : Type} {R : Rep α} {S : Rep β}

/-- x = [e for y in it], stored by the comprehension itself -/
theorem x_comp1 {x y : Str} {px py pos pos' : Pos} {elt iter : Expr} {scope : Scope} {rest : List Stmt} {RI : Rep γ} {gI : γ} {xs : List β} {cap : List Var} (g : β → α) (F : Fx sb Bb mg mb env vars ms X Z s)
    (hi : Ev prog w A mg mb env (vars ++ ms.map MVar.var) iter RI gI) (hit : Itb prog w A S RI gI xs) (ok : ScopeOk scope env (vars ++ ms.map MVar.var) cap) (lv : LoopVar scope y)
    (helt : ∀ C, ∀ xv ∈ xs, EvF prog w A mg mb (cEnv scope env C) (⟨y, β, S, xv⟩ :: cap) elt R (g xv)) (hsz : xs.length ≤ sizeLine) (hs : ∀ v, foldedSetIterable iter env v = pure v)
    (hsw : swapsWith (.ListComp elt [⟨.Name y py, iter, [], 0⟩] scope pos') (some (.Name x px)) pos.line env = pure true)
    (hk : CanStore env x) (hv : (vars.all fun e => e.x != x) = true) (hm : (ms.all fun m => m.x != x) = true)
    (k : ∀ s', Fx sb Bb mg mb env (⟨x, List α, RList R, xs.map g⟩ :: vars) ms X Z s' → wpAny (model prog w) A (execs rest env) Q E s') :
    wpAny (model prog w) A (execs (.Assign [.Name x px] (.ListComp elt [⟨.Name y py, iter, [], 0⟩] scope pos') pos :: rest) env) Q E s := by
  refine wpAny_execs_cons ?_
  rw [exec_Assign_Name_used _ _ _ _ hsw, arm_evalThenUse_ListComp]
  refine wpAny_bind (wpAny_standAt (wpAny_bind (wpAny_bind ?_)))
  refine wpAny_comprehension_free (use := some (assign (.Name x px) env)) rfl hs (ok.clos F.cx) ok.kind ok.names ?_
  show wpAny _ _ (eval iter env) _ _ _
  refine wpAny_mono (hi s E F.cx) (fun v s₁ ⟨r, g₁⟩ => ?_) fun _ _ q => q
  have F₁ := F.grow g₁
  refine comp1_core (fun _ => true) g F₁.cx ok lv r hit (fun C xv hx s E c => wpAny_tests_nil ⟨rfl, Grows.refl s⟩) (fun C xv hx _ => helt C xv hx) hsz ?_
  intro D C h₄ h' tk vs m hD hC hDC u₄ lC lD up hmC hl hp
  rw [List.filter_eq_self.mpr (fun _ _ => rfl)] at hp
  have lC' : (h'.get? C).isSome = true := by obtain ⟨o, _, _, ho, _⟩ := hmC; rw [ho]; rfl
  have F₂ : Fx sb Bb mg mb env vars ms X (C :: Z) { s₁ with heap := h', toks := tk } := F₁.widenZ (s₁ := { s₁ with heap := h', toks := tk }) ⟨h', tk, rfl, up⟩ hC lC'
  have hCF : C ∉ FB env ms X := fun hm => by have := F₁.live C hm; rw [hC] at this; cases this
  have hCout := not_out F₁.glo (N := [C]) (fun b hb => by rw [List.mem_singleton.mp hb]; exact hC)
  have rd : Rd (RList R) (FB env ms X ++ (C :: Z)) h' (.ref D) (xs.map g) := fun h2 c => by
    refine ⟨D, vs, rfl, hl.at fun o e => c D o (fun hm => ?_) e, paired_mono (fun v x (f : Frsh R h₄ h' v x) => (f.chg c fun b hb => ?_).r) hp⟩
    · rcases List.mem_append.mp hm with q | q
      · have := F₁.live D q; rw [hD] at this; cases this
      · rcases List.mem_cons.mp q with q | q
        · exact hDC q
        · have := F₁.liveZ D q; rw [hD] at this; cases this
    · rcases List.mem_append.mp hb with q | q
      · exact u₄.dom b (F₁.live b q)
      · rcases List.mem_cons.mp q with q | q
        · rw [q]; exact lC
        · exact u₄.dom b (F₁.liveZ b q)
  refine wpAny_assign_Name (F₂.store hk rd hv hm fun s₃ F₃ _ c₃ => ?_)
  have hCl : C ∉ env.locals :: env.cells.map (·.2) := fun hm => by
    rcases List.mem_cons.mp hm with q | q
    · exact hCF (q ▸ loc_fb)
    · exact hCF (cells_fb q)
  refine ⟨m, (let ⟨o, es, ep, ho, r⟩ := hmC; ⟨o, es, ep, c₃ _ _ hCl ho, r⟩), fun h'' hs'' => ?_⟩
  have F₄ := F₃.chgZ (s' := { s₃ with heap := h'' }) (d := C) (Z' := Z) List.mem_cons_self (fun _ h => List.mem_cons_of_mem _ h) hCF
    ⟨fun e => hCout.1 (by simp [e]), fun e => hCout.2.1 (by simp [e]), fun e => hCout.2.2 (by simp [e])⟩
    (by
      by_cases q : C ∈ Bb
      · exact .inl q
      · exact .inr (stay_live F₁.base q hC))
    ⟨rfl, rfl, rfl, Chg.of_same hs'' List.mem_cons_self⟩ (fun b hb e => by
      have := F₁.liveZ b hb
      rw [e, hC] at this
      cases this)
  exact wpAny_pure (wpAny_pure (k _ F₄))

/-- values, stored one after the other -/
theorem tup_stores2 {x y : Str} {px py p pt pos : Pos} {k k' : Nat} {e1 e2 : Expr} {rest : List Stmt} (hh : A.handled = none)
    (hs : swapsWithSole [.Tuple [.Name x px, .Name y py] k p] (.Tuple [e1, e2] k' pt) pos.line env = pure false) (hw : swappedStores [.Tuple [.Name x px, .Name y py] k p] (.Tuple [e1, e2] k' pt) env = pure none)
    (hst : backTo pt (starEach [e1, e2] env) = [(false, eval e1 env), (false, eval e2 env)])
    (h : wpAny (model prog w) A (eval e1 env) (fun v1 s1 => wpAny (model prog w) A (eval e2 env) (fun v2 s2 => ∀ s3, Grows s2 s3 →
      wpAny (model prog w) A (storeName env x v1) (fun _ s4 => wpAny (model prog w) A (storeName env y v2) (fun _ s5 => wpAny (model prog w) A (execs rest env) Q E s5) E s4) E s3) E s1) E s) :
    wpAny (model prog w) A (execs (.Assign [.Tuple [.Name x px, .Name y py] k p] (.Tuple [e1, e2] k' pt) pos :: rest) env) Q E s := by
  refine wpAny_execs_cons (wpAny_Assign_stores ?_ hs hw)
  refine wpAny_Tuple ?_
  rw [hst]
  refine Calls.spliced_cons (wpAny_mono h (fun v1 s1 h1 => ?_) fun _ _ q => q)
  refine Calls.spliced_cons (wpAny_mono h1 (fun v2 s2 h2 => Calls.spliced_nil ⟨by simp [sizeLine], ?_⟩) fun _ _ q => q)
  show wpAny _ _ (assign (.Tuple [.Name x px, .Name y py] k p) env (.ref s2.heap.objs.size)) _ _ _
  refine (assign_Tuple_tuple hh (items := #[v1, v2]) ⟨_, Heap.get?_push_size _ rfl, rfl, _, rfl⟩ rfl rfl fun h' he => ?_)
  have h3 := h2 { s2 with heap := h' } ⟨h', s2.toks, rfl, fun b o e => he b o (Nat.ne_of_lt (Heap.lt_size (Heap.get?_push_of_some _ e))) (Heap.get?_push_of_some _ e)⟩
  show wpAny _ _ (holding [v2] (assign (.Name x px) env v1) >>= fun _ => (holding [] (assign (.Name y py) env v2) >>= fun _ => pure ())) _ _ _
  refine wpAny_bind (wpAny_holding (wpAny_assign_Name (wpAny_mono h3 (fun _ s4 h4 => ?_) fun _ _ q => q)))
  exact wpAny_bind (wpAny_holding (wpAny_assign_Name (wpAny_mono h4 (fun _ s5 h5 => wpAny_pure h5) fun _ _ q => q)))
theorem tup_stores3 {x y z : Str} {px py pz p pt pos : Pos} {k k' : Nat} {e1 e2 e3 : Expr} {rest : List Stmt} (hh : A.handled = none)
    (hs : swapsWithSole [.Tuple [.Name x px, .Name y py, .Name z pz] k p] (.Tuple [e1, e2, e3] k' pt) pos.line env = pure false) (hw : swappedStores [.Tuple [.Name x px, .Name y py, .Name z pz] k p] (.Tuple [e1, e2, e3] k' pt) env = pure none)
    (hst : backTo pt (starEach [e1, e2, e3] env) = [(false, eval e1 env), (false, eval e2 env), (false, eval e3 env)])
    (h : wpAny (model prog w) A (eval e1 env) (fun v1 s1 => wpAny (model prog w) A (eval e2 env) (fun v2 s2 => wpAny (model prog w) A (eval e3 env) (fun v3 s3 => ∀ s4, Grows s3 s4 →
      wpAny (model prog w) A (storeName env x v1) (fun _ s5 => wpAny (model prog w) A (storeName env y v2) (fun _ s6 => wpAny (model prog w) A (storeName env z v3) (fun _ s7 => wpAny (model prog w) A (execs rest env) Q E s7) E s6) E s5) E s4) E s2) E s1) E s) :
    wpAny (model prog w) A (execs (.Assign [.Tuple [.Name x px, .Name y py, .Name z pz] k p] (.Tuple [e1, e2, e3] k' pt) pos :: rest) env) Q E s := by
  refine wpAny_execs_cons (wpAny_Assign_stores ?_ hs hw)
  refine wpAny_Tuple ?_
  rw [hst]
  refine Calls.spliced_cons (wpAny_mono h (fun v1 s1 h1 => ?_) fun _ _ q => q)
  refine Calls.spliced_cons (wpAny_mono h1 (fun v2 s2 h2 => ?_) fun _ _ q => q)
  refine Calls.spliced_cons (wpAny_mono h2 (fun v3 s3 h3 => Calls.spliced_nil ⟨by simp [sizeLine], ?_⟩) fun _ _ q => q)
  show wpAny _ _ (assign (.Tuple [.Name x px, .Name y py, .Name z pz] k p) env (.ref s3.heap.objs.size)) _ _ _
  refine (assign_Tuple_tuple hh (items := #[v1, v2, v3]) ⟨_, Heap.get?_push_size _ rfl, rfl, _, rfl⟩ rfl rfl fun h' he => ?_)
  have h4 := h3 { s3 with heap := h' } ⟨h', s3.toks, rfl, fun b o e => he b o (Nat.ne_of_lt (Heap.lt_size (Heap.get?_push_of_some _ e))) (Heap.get?_push_of_some _ e)⟩
  show wpAny _ _ (holding [v2, v3] (assign (.Name x px) env v1) >>= fun _ => (holding [v3] (assign (.Name y py) env v2) >>= fun _ => (holding [] (assign (.Name z pz) env v3) >>= fun _ => pure ()))) _ _ _
  refine wpAny_bind (wpAny_holding (wpAny_assign_Name (wpAny_mono h4 (fun _ s5 h5 => ?_) fun _ _ q => q)))
  refine wpAny_bind (wpAny_holding (wpAny_assign_Name (wpAny_mono h5 (fun _ s6 h6 => ?_) fun _ _ q => q)))
  exact wpAny_bind (wpAny_holding (wpAny_assign_Name (wpAny_mono h6 (fun _ s7 h7 => wpAny_pure h7) fun _ _ q => q)))
end
end Mine

namespace Mine

theorem mapSeq_list (f : Array Value → Array Value) (its : Array Value) (n : Nat) : ∃ n', Obj.mapSeq f { cls := .type "list", data := .seq its n } = { cls := .type "list", data := .seq (f its) n' } := by
  unfold Obj.mapSeq; exact ⟨_, rfl⟩
theorem plain_update {h : Heap} {l : Addr} {its : Array Value} (f : Array Value → Array Value) (hl : h.PlainList l its) : (h.update l (Obj.mapSeq f)).PlainList l (f its) := by
  obtain ⟨n, ho⟩ := hl
  obtain ⟨n', e⟩ := mapSeq_list f its n
  exact ⟨n', by rw [Heap.get?_update_self _ ho (by rw [e]; rfl), e]⟩

section
variable {prog : Program} {w : World} {A : Around} {E : Value → Shared → Prop} {s : Shared}

theorem setItem_plain {l : Addr} {items : Array Value} {k : Int} {t : Tok} {v : Value} {Q : Unit → Shared → Prop} (hl : s.heap.PlainList l items) (h0 : 0 ≤ k) (hfit : k < 2 ^ 63) (hn : k < items.size)
    (hQ : ∀ h', h'.PlainList l (items.setIfInBounds k.toNat v) → Heap.SameBut l s.heap h' → Q () { s with heap := h' }) :
    wpAny (model prog w) A (setItem (.ref l) (.int k t) v) Q E s := by
  obtain ⟨n, ho⟩ := id hl
  have hT : s.TypeIs (.ref l) "list" := ⟨_, ho, rfl⟩
  unfold setItem
  try with_reducible refine wpAny_holding ?_
  first | refine wpAny_bind (wpAny_pure ?_) | skip
  refine wpAny_bind (wpAny_sequenceKey hT (by decide) ?_)
  refine wpAny_bind (wpAny_callSpecial?_slot (name := Str.ofString "__setitem__") hT slot_list_setitem
    (wpAny_call_entry slot_list_setitem hT entry_list_setitem ?_ (args_list_setitem _ _ _)))
  show wpAny _ _ (Builtin.List.listSubscript? (.int k t) >>= _) _ _ s
  refine wpAny_bind (wpAny_listSubscript_int (fitsIndex_of h0 hfit) ?_)
  clear hfit
  obtain ⟨j, rfl⟩ := Int.eq_ofNat_of_zero_le h0
  have hj : j < items.size := by omega
  have hx' : items[j]? = some items[j] := Array.getElem?_eq_getElem hj
  show wpAny _ _ ((seqItemAt l j >>= fun r => pure (r.map (j, ·))) >>= _) _ _ s
  refine wpAny_bind (wpAny_bind (wpAny_seqItemAt ho rfl (wpAny_pure ?_)))
  rw [hx']
  refine wpAny_bind (wpAny_setSeqItemAt ho rfl ?_)
  have fin := hQ _ (plain_update (·.setIfInBounds j v) hl) (Heap.SameBut.update ..)
  first
    | exact wpAny_bind (wpAny_pure (wpAny_pure ⟨.none, rfl, wpAny_pure fin⟩))
    | exact wpAny_pure ⟨.none, rfl, wpAny_pure fin⟩

theorem seqI_list : seqSlot? (.type "list") (dunderI "add") = pure (some (.builtin "list.__iadd__")) := PySem.seqSlot_of PySem.F.slot_list_iadd.lookup (by decide +kernel)
theorem fillI_list : fillsInplaceSlot (.type "list") "add" true = pure false := by
  unfold fillsInplaceSlot
  show (typeLookup (.type "list") (dunderI "add") >>= fun fi => pure (fi.isSome && !isSeqSlot fi)) = pure false
  rw [PySem.F.slot_list_iadd.lookup]
  rfl

/-- list += list -/
theorem iadd_lists {l b : Addr} {xs ys : Array Value} {Q : Value → Shared → Prop} (hl : s.heap.PlainList l xs) (hb : s.heap.IsList b ys) (hz : xs.size + ys.size ≤ sizeLine)
    (hQ : ∀ h', h'.PlainList l (xs ++ ys) → Heap.SameBut l s.heap h' → Q (.ref l) { s with heap := h' }) : wpAny (model prog w) A (inplaceOp .Add (.ref l) (.ref b)) Q E s := by
  obtain ⟨n, ho⟩ := id hl
  obtain ⟨ob, hob, hbc, nb, hbd⟩ := id hb
  have hT : s.TypeIs (.ref l) "list" := ⟨_, ho, rfl⟩
  have hTb : s.TypeIs (.ref b) "list" := ⟨_, hob, hbc⟩
  unfold inplaceOp
  refine wpAny_holding ?_
  refine wpAny_bind (wpAny_typeOf hT (wpAny_bind (wpAny_of_eq fillI_list ?_)))
  show wpAny _ _ (if false = true then _ else _) Q E s
  rw [if_neg Bool.false_ne_true]
  refine wpAny_bind (wpAny_binaryOp1_none (nm := "add") hT hTb noFill_list_add ?_)
  refine wpAny_bind (wpAny_of_eq seqI_list ?_)
  refine wpAny_bind (wpAny_rule ?_)
  refine wpAny_call_entry PySem.F.slot_list_iadd hT PySem.F.entry_list_iadd ?_ (PySem.F.args_list_iadd_2 _ _)
  show wpAny _ _ (Builtin.List.listExtendWith (.ref l) (.ref b) (.ref l)) _ _ s
  unfold Builtin.List.listExtendWith
  refine wpAny_bind (wpAny_typeOf (T := "list") hTb ?_)
  have h2 : (Value.type "list" == Value.type "list") = true := by decide
  simp only [h2, Bool.or_true, Bool.true_or, if_true]
  refine wpAny_bind ?_
  unfold Builtin.List.listItems
  refine wpAny_bind (wpAny_seqItems hob hbd (wpAny_pure ?_))
  refine wpAny_bind (wpAny_bind (wpAny_seqItems ho rfl (wpAny_pure ?_)))
  have hlong : Builtin.List.listTooLong (xs.size + ys.size) = false := by simp [Builtin.List.listTooLong]; omega
  rw [hlong]
  simp only [Bool.and_false, Bool.false_eq_true, if_false]
  show wpAny _ _ (updateSeq l (· ++ ys) >>= fun _ => ret (.ref l)) _ _ s
  refine wpAny_bind (wpAny_updateSeq ho rfl (wpAny_pure ⟨_, rfl, hQ _ (plain_update (· ++ ys) hl) (Heap.SameBut.update ..)⟩) ?_ ?_)
  all_goals first | (simp [sizeLine] at *; omega) | (simp; omega)
end
end Mine

namespace Mine

section
variable {prog : Program} {w : World} {A : Around} {E : Value → Shared → Prop} {Q : Flow → Shared → Prop} {sb s : Shared} {Bb : List Addr} {mg mb : Str → Option Value} {env : Env} {vars : List Var} {ms : List MVar} {X Z : List Addr}
variable {α β γ δ : Type} {R : Rep α} {S : Rep β}

/-- [e for x in it]: its list is new -/
theorem map_new {elt iter : Expr} {scope : Scope} {pos px : Pos} {x : Str} {RI : Rep γ} {gI : γ} {xs : List β} {cap : List Var} (g : β → α)
    (hi : Ev prog w A mg mb env vars iter RI gI) (hit : Itb prog w A S RI gI xs) (ok : ScopeOk scope env vars cap) (lv : LoopVar scope x)
    (helt : ∀ C, ∀ xv ∈ xs, EvF prog w A mg mb (cEnv scope env C) (⟨x, β, S, xv⟩ :: cap) elt R (g xv))
    (hsz : xs.length ≤ sizeLine) (hs : ∀ v, foldedSetIterable iter env v = pure v) (c : Cx mg mb env vars s.heap) :
    wpAny (model prog w) A (eval (.ListComp elt [⟨.Name x px, iter, [], 0⟩] scope pos) env) (fun v s' => (Frsh (RList R) s.heap s'.heap v (xs.map g) ∧ New s.heap v) ∧ Grows s s') E s := by
  rw [eval_ListComp]
  refine wpAny_comprehension_free (use := none) rfl hs (ok.clos c) ok.kind ok.names ?_
  show wpAny _ _ (eval iter env) _ _ _
  refine wpAny_mono (hi s E c) (fun v s₁ ⟨r, g₁⟩ => ?_) fun _ _ q => q
  refine comp1_core (fun _ => true) g (c.up g₁.up) ok lv r hit (fun C xv hx s E c => wpAny_tests_nil ⟨rfl, Grows.refl s⟩) (fun C xv hx _ => helt C xv hx) hsz ?_
  intro D C h₄ h' tk vs m hD hC hDC u₄ lC lD up hm hl hp
  rw [List.filter_eq_self.mpr (fun _ _ => rfl)] at hp
  refine ⟨m, hm, fun h'' hs'' => ⟨⟨?_, fun a e => by cases e; exact none_down g₁.up hD⟩, g₁.trans ⟨h'', tk, rfl, ?_⟩⟩⟩
  · refine frsh_list (h₄ := h₄) (none_down g₁.up hD) (g₁.up.trans u₄) (hl.extBut hs''.extBut hDC) ?_
    exact paired_mono (fun v x (f : Frsh R h₄ h' v x) => f.chg (Chg.of_same hs'' (List.mem_singleton.mpr rfl)) fun b hb => by simp at hb; subst hb; exact lC) hp
  · exact Chg.up up (Chg.of_same hs'' (List.mem_singleton.mpr rfl)) fun b hb => by simp at hb; subst hb; exact hC

theorem Fx.swapX {a b : Addr} (F : Fx sb Bb mg mb env vars ms (a :: b :: X) Z s) : Fx sb Bb mg mb env vars ms (b :: a :: X) Z s := by
  have hperm : (FB env ms (b :: a :: X)).Perm (FB env ms (a :: b :: X)) := by
    unfold FB
    exact List.Perm.cons _ (List.Perm.append_left _ (List.Perm.append_left _ (List.Perm.swap _ _ _)))
  have memE : ∀ c, c ∈ FB env ms (b :: a :: X) → c ∈ FB env ms (a :: b :: X) := fun c => hperm.mem_iff.mp
  exact
    { F with
      out := ⟨fun h => F.out.1 (memE _ h), fun h => F.out.2.1 (memE _ h), fun h => F.out.2.2 (memE _ h)⟩
      nd := hperm.nodup_iff.mpr F.nd
      live := fun b hb => F.live b (memE b hb)
      fresh := fun b hb => F.fresh b (memE b hb)
      var := fun e he => let ⟨v, n, r⟩ := F.var e he; ⟨v, n, r.sub (app_sub memE)⟩
      mts := fun m hm => let ⟨n, vs, hl, hp⟩ := F.mts m hm; ⟨n, vs, hl, paired_mono (fun _ _ r => r.sub (app_sub memE)) hp⟩ }

theorem exec_AugAssign_at (o : Expr) (c : Const) (k : Nat) (cp sp : Pos) (op : Operator) (value : Expr) (pos : Pos) : exec (.AugAssign (.Subscript o (.Constant c k cp) sp) op value pos) env = (do
    standAt pos
    let ov ← eval o env
    let iv ← holding [ov] (eval (.Constant c k cp) env)
    let new ← holding [ov, iv] do
      standAt sp
      let old ← getItem ov iv
      let v ← holding [old] (eval value env)
      standAt pos
      operate [old, v] (inplaceOp op old v)
    standAt sp
    holding [new, ov, iv] (setItem ov iv new)
    release [new, ov, iv] []
    pure .next) := rfl

/-- xs = [e]; xs[0] += e' -/
theorem x_lines {x : Str} {px px2 cp sp lp pos pos2 : Pos} {kk : Nat} {e1 e2 : Expr} {rest : List Stmt} {xs ys : List Int} (F : Fx sb Bb mg mb env vars ms X Z s)
    (he1 : ∀ E, wpAny (model prog w) A (eval e1 env) (fun v s' => (Frsh (RList RInt) s.heap s'.heap v xs ∧ New s.heap v) ∧ Grows s s') E s) (hst : backTo lp (starEach [e1] env) = [(false, eval e1 env)])
    (he2 : Ev prog w A mg mb env (vars ++ ms.map MVar.var) e2 (RLst RInt) ys) (hk : CanStore env x) (hv : (vars.all fun e => e.x != x) = true) (hm : (ms.all fun m => m.x != x) = true)
    (hd : (x == ("__debug__" : Str)) = false) (hn : (x == ("__classdict__" : Str)) = false) (hs : swapsWith (.List [e1] lp) (some (.Name x px)) pos.line env = pure false) (hz : xs.length + ys.length ≤ sizeLine)
    (k : ∀ a s', s.heap.get? a = none → Fx sb Bb mg mb env vars (⟨x, a, List Int, RList RInt, [xs ++ ys]⟩ :: ms) X Z s' → wpAny (model prog w) A (execs rest env) Q E s') :
    wpAny (model prog w) A (execs (.Assign [.Name x px] (.List [e1] lp) pos :: .AugAssign (.Subscript (.Name x px2) (.Constant (.int 0) kk cp) sp) .Add e2 pos2 :: rest) env) Q E s := by
  refine wpAny_execs_cons (wpAny_Assign_Name (List_ ?_) hs)
  rw [hst]
  refine Calls.spliced_cons (wpAny_mono (he1 E) (fun v s₁ ⟨⟨f, nw⟩, g₁⟩ => Calls.spliced_nil ?_) fun _ _ q => q)
  obtain ⟨i, vs, rfl, hl, hp⟩ := f.r
  have hi : s.heap.get? i = none := nw i rfl
  have Fi := F.widen g₁ hi (by obtain ⟨n, ho⟩ := hl; rw [ho]; rfl)
  refine newList_any (by simp [sizeLine]) fun ha => ?_
  have hna : s₁.heap.get? s₁.heap.objs.size = none := get?_size _
  have u₂ := Up.push s₁.heap { cls := .type "list", data := .seq ([Value.ref i] : List Value).toArray }
  generalize s₁.heap.push { cls := .type "list", data := .seq ([Value.ref i] : List Value).toArray } = h₂ at *
  generalize s₁.heap.objs.size = a at *
  have Fa := Fi.widen (s₁ := { s₁ with heap := h₂ }) ⟨h₂, s₁.toks, rfl, u₂⟩ hna (by obtain ⟨n, ho⟩ := ha; show (h₂.get? a).isSome = true; rw [ho]; rfl)
  refine Fa.store (R := RVal) (val := .ref a) hk (fun _ _ => rfl) hv hm fun s₃ F₃ n₃ c₃ => ?_
  have nl : ∀ b ∈ a :: i :: X, b ∉ env.locals :: env.cells.map (·.2) := fun b hb hm => by
    rcases List.mem_cons.mp hm with q | q
    · exact Fa.loc_ne_x hb q.symm
    · exact Fa.cell_ne_x q hb rfl
  have hli₃ : s₃.heap.PlainList i vs.toArray := hl.at fun o e => c₃ _ _ (nl i (by simp)) (u₂ _ _ e)
  have hla₃ : s₃.heap.PlainList a ([Value.ref i] : List Value).toArray := ha.at fun o e => c₃ _ _ (nl a (by simp)) e
  have hai : i ≠ a := fun e => by
    obtain ⟨n, ho⟩ := hl
    rw [e, hna] at ho
    cases ho
  refine wpAny_execs_cons ?_
  rw [exec_AugAssign_at]
  refine wpAny_bind (wpAny_standAt (wpAny_bind (wpAny_Name (loadName_any F₃.kind n₃ ?_ hn) hd)))
  refine wpAny_bind (wpAny_holding (wpAny_Constant_int ?_))
  have F₄ := F₃.grow (s' := { s₃ with toks := s₃.toks + 1 }) ⟨s₃.heap, s₃.toks + 1, rfl, Up.refl _⟩
  refine wpAny_bind (wpAny_holding (wpAny_bind (wpAny_standAt (wpAny_bind (wpAny_getItem_list (s := { s₃ with toks := s₃.toks + 1 }) hla₃.isList (by omega) (by omega) rfl ?_)))))
  have cx4 : Cx mg mb env (vars ++ ms.map MVar.var) s₃.heap := (F₄.weak (vars' := vars) fun _ he => List.mem_cons_of_mem _ he).cx
  refine wpAny_bind (wpAny_holding (wpAny_mono (he2 _ E cx4) (fun v2 s₅ ⟨r2, g₅⟩ => ?_) fun _ _ q => q))
  obtain ⟨b, us, rfl, hb, hpb⟩ := r2
  have F₅ := F₄.grow g₅
  have hli₅ : s₅.heap.PlainList i vs.toArray := hli₃.at fun o e => g₅.up _ _ e
  have hla₅ : s₅.heap.PlainList a ([Value.ref i] : List Value).toArray := hla₃.at fun o e => g₅.up _ _ e
  refine wpAny_bind (wpAny_standAt (wpAny_operating (iadd_lists hli₅ hb (by rw [List.size_toArray, List.size_toArray, paired_length hp, paired_length hpb]; exact hz) fun h₆ hl₆ hs₆ => ?_)))
  have F₆ := F₅.chgX (s' := { s₅ with heap := h₆ }) (d := [i]) (fun q hq => by rw [List.mem_singleton.mp hq]; simp) ⟨rfl, rfl, rfl, Chg.of_same hs₆ List.mem_cons_self⟩ (fun q hq => by
    rw [List.mem_singleton.mp hq]; obtain ⟨n, ho⟩ := hl₆; show (h₆.get? i).isSome = true; rw [ho]; rfl)
  have hla₆ : h₆.PlainList a ([Value.ref i] : List Value).toArray := hla₅.extBut hs₆.extBut hai.symm
  refine wpAny_bind (wpAny_standAt (wpAny_bind (wpAny_holding (setItem_plain (s := { s₅ with heap := h₆ }) hla₆ (by omega) (by omega) (by simp) fun h₇ hl₇ hs₇ => ?_))))
  have F₇ := F₆.chgX (s' := { s₅ with heap := h₇ }) (d := [a]) (fun q hq => by rw [List.mem_singleton.mp hq]; simp) ⟨rfl, rfl, rfl, Chg.of_same hs₇ List.mem_cons_self⟩ (fun q hq => by
    rw [List.mem_singleton.mp hq]; obtain ⟨n, ho⟩ := hl₇; show (h₇.get? a).isSome = true; rw [ho]; rfl)
  have hli₇ : h₇.PlainList i (vs ++ us).toArray := by
    have := hl₆.extBut hs₇.extBut hai
    simpa using this
  refine wpAny_bind (wpAny_release (wpAny_pure ?_))
  have n₇ : NameIs h₇ env x (.ref a) := F₇.nameVal List.mem_cons_self
  have Fs := F₇.swapX
  have hni := Fs.x_notin
  have hiZ : i ∉ Z := fun hm => by have := F.liveZ i hm; rw [hi] at this; cases this
  have hl₇' : h₇.PlainList a ([Value.ref i] : List Value).toArray := by simpa using hl₇
  refine k a _ (none_down g₁.up hna) ((Fs.narrow.weak (vars' := vars) fun _ he => List.mem_cons_of_mem _ he).promote n₇ hl₇' (.cons ?_ .nil))
  intro h' c
  refine ⟨i, vs ++ us, rfl, hli₇.at fun o e => c i o (fun hm => (List.mem_append.mp hm).elim hni hiZ) e, paired_append (paired_mono (fun _ _ r => r) hp) (paired_mono (fun _ _ r => r) hpb)⟩
end
end Mine

namespace Mine

section
variable {prog : Program} {w : World} {A : Around} {mg mb : Str → Option Value} {env : Env} {vars : List Var}

theorem eqAt_ints {s : Shared} {l b : Addr} {vs us : List Value} {xs : List Int} (hl : s.heap.IsList l vs.toArray) (hb : s.heap.IsList b us.toArray) (hp : Paired (RInt.r s.heap) vs xs) (hq : Paired (RInt.r s.heap) us xs) (hu : A.units < cLine) :
    SeqAt.EqAt A s (.ref l) (.ref b) true := by
  by_cases e : l = b
  · subst e; exact SeqAt.EqAt.same _
  · refine SeqAt.EqAt.of_refs e ?_
    have hsz : vs.toArray.size = us.toArray.size := by rw [List.size_toArray, List.size_toArray, paired_length hp, paired_length hq]
    have h := SeqAt.RcAt.lists (e := fun _ => true) hl hb hsz hu fun j h1 h2 => by
      rw [List.size_toArray] at h1 h2
      obtain ⟨x, hx, t, e1⟩ := paired_get' hp (i := j) (v := vs[j]) (List.getElem?_eq_getElem h1)
      obtain ⟨y, hy, u, e2⟩ := paired_get' hq (i := j) (v := us[j]) (List.getElem?_eq_getElem h2)
      rw [hx] at hy
      cases hy
      have := SeqAt.EqAt.int_int (A := A.in1) (s := s) x t x u
      rw [beq_self_eq_true] at this
      simp only [List.getElem_toArray]
      rw [e1, e2]
      exact this
    rwa [List.all_eq_true.mpr fun _ _ => rfl] at h

/-- xs == ys, two lists of lists of ints that read alike -/
theorem Ev.eqLL {a b : Expr} {pos : Pos} {xs : List (List Int)} (ha : Ev prog w A mg mb env vars a (RLst (RLst RInt)) xs) (hb : Ev prog w A mg mb env vars b (RLst (RLst RInt)) xs) (hu : A.units + 1 < cLine) (hm : behindInMarks .Eq b = false) :
    Ev prog w A mg mb env vars (.Compare a [.Eq] [b] pos) RBool true := fun s E c => by
  refine wpAny_Compare1 (ev2 ha hb c ?_) hm
  rintro _ _ s' ⟨l, vs, rfl, hl, hp⟩ ⟨l', us, rfl, hl', hq⟩ g
  have hsz : vs.toArray.size = us.toArray.size := by rw [List.size_toArray, List.size_toArray, paired_length hp, paired_length hq]
  refine SeqAt.eq_listAt (e := fun _ => true) hl hl' hsz (by omega) (fun j h1 h2 => ?_) ?_
  · rw [List.size_toArray] at h1 h2
    obtain ⟨x, hx, r1⟩ := paired_get' hp (i := j) (v := vs[j]) (List.getElem?_eq_getElem h1)
    obtain ⟨y, hy, r2⟩ := paired_get' hq (i := j) (v := us[j]) (List.getElem?_eq_getElem h2)
    rw [hx] at hy
    cases hy
    obtain ⟨i1, v1, e1, l1, p1⟩ := r1
    obtain ⟨i2, v2, e2, l2, p2⟩ := r2
    simp only [List.getElem_toArray]
    rw [e1, e2]
    exact eqAt_ints (A := A.in1) l1 l2 p1 p2 hu
  · rw [List.all_eq_true.mpr fun _ _ => rfl]
    exact ⟨rfl, g⟩
end
end Mine

namespace Mine

theorem mulok {a b : Int} (h : a.natAbs < 2 ^ 63) : IntMulOk a b := by
  refine IntMulOk.of_left ?_
  unfold Builtin.Int.intBits
  split
  · decide
  · rename_i q
    have hn : a.natAbs ≠ 0 := fun e => q (by simpa using Int.natAbs_eq_zero.mp e)
    have := (Nat.log2_lt hn).mpr h
    omega

theorem mem_rangeL {a b k : Int} (h : k ∈ rangeL a b) : a ≤ k ∧ k < b := by
  simp only [rangeL, List.mem_map, List.mem_range] at h
  obtain ⟨i, hi, rfl⟩ := h
  omega

structure Bts (mg mb : Str → Option Value) : Prop where
  range : mg "range" = none ∧ mb "range" = some (.type "range")
  len : mg "len" = none ∧ mb "len" = some (.builtin "len")
  sum : mg "sum" = none ∧ mb "sum" = some (.builtin "sum")
  max : mg "max" = none ∧ mb "max" = some (.builtin "max")

section
variable {prog : Program} {w : World} {A : Around} {E : Value → Shared → Prop} {Q : Flow → Shared → Prop} {sb s : Shared} {Bb : List Addr} {mg mb : Str → Option Value} {env : Env} {vars : List Var} {ms : List MVar} {X Z : List Addr}
variable {α β γ δ : Type} {R : Rep α} {S : Rep β} {T : Rep γ}

theorem ScopeOk.of {scope : Scope} {caps : List Var} (h1 : scope.kind = .function) (h2 : (scope.names.all fun x => x.2 != .local || scope.names.lookup x.1 == some .local) = true) (h3 : ∀ e ∈ caps, e ∈ vars)
    (h4 : (caps.all fun e => capOk scope env e.x) = true) (h5 : (scope.names.all fun p => p.2 != .free || caps.any fun e => e.x == p.1) = true) : ScopeOk scope env vars caps where
  kind := h1
  names := fun x hx hl => by
    have := List.all_eq_true.mp h2 x hx
    simp only [Bool.or_eq_true, bne_iff_ne, beq_iff_eq] at this
    rcases this with q | q
    · exact absurd hl q
    · exact q
  cap := fun e he => ⟨h3 e he, List.all_eq_true.mp h4 e he⟩
  free := fun n hm => by
    have := List.all_eq_true.mp h5 _ hm
    simp only [Bool.or_eq_true, bne_iff_ne, List.any_eq_true, beq_iff_eq] at this
    rcases this with q | ⟨e, he, q⟩
    · exact absurd rfl q
    · exact ⟨e, he, q⟩

theorem x_tup3I {x y z : Str} {px py pz p pt pos : Pos} {k k' : Nat} {e1 e2 e3 : Expr} {rest : List Stmt} {a b c : Int} (hh : A.handled = none) (F : Fx sb Bb mg mb env vars ms X Z s)
    (hs : swapsWithSole [.Tuple [.Name x px, .Name y py, .Name z pz] k p] (.Tuple [e1, e2, e3] k' pt) pos.line env = pure false) (hw : swappedStores [.Tuple [.Name x px, .Name y py, .Name z pz] k p] (.Tuple [e1, e2, e3] k' pt) env = pure none)
    (hst : backTo pt (starEach [e1, e2, e3] env) = [(false, eval e1 env), (false, eval e2 env), (false, eval e3 env)])
    (h1 : Ev prog w A mg mb env (vars ++ ms.map MVar.var) e1 RInt a) (h2 : Ev prog w A mg mb env (vars ++ ms.map MVar.var) e2 RInt b) (h3 : Ev prog w A mg mb env (vars ++ ms.map MVar.var) e3 RInt c)
    (hx : CanStore env x) (hy : CanStore env y) (hz : CanStore env z) (hv1 : (vars.all fun e => e.x != x && e.x != y && e.x != z) = true) (hm1 : (ms.all fun e => e.x != x && e.x != y && e.x != z) = true) (hxy : (x != y && x != z && y != z) = true)
    (kk : ∀ s', Fx sb Bb mg mb env (⟨z, Int, RInt, c⟩ :: ⟨y, Int, RInt, b⟩ :: ⟨x, Int, RInt, a⟩ :: vars) ms X Z s' → wpAny (model prog w) A (execs rest env) Q E s') :
    wpAny (model prog w) A (execs (.Assign [.Tuple [.Name x px, .Name y py, .Name z pz] k p] (.Tuple [e1, e2, e3] k' pt) pos :: rest) env) Q E s := by
  simp only [Bool.and_eq_true, bne_iff_ne] at hxy
  have hv := fun (e : Var) he => List.all_eq_true.mp hv1 e he
  have hm := fun (e : MVar) he => List.all_eq_true.mp hm1 e he
  simp only [Bool.and_eq_true, bne_iff_ne] at hv hm
  refine tup_stores3 hh hs hw hst (wpAny_mono (h1 s E F.cx) (fun v1 s1 ⟨⟨t1, e1⟩, g1⟩ => ?_) fun _ _ q => q)
  subst e1
  refine wpAny_mono (h2 s1 E (F.grow g1).cx) (fun v2 s2 ⟨⟨t2, e2⟩, g2⟩ => ?_) fun _ _ q => q
  subst e2
  refine wpAny_mono (h3 s2 E ((F.grow g1).grow g2).cx) (fun v3 s3 ⟨⟨t3, e3⟩, g3⟩ => ?_) fun _ _ q => q
  subst e3
  intro s4 g4
  have F4 := (((F.grow g1).grow g2).grow g3).grow g4
  refine F4.store hx (Rd.flat flat_int ⟨t1, rfl⟩) (List.all_eq_true.mpr fun e he => by simpa using (hv e he).1.1) (List.all_eq_true.mpr fun e he => by simpa using (hm e he).1.1) fun s5 F5 _ _ => ?_
  refine F5.store hy (Rd.flat flat_int ⟨t2, rfl⟩) (List.all_eq_true.mpr fun e he => ?_) (List.all_eq_true.mpr fun e he => by simpa using (hm e he).1.2) fun s6 F6 _ _ => ?_
  · rcases List.mem_cons.mp he with rfl | he
    · simpa using hxy.1.1
    · simpa using (hv e he).1.2
  refine F6.store hz (Rd.flat flat_int ⟨t3, rfl⟩) (List.all_eq_true.mpr fun e he => ?_) (List.all_eq_true.mpr fun e he => by simpa using (hm e he).2) fun s7 F7 _ _ => kk s7 F7
  rcases List.mem_cons.mp he with rfl | he
  · simpa using hxy.2
  · rcases List.mem_cons.mp he with rfl | he
    · simpa using hxy.1.2
    · simpa using (hv e he).2

theorem x_tup2I {x y : Str} {px py p pt pos : Pos} {k k' : Nat} {e1 e2 : Expr} {rest : List Stmt} {a b : Int} (hh : A.handled = none) (F : Fx sb Bb mg mb env vars ms X Z s)
    (hs : swapsWithSole [.Tuple [.Name x px, .Name y py] k p] (.Tuple [e1, e2] k' pt) pos.line env = pure false) (hw : swappedStores [.Tuple [.Name x px, .Name y py] k p] (.Tuple [e1, e2] k' pt) env = pure none)
    (hst : backTo pt (starEach [e1, e2] env) = [(false, eval e1 env), (false, eval e2 env)])
    (h1 : Ev prog w A mg mb env (vars ++ ms.map MVar.var) e1 RInt a) (h2 : Ev prog w A mg mb env (vars ++ ms.map MVar.var) e2 RInt b)
    (hx : CanStore env x) (hy : CanStore env y) (hv1 : (vars.all fun e => e.x != x && e.x != y) = true) (hm1 : (ms.all fun e => e.x != x && e.x != y) = true) (hxy : (x != y) = true)
    (kk : ∀ s', Fx sb Bb mg mb env (⟨y, Int, RInt, b⟩ :: ⟨x, Int, RInt, a⟩ :: vars) ms X Z s' → wpAny (model prog w) A (execs rest env) Q E s') :
    wpAny (model prog w) A (execs (.Assign [.Tuple [.Name x px, .Name y py] k p] (.Tuple [e1, e2] k' pt) pos :: rest) env) Q E s := by
  simp only [bne_iff_ne] at hxy
  have hv := fun (e : Var) he => List.all_eq_true.mp hv1 e he
  have hm := fun (e : MVar) he => List.all_eq_true.mp hm1 e he
  simp only [Bool.and_eq_true, bne_iff_ne] at hv hm
  refine tup_stores2 hh hs hw hst (wpAny_mono (h1 s E F.cx) (fun v1 s1 ⟨⟨t1, e1⟩, g1⟩ => ?_) fun _ _ q => q)
  subst e1
  refine wpAny_mono (h2 s1 E (F.grow g1).cx) (fun v2 s2 ⟨⟨t2, e2⟩, g2⟩ => ?_) fun _ _ q => q
  subst e2
  intro s4 g4
  have F4 := ((F.grow g1).grow g2).grow g4
  refine F4.store hx (Rd.flat flat_int ⟨t1, rfl⟩) (List.all_eq_true.mpr fun e he => by simpa using (hv e he).1) (List.all_eq_true.mpr fun e he => by simpa using (hm e he).1) fun s5 F5 _ _ => ?_
  refine F5.store hy (Rd.flat flat_int ⟨t2, rfl⟩) (List.all_eq_true.mpr fun e he => ?_) (List.all_eq_true.mpr fun e he => by simpa using (hm e he).2) fun s6 F6 _ _ => kk s6 F6
  rcases List.mem_cons.mp he with rfl | he
  · simpa using hxy
  · simpa using (hv e he).2

/-- an empty display -/
theorem ev_nil {pos : Pos} (F : Fx sb Bb mg mb env vars ms X Z s) : wpAny (model prog w) A (eval (.List [] pos) env) (fun v s' => v = .ref s.heap.objs.size ∧ s'.heap.PlainList s.heap.objs.size ([] : List Value).toArray ∧ Grows s s') E s :=
  List_ (args_nil (newList_any (by simp [sizeLine]) fun hl => ⟨rfl, hl, ⟨_, s.toks, rfl, Up.push _ _⟩⟩))

theorem x_new1 {x : Str} {px pos lp : Pos} {rest : List Stmt} (R : Rep α) (F : Fx sb Bb mg mb env vars ms X Z s) (hk : CanStore env x) (hv : (vars.all fun e => e.x != x) = true) (hm : (ms.all fun m => m.x != x) = true)
    (k : ∀ a s', s.heap.get? a = none → Fx sb Bb mg mb env vars (⟨x, a, α, R, []⟩ :: ms) X Z s' → wpAny (model prog w) A (execs rest env) Q E s') : wpAny (model prog w) A (execs (.Assign [.Name x px] (.List [] lp) pos :: rest) env) Q E s :=
  x_new R F (fun E => wpAny_mono (ev_nil F) (fun v s' ⟨e, hl, g⟩ => ⟨_, e, get?_size _, hl, g⟩) fun _ _ q => q) hk hv hm rfl k

/-- x, y, z = [], [], [] -/
theorem x_new3 {x y z : Str} {px py pz p pt pos l1 l2 l3 : Pos} {k k' : Nat} {rest : List Stmt} (R : Rep α) (S : Rep β) (T : Rep γ) (hh : A.handled = none) (F : Fx sb Bb mg mb env vars ms X Z s)
    (hs : swapsWithSole [.Tuple [.Name x px, .Name y py, .Name z pz] k p] (.Tuple [.List [] l1, .List [] l2, .List [] l3] k' pt) pos.line env = pure false) (hw : swappedStores [.Tuple [.Name x px, .Name y py, .Name z pz] k p] (.Tuple [.List [] l1, .List [] l2, .List [] l3] k' pt) env = pure none)
    (hst : backTo pt (starEach [.List [] l1, .List [] l2, .List [] l3] env) = [(false, eval (.List [] l1) env), (false, eval (.List [] l2) env), (false, eval (.List [] l3) env)])
    (hx : CanStore env x) (hy : CanStore env y) (hz : CanStore env z) (hv1 : (vars.all fun e => e.x != x && e.x != y && e.x != z) = true) (hm1 : (ms.all fun e => e.x != x && e.x != y && e.x != z) = true) (hxy : (x != y && x != z && y != z) = true)
    (kk : ∀ a b c s', Fx sb Bb mg mb env vars (⟨z, c, γ, T, []⟩ :: ⟨y, b, β, S, []⟩ :: ⟨x, a, α, R, []⟩ :: ms) X Z s' → wpAny (model prog w) A (execs rest env) Q E s') :
    wpAny (model prog w) A (execs (.Assign [.Tuple [.Name x px, .Name y py, .Name z pz] k p] (.Tuple [.List [] l1, .List [] l2, .List [] l3] k' pt) pos :: rest) env) Q E s := by
  simp only [Bool.and_eq_true, bne_iff_ne] at hxy
  have hv := fun (e : Var) he => List.all_eq_true.mp hv1 e he
  have hm := fun (e : MVar) he => List.all_eq_true.mp hm1 e he
  simp only [Bool.and_eq_true, bne_iff_ne] at hv hm
  have pl : ∀ {h : Heap} {a : Addr}, h.PlainList a ([] : List Value).toArray → (h.get? a).isSome = true := fun ⟨n, ho⟩ => by rw [ho]; rfl
  refine tup_stores3 hh hs hw hst (wpAny_mono (ev_nil F) (fun v1 s1 ⟨e1, pl1, g1⟩ => ?_) fun _ _ q => q)
  subst e1
  have n1 : s.heap.get? s.heap.objs.size = none := get?_size _
  generalize s.heap.objs.size = a1 at *
  have F1 := F.widen g1 n1 (pl pl1)
  refine wpAny_mono (ev_nil F1) (fun v2 s2 ⟨e2, pl2, g2⟩ => ?_) fun _ _ q => q
  subst e2
  have n2 : s1.heap.get? s1.heap.objs.size = none := get?_size _
  generalize s1.heap.objs.size = a2 at *
  have F2 := F1.widen g2 n2 (pl pl2)
  refine wpAny_mono (ev_nil F2) (fun v3 s3 ⟨e3, pl3, g3⟩ => ?_) fun _ _ q => q
  subst e3
  have n3 : s2.heap.get? s2.heap.objs.size = none := get?_size _
  generalize s2.heap.objs.size = a3 at *
  have F3 := F2.widen g3 n3 (pl pl3)
  intro s4 g4
  have F4 := F3.grow g4
  have keep : ∀ {vars : List Var} {t t' : Shared} {a : Addr}, Fx sb Bb mg mb env vars ms (a3 :: a2 :: a1 :: X) Z t → a ∈ a3 :: a2 :: a1 :: X → Chg (env.locals :: env.cells.map (·.2)) t.heap t'.heap → t.heap.PlainList a ([] : List Value).toArray → t'.heap.PlainList a ([] : List Value).toArray := fun G ha c h => h.at fun o e => c _ o (fun hm => by
    rcases List.mem_cons.mp hm with q | q
    · exact G.loc_ne_x ha q.symm
    · exact G.cell_ne_x q ha rfl) e
  have q1 : s4.heap.PlainList a1 ([] : List Value).toArray := pl1.at fun o e => g4.up _ _ (g3.up _ _ (g2.up _ _ e))
  have q2 : s4.heap.PlainList a2 ([] : List Value).toArray := pl2.at fun o e => g4.up _ _ (g3.up _ _ e)
  have q3 : s4.heap.PlainList a3 ([] : List Value).toArray := pl3.at fun o e => g4.up _ _ e
  refine F4.store (R := RVal) (val := .ref a1) hx (fun _ _ => rfl) (List.all_eq_true.mpr fun e he => by simpa using (hv e he).1.1) (List.all_eq_true.mpr fun e he => by simpa using (hm e he).1.1) fun s5 F5 _ c5 => ?_
  refine F5.store (R := RVal) (val := .ref a2) hy (fun _ _ => rfl) (List.all_eq_true.mpr fun e he => ?_) (List.all_eq_true.mpr fun e he => by simpa using (hm e he).1.2) fun s6 F6 _ c6 => ?_
  · rcases List.mem_cons.mp he with rfl | he
    · simpa using hxy.1.1
    · simpa using (hv e he).1.2
  refine F6.store (R := RVal) (val := .ref a3) hz (fun _ _ => rfl) (List.all_eq_true.mpr fun e he => ?_) (List.all_eq_true.mpr fun e he => by simpa using (hm e he).2) fun s7 F7 _ c7 => ?_
  · rcases List.mem_cons.mp he with rfl | he
    · simpa using hxy.2
    · rcases List.mem_cons.mp he with rfl | he
      · simpa using hxy.1.2
      · simpa using (hv e he).2
  have r1 := keep F6 (by simp) c7 (keep F5 (by simp) c6 (keep F4 (by simp) c5 q1))
  have r2 := keep F6 (by simp) c7 (keep F5 (by simp) c6 (keep F4 (by simp) c5 q2))
  have r3 := keep F6 (by simp) c7 (keep F5 (by simp) c6 (keep F4 (by simp) c5 q3))
  have nm3 := F7.nameVal (x := z) (v := .ref a3) List.mem_cons_self
  have nm2 := F7.nameVal (x := y) (v := .ref a2) (List.mem_cons_of_mem _ List.mem_cons_self)
  have nm1 := F7.nameVal (x := x) (v := .ref a1) (List.mem_cons_of_mem _ (List.mem_cons_of_mem _ List.mem_cons_self))
  have G := F7.weak (vars' := vars) fun e he => List.mem_cons_of_mem _ (List.mem_cons_of_mem _ (List.mem_cons_of_mem _ he))
  -- a1 first
  have G1 : Fx sb Bb mg mb env vars ms (a1 :: a3 :: a2 :: X) Z s7 := by
    have hp : (FB env ms (a1 :: a3 :: a2 :: X)).Perm (FB env ms (a3 :: a2 :: a1 :: X)) := by
      unfold FB
      refine List.Perm.cons _ (List.Perm.append_left _ (List.Perm.append_left _ ?_))
      exact (List.Perm.swap _ _ _).trans (List.Perm.cons _ (List.Perm.swap _ _ _))
    have memE : ∀ c, c ∈ FB env ms (a1 :: a3 :: a2 :: X) → c ∈ FB env ms (a3 :: a2 :: a1 :: X) := fun c => hp.mem_iff.mp
    exact
      { G with
        out := ⟨fun h => G.out.1 (memE _ h), fun h => G.out.2.1 (memE _ h), fun h => G.out.2.2 (memE _ h)⟩
        nd := hp.nodup_iff.mpr G.nd
        live := fun b hb => G.live b (memE b hb)
        fresh := fun b hb => G.fresh b (memE b hb)
        var := fun e he => let ⟨v, n, r⟩ := G.var e he; ⟨v, n, r.sub (app_sub memE)⟩
        mts := fun m hm => let ⟨n, vs, hl, hp⟩ := G.mts m hm; ⟨n, vs, hl, paired_mono (fun _ _ r => r.sub (app_sub memE)) hp⟩ }
  have H1 := (G1.promote (R := R) nm1 r1 .nil).swapX
  have H2 := H1.promote (R := S) nm2 r2 .nil
  exact kk a1 a2 a3 s7 (H2.promote (R := T) nm3 r3 .nil)
end

section
variable {M : Model} {A : Around} {E : Value → Shared → Prop} {s : Shared} {env : Env}
theorem g_step2 {st st' : Stmt} {rest : List Stmt} {Q : Flow → Shared → Prop} (h : wpAny M A (execs [st, st'] env) (fun f s' => f = .next ∧ wpG M A (execs rest env) Q E s') E s) : wpG M A (execs (st :: st' :: rest) env) Q E s := by
  intro Γ p i n
  have h' := h Γ p i
  rw [execs_cons, Sem.wp_bind'] at h' ⊢
  refine Sem.wp_mono M Γ _ (fun f p' s' q => ?_) (fun _ _ _ q => q) _ _ h'
  cases f with
  | next =>
    dsimp only at q ⊢
    rw [execs_cons, Sem.wp_bind'] at q ⊢
    refine Sem.wp_mono M Γ _ (fun f p'' s'' q => ?_) (fun _ _ _ q => q) _ _ q
    cases f with
    | next => exact q.2 Γ p'' i n
    | brk => exact absurd q.1 (by intro e; cases e)
    | cont => exact absurd q.1 (by intro e; cases e)
    | ret v => exact absurd q.1 (by intro e; cases e)
  | brk => exact absurd q.1 (by intro e; cases e)
  | cont => exact absurd q.1 (by intro e; cases e)
  | ret v => exact absurd q.1 (by intro e; cases e)
end
end Mine

namespace Mine

theorem idx_range {α : Type} {n : Nat} (f : Int → α) {c : Int} (h0 : 0 ≤ c) (h : c.toNat < n) : ((List.range n).map fun (i : Nat) => f (i : Int))[c.toNat]? = some (f c) := by
  rw [List.getElem?_map, List.getElem?_range h]
  show some (f (c.toNat : Int)) = _
  rw [Int.toNat_of_nonneg h0]
theorem idx_rangeL {α : Type} {a b : Int} (f : Int → α) {k : Int} {i : Int} (h0 : 0 ≤ i) (hk : a + i = k) (h : k < b) : ((rangeL a b).map f)[i.toNat]? = some (f k) := by
  rw [List.getElem?_map, rangeL_get (by omega)]
  show some (f (a + (i.toNat : Int))) = _
  rw [Int.toNat_of_nonneg h0, hk]
theorem range_rangeL {α : Type} {n : Int} (f : Int → α) : ((List.range n.toNat).map fun (i : Nat) => f (i : Int)) = (rangeL 0 n).map f := by
  simp [rangeL, Function.comp_def]

namespace L1
def cells (sc : List Int) : List Int := pick none (some 42) sc ++ pick (some ((pick none (some 2) sc).length : Int)) none [0, 0]
def stepV (cs : List Int) (k : Int) : Int := (if decide (k < (cs.length : Int)) = true then cs.getD k.toNat 0 else 11 * k) % 26
/-- what the law reckons with -/
structure P where
  c0 : Int
  c1 : Int
  u : Int
  w : Int
  h : Int
  st : List Int
def P.sgn (p : P) (c : Int) : Int := 1 - 2 * (p.c1 / 2 ^ c.toNat % 2)
def P.own (p : P) (c : Int) : List Int := pick (some (c * (p.w + p.h))) (some ((c + 1) * (p.w + p.h))) p.st
def P.corner (p : P) (c : Int) : Int := (if (p.sgn c == 1) = true then 0 else 155) + p.c1 / 16 % 100
def P.A (p : P) (c x : Int) : Int := p.corner c + p.sgn c * (pick (some 1) (some (x + 1)) (p.own c)).sum
def P.D (p : P) (c y : Int) : Int := p.corner c + p.sgn c * (pick (some (p.w + 1)) (some (p.w + y + 1)) (p.own c)).sum
def P.line0 (p : P) : List Int := (rangeL 0 p.u).map (fun c => p.A c 0) ++ (rangeL 1 p.w).flatMap fun x => (rangeL 0 p.u).map fun c => (p.A c x - p.A c (x - 1)) % 256
def P.lineY (p : P) (y : Int) : List Int := (rangeL 0 p.u).map (fun c => (p.D c y - p.D c (y - 1)) % 256) ++ List.replicate (p.u * (p.w - 1)).toNat 0
def P.way (p : P) : Int := ([4, 1] : List Int).getD (p.c0 / 100 % 2).toNat 0
def P.lines (p : P) : List (List Int) := p.line0 :: (List.range (p.h - 1).toNat).map fun (j : Nat) => p.lineY (1 + (j : Int))
def P.ways (p : P) : List Int := [p.way] ++ List.replicate (p.h - 1).toNat 4
def P.dueV (p : P) (y x c : Int) : Int := p.sgn c * (if p.sgn c * p.A c x > p.sgn c * p.D c y then p.sgn c * p.A c x else p.sgn c * p.D c y)
def P.dueRow (p : P) (y : Int) : List Int := (rangeL 0 p.w).flatMap fun x => (rangeL 0 p.u).map fun c => p.dueV y x c
def P.due (p : P) : List (List Int) := (List.range p.h.toNat).map fun (y : Nat) => p.dueRow (0 + (y : Int))
def par (sc : List Int) : P :=
  let cs := cells sc
  let c0 := cs.getD 0 0
  let u := 4 - c0 % 4
  let w := 5 - c0 / 4 % 5
  let h := 5 - c0 / 20 % 5
  ⟨c0, cs.getD 1 0, u, w, h, (rangeL 2 (2 + u * (w + h))).map (stepV cs)⟩

/-- the plain law: the rows are undone as due -/
def Plain (p : P) : Prop := ∃ outF : Nat → Nat → Int, rowsOf p.h.toNat (p.u * p.w).toNat outF = p.due ∧
  (∀ y, y < p.h.toNat → ∀ j, j < (p.u * p.w).toNat → 0 ≤ outF y j ∧ outF y j < 256) ∧ (∀ l ∈ p.lines, l.length = (p.u * p.w).toNat) ∧ (∀ l ∈ p.lines, ∀ x ∈ l, 0 ≤ x ∧ x < 256) ∧
  ∀ y, y < p.h.toNat → ∀ line way, p.lines[y]? = some line → p.ways[y]? = some way → ∀ pr : Nat → Int, (∀ j, j < (p.u * p.w).toNat → pr j = prevF outF y j) → RowOk p.u.toNat (p.u * p.w).toNat line way pr (outF y)
theorem cells_len (sc : List Int) : 2 ≤ (cells sc).length := by
  unfold cells
  rw [pick_upto (by omega), pick_upto (by omega), pick_from (by omega)]
  simp only [List.length_append, List.length_take, List.length_drop, List.length_cons, List.length_nil]
  omega
theorem cells_le (sc : List Int) (h : sc.length ≤ 63) : (cells sc).length ≤ 100 := by
  unfold cells
  rw [pick_upto (by omega), pick_upto (by omega), pick_from (by omega)]
  simp only [List.length_append, List.length_take, List.length_drop, List.length_cons, List.length_nil]
  omega
end L1

section
variable {prog : Program} {w : World} {A : Around} {mg mb : Str → Option Value} {env : Env} {vars : List Var}
theorem Ev.weak2 {α : Type} {R : Rep α} {e : Expr} {xs : List (List α)} (h : Ev prog w A mg mb env vars e (RList (RList R)) xs) : Ev prog w A mg mb env vars e (RLst (RLst R)) xs :=
  fun s E c => wpAny_mono (h s E c) (fun _ _ ⟨⟨a, vs, e, hl, p⟩, g⟩ => ⟨⟨a, vs, e, hl.isList, paired_mono (fun _ _ ⟨a, vs, e, hl, p⟩ => ⟨a, vs, e, hl.isList, p⟩) p⟩, g⟩) fun _ _ q => q
end
end Mine

namespace Mine

def lawT : Arguments × List Stmt × Scope := (fnOf PySem.Challenge.pw_bf5021_01 5).get (by rfl)

section
variable {prog : Program} {w : World} {A' : Around} {s s₆ : Shared} {mg mb : Str → Option Value}

set_option maxHeartbeats 8000000 in
theorem law_tail {fa fs fp aS aD aA : Addr} {cs : List Int} {env : Env} {L : Addr} {fn : Option Addr} {code : Value} {q : Str} {p : L1.P} {Q : Flow → Shared → Prop} (hh' : A'.handled = none) (hroom' : A'.depth + 1 < recursionLimit) (hun' : A'.units + 1 < cLine)
    (hE : newEnv lawT.2.2 L mainGlobals (cellsFrom (L + 1) lawT.2.2.names []) q fn code none builtinsNs = env) (U : Und mg mb s.heap fa fs fp) (B : Bts mg mb) (gu : mg "_law_undone" = some (.ref fa))
    (hcl : 2 ≤ cs.length) (i0 : cs[(0 : Int).toNat]? = some p.c0) (bu : 1 ≤ p.u ∧ p.u ≤ 4) (bw : 1 ≤ p.w ∧ p.w ≤ 5) (bh : 1 ≤ p.h ∧ p.h ≤ 5) (PL : L1.Plain p)
    (F₆ : Fx s [] mg mb env [⟨"steps", List Int, RList RInt, p.st⟩, ⟨"high", Int, RInt, p.h⟩, ⟨"wide", Int, RInt, p.w⟩, ⟨"unit", Int, RInt, p.u⟩, ⟨"cells", List Int, RList RInt, cs⟩]
      [⟨"signs", aS, Int, RInt, (List.range (p.u - 0).toNat).map fun (j : Nat) => p.sgn (j : Int)⟩, ⟨"down", aD, List Int, RList RInt, (List.range (p.u - 0).toNat).map fun (j : Nat) => (rangeL 0 p.h).map (p.D (j : Int))⟩, ⟨"across", aA, List Int, RList RInt, (List.range (p.u - 0).toNat).map fun (j : Nat) => (rangeL 0 p.w).map (p.A (j : Int))⟩] [] [] s₆)
    (hQ : ∀ s', Grows s s' → Q (.ret (.bool true)) s') :
    wpG (model prog w) A' (execs (lawT.2.1.drop 5) env) Q (fun _ _ => False) s₆ := by
  have hgu : Gbl mg env "_law_undone" (.ref fa) := ⟨(by rw [← hE]; kernel_rfl), gu, (by kernel_rfl)⟩
  have hint : interactive env = false := by rw [← hE]; rfl
  have hsg : ∀ c, (p.sgn c).natAbs < 2 ^ 63 := fun c => by
    unfold L1.P.sgn
    have := Int.emod_two_eq (p.c1 / 2 ^ c.toNat)
    rcases this with h | h <;> rw [h] <;> decide
  have iS : ∀ c, 0 ≤ c → c < p.u → ((List.range (p.u - 0).toNat).map fun (j : Nat) => p.sgn (j : Int))[c.toNat]? = some (p.sgn c) := fun c h0 h1 => idx_range p.sgn h0 (by omega)
  have iD : ∀ c, 0 ≤ c → c < p.u → ((List.range (p.u - 0).toNat).map fun (j : Nat) => (rangeL 0 p.h).map (p.D (j : Int)))[c.toNat]? = some ((rangeL 0 p.h).map (p.D c)) := fun c h0 h1 => idx_range (fun c => (rangeL 0 p.h).map (p.D c)) h0 (by omega)
  have iA : ∀ c, 0 ≤ c → c < p.u → ((List.range (p.u - 0).toNat).map fun (j : Nat) => (rangeL 0 p.w).map (p.A (j : Int)))[c.toNat]? = some ((rangeL 0 p.w).map (p.A c)) := fun c h0 h1 => idx_range (fun c => (rangeL 0 p.w).map (p.A c)) h0 (by omega)
  have jD : ∀ c y, 0 ≤ y → y < p.h → ((rangeL 0 p.h).map (p.D c))[y.toNat]? = some (p.D c y) := fun c y h0 h1 => idx_rangeL (p.D c) h0 (by omega) h1
  have jA : ∀ c x, 0 ≤ x → x < p.w → ((rangeL 0 p.w).map (p.A c))[x.toNat]? = some (p.A c x) := fun c x h0 h1 => idx_rangeL (p.A c) h0 (by omega) h1
  generalize ((List.range (p.u - 0).toNat).map fun (j : Nat) => p.sgn (j : Int)) = lS at *
  generalize ((List.range (p.u - 0).toNat).map fun (j : Nat) => (rangeL 0 p.h).map (p.D (j : Int))) = lD at *
  generalize ((List.range (p.u - 0).toNat).map fun (j : Nat) => (rangeL 0 p.w).map (p.A (j : Int))) = lA at *
  have buw : 0 ≤ p.u * (p.w - 1) ∧ p.u * (p.w - 1) ≤ 16 := by
    constructor
    · exact Int.mul_nonneg (by omega) (by omega)
    · have := Int.mul_le_mul bu.2 (show p.w - 1 ≤ 4 by omega) (by omega) (by omega)
      omega
  -- lines
  refine g_step2 (x_lines (xs := (rangeL 0 p.u).map fun c => p.A c 0) (ys := (rangeL 1 p.w).flatMap fun x => (rangeL 0 p.u).map fun c => (p.A c x - p.A c (x - 1)) % 256) F₆
    (fun E => map_new (cap := [⟨"across", List (List Int), RList (RList RInt), lA⟩]) (R := RInt) (S := RInt) (RI := RRange) (fun c => p.A c 0) (Ev.range1 ⟨(by rw [← hE]; kernel_rfl), B.range.1, B.range.2, (by kernel_rfl)⟩ (Ev.var (by repeat (first | exact List.mem_cons_self | apply List.mem_cons_of_mem)) (by kernel_rfl) (by kernel_rfl)) rfl) (Itb.range hh' (by omega) (by omega) (by omega) (by omega)) (ScopeOk.of rfl (by kernel_rfl) (by refine List.forall_mem_cons.mpr ⟨(by repeat (first | exact List.mem_cons_self | apply List.mem_cons_of_mem)), ?_⟩; exact fun _ h => nomatch h) (by rw [← hE]; kernel_rfl) (by kernel_rfl)) (.loc (by decide +kernel) (by kernel_rfl))
      (fun C c hc => by
        have bc := mem_rangeL hc
        exact Ev.flat (Ev.item (Ev.weak (Ev.item (R := RList RInt) (Ev.weak (Ev.var (by repeat (first | exact List.mem_cons_self | apply List.mem_cons_of_mem)) (by kernel_rfl) (by kernel_rfl))) (Ev.var (by repeat (first | exact List.mem_cons_self | apply List.mem_cons_of_mem)) (by kernel_rfl) (by kernel_rfl)) (by omega) (by omega) (iA c bc.1 bc.2) (fun _ _ => rfl))) (Ev.int _) (by omega) (by omega) (jA c 0 (by omega) (by omega)) (fun _ _ => rfl)) flat_int)
      (by rw [rangeL_length]; simp [sizeLine]; omega) (fun _ => rfl) F₆.cx) rfl
    (Ev.weak (EvF.ev (EvF.map2 (cap := [⟨"across", List (List Int), RList (RList RInt), lA⟩, ⟨"unit", Int, RInt, p.u⟩]) (R := RInt) (S := RInt) (RI := RRange) (a := 0) (b := p.u) (fun x c => (p.A c x - p.A c (x - 1)) % 256) hh' (Ev.range2 ⟨(by rw [← hE]; kernel_rfl), B.range.1, B.range.2, (by kernel_rfl)⟩ (Ev.int _) (Ev.var (by repeat (first | exact List.mem_cons_self | apply List.mem_cons_of_mem)) (by kernel_rfl) (by kernel_rfl)) rfl) (Itb.range hh' (by omega) (by omega) (by omega) (by omega)) (ScopeOk.of rfl (by kernel_rfl) (by refine List.forall_mem_cons.mpr ⟨(by repeat (first | exact List.mem_cons_self | apply List.mem_cons_of_mem)), ?_⟩; refine List.forall_mem_cons.mpr ⟨(by repeat (first | exact List.mem_cons_self | apply List.mem_cons_of_mem)), ?_⟩; exact fun _ h => nomatch h) (by rw [← hE]; kernel_rfl) (by kernel_rfl)) (by decide +kernel) (by kernel_rfl) (by kernel_rfl) (by decide +kernel) (by omega) (by omega) (by omega) (by omega)
      (fun C x hx => Ev.range1 ⟨(by rw [← hE]; kernel_rfl), B.range.1, B.range.2, (by kernel_rfl)⟩ (Ev.var (by repeat (first | exact List.mem_cons_self | apply List.mem_cons_of_mem)) (by kernel_rfl) (by kernel_rfl)) rfl)
      (fun C x hx c hc => by
        have bc := mem_rangeL hc
        have bx := mem_rangeL hx
        exact Ev.flat (Ev.mod (Ev.sub (Ev.item (Ev.weak (Ev.item (R := RList RInt) (Ev.weak (Ev.var (by repeat (first | exact List.mem_cons_self | apply List.mem_cons_of_mem)) (by kernel_rfl) (by kernel_rfl))) (Ev.var (by repeat (first | exact List.mem_cons_self | apply List.mem_cons_of_mem)) (by kernel_rfl) (by kernel_rfl)) (by omega) (by omega) (iA c bc.1 bc.2) (fun _ _ => rfl))) (Ev.var (by repeat (first | exact List.mem_cons_self | apply List.mem_cons_of_mem)) (by kernel_rfl) (by kernel_rfl)) (by omega) (by omega) (jA c x (by omega) (by omega)) (fun _ _ => rfl))
          (Ev.item (Ev.weak (Ev.item (R := RList RInt) (Ev.weak (Ev.var (by repeat (first | exact List.mem_cons_self | apply List.mem_cons_of_mem)) (by kernel_rfl) (by kernel_rfl))) (Ev.var (by repeat (first | exact List.mem_cons_self | apply List.mem_cons_of_mem)) (by kernel_rfl) (by kernel_rfl)) (by omega) (by omega) (iA c bc.1 bc.2) (fun _ _ => rfl))) (Ev.sub (Ev.var (by repeat (first | exact List.mem_cons_self | apply List.mem_cons_of_mem)) (by kernel_rfl) (by kernel_rfl)) (Ev.int _)) (by omega) (by omega) (jA c (x - 1) (by omega) (by omega)) (fun _ _ => rfl))) (Ev.int _) (by omega)) flat_int)
      (by rw [rangeL_length]; exact Nat.le_trans (Nat.mul_le_mul (show (p.w - 1).toNat ≤ 5 by omega) (show (p.u - 0).toNat ≤ 5 by omega)) (by decide)) (fun _ => rfl) (fun _ _ => rfl)))) (.inl (by rw [← hE]; kernel_rfl)) (by kernel_rfl) (by kernel_rfl) (by kernel_rfl) (by kernel_rfl) rfl ?_ fun aL s₇ _ F₇ => wpAny_execs_nil ⟨rfl, ?_⟩)
  · rw [List.length_map, List.length_flatMap]
    simp only [List.length_map, rangeL_length, List.map_const', List.sum_replicate_nat]
    exact Nat.le_trans (Nat.add_le_add (show (p.u - 0).toNat ≤ 5 by omega) (Nat.mul_le_mul (show (p.w - 1).toNat ≤ 5 by omega) (show (p.u - 0).toNat ≤ 5 by omega))) (by decide)
  -- for y in range(1, high)
  refine g_step (x_for (a := 1) (b := p.h) (vs := fun _ => [⟨"steps", List Int, RList RInt, p.st⟩, ⟨"high", Int, RInt, p.h⟩, ⟨"wide", Int, RInt, p.w⟩, ⟨"unit", Int, RInt, p.u⟩, ⟨"cells", List Int, RList RInt, cs⟩])
    (mss := fun i => [⟨"lines", aL, List Int, RList RInt, p.line0 :: (List.range i).map fun (j : Nat) => p.lineY (1 + (j : Int))⟩, ⟨"signs", aS, Int, RInt, lS⟩, ⟨"down", aD, List Int, RList RInt, lD⟩, ⟨"across", aA, List Int, RList RInt, lA⟩])
    (J := fun _ _ => True) hh' F₇ (by omega) (by omega) (by omega) (by omega) (fun E => Ev.range2 ⟨(by rw [← hE]; kernel_rfl), B.range.1, B.range.2, (by kernel_rfl)⟩ (Ev.int _) (Ev.var (by repeat (first | exact List.mem_cons_self | apply List.mem_cons_of_mem)) (by kernel_rfl) (by kernel_rfl)) rfl s₇ E F₇.cx) (.inr ⟨(by rw [← hE]; kernel_rfl), by rw [← hE]; exact ⟨_, rfl⟩⟩) (fun _ => (by kernel_rfl)) (fun _ => (by kernel_rfl)) (fun _ => rfl) (fun _ _ _ _ _ => trivial) trivial ?_
    (fun _ => rfl) (fun _ _ => rfl) fun s₈ F₈ _ => wpAny_execs_nil ⟨rfl, ?_⟩)
  · intro i Z' t₀ E' hi G₀ _
    refine x_append (l1 := []) (y := p.lineY (1 + (i : Int))) G₀ (fun E => EvN.flat (EvN.addL (Ev.weak (EvF.ev (EvF.map (cap := [⟨"down", List (List Int), RList (RList RInt), lD⟩, ⟨"y", Int, RInt, 1 + (i : Int)⟩]) (R := RInt) (S := RInt) (RI := RRange) (fun c => (p.D c (1 + (i : Int)) - p.D c (1 + (i : Int) - 1)) % 256) (Ev.range1 ⟨(by rw [← hE]; kernel_rfl), B.range.1, B.range.2, (by kernel_rfl)⟩ (Ev.var (by repeat (first | exact List.mem_cons_self | apply List.mem_cons_of_mem)) (by kernel_rfl) (by kernel_rfl)) rfl) (Itb.range hh' (by omega) (by omega) (by omega) (by omega)) (ScopeOk.of rfl (by kernel_rfl) (by refine List.forall_mem_cons.mpr ⟨(by repeat (first | exact List.mem_cons_self | apply List.mem_cons_of_mem)), ?_⟩; refine List.forall_mem_cons.mpr ⟨(by repeat (first | exact List.mem_cons_self | apply List.mem_cons_of_mem)), ?_⟩; exact fun _ h => nomatch h) (by rw [← hE]; kernel_rfl) (by kernel_rfl)) (.loc (by decide +kernel) (by kernel_rfl))
      (fun C c hc => by
        have bc := mem_rangeL hc
        exact Ev.flat (Ev.mod (Ev.sub (Ev.item (Ev.weak (Ev.item (R := RList RInt) (Ev.weak (Ev.var (by repeat (first | exact List.mem_cons_self | apply List.mem_cons_of_mem)) (by kernel_rfl) (by kernel_rfl))) (Ev.var (by repeat (first | exact List.mem_cons_self | apply List.mem_cons_of_mem)) (by kernel_rfl) (by kernel_rfl)) (by omega) (by omega) (iD c bc.1 bc.2) (fun _ _ => rfl))) (Ev.var (by repeat (first | exact List.mem_cons_self | apply List.mem_cons_of_mem)) (by kernel_rfl) (by kernel_rfl)) (by omega) (by omega) (jD c (1 + (i : Int)) (by omega) (by omega)) (fun _ _ => rfl))
          (Ev.item (Ev.weak (Ev.item (R := RList RInt) (Ev.weak (Ev.var (by repeat (first | exact List.mem_cons_self | apply List.mem_cons_of_mem)) (by kernel_rfl) (by kernel_rfl))) (Ev.var (by repeat (first | exact List.mem_cons_self | apply List.mem_cons_of_mem)) (by kernel_rfl) (by kernel_rfl)) (by omega) (by omega) (iD c bc.1 bc.2) (fun _ _ => rfl))) (Ev.sub (Ev.var (by repeat (first | exact List.mem_cons_self | apply List.mem_cons_of_mem)) (by kernel_rfl) (by kernel_rfl)) (Ev.int _)) (by omega) (by omega) (jD c (1 + (i : Int) - 1) (by omega) (by omega)) (fun _ _ => rfl))) (Ev.int _) (by omega)) flat_int)
      (by rw [rangeL_length]; simp [sizeLine]; omega) (fun _ => rfl))))
      (Ev.weak (EvN.ev (EvN.rep1 (EvN.ev (EvN.list (.cons (Ev.int _) .nil rfl) (by simp [sizeLine]))) (Ev.mul (Ev.var (by repeat (first | exact List.mem_cons_self | apply List.mem_cons_of_mem)) (by kernel_rfl) (by kernel_rfl)) (Ev.sub (Ev.var (by repeat (first | exact List.mem_cons_self | apply List.mem_cons_of_mem)) (by kernel_rfl) (by kernel_rfl)) (Ev.int _)) (mulok (by omega))) (by omega) (by omega)))) (by simp [rangeL_length, sizeLine]; omega)) flat_int t₀ E G₀.cx)
      (by simp [sizeLine]; omega) (by kernel_rfl) (by kernel_rfl) rfl rfl rfl rfl hint rfl fun t₁ G₁ _ => ?_
    refine wpAny_execs_nil ⟨rfl, ?_, trivial⟩
    simp only [List.range_succ, List.map_append, List.map_cons, List.map_nil]
    exact Fx.weak G₁ fun e he => List.mem_cons_of_mem _ he
  have eL : (p.line0 :: (List.range (p.h - 1).toNat).map fun (j : Nat) => p.lineY (1 + (j : Int))) = p.lines := rfl
  rw [eL] at F₈
  obtain ⟨outF, hdue, hout, hlen, hrng, hrow⟩ := PL
  have ilen : p.lines.length = p.h.toNat := by rw [← eL]; simp; omega
  have wlen : p.ways.length = p.h.toNat := by unfold L1.P.ways; simp; omega
  have buw2 : 1 ≤ p.u * p.w ∧ p.u * p.w ≤ 20 ∧ p.u ≤ p.u * p.w := by
    refine ⟨?_, ?_, ?_⟩
    · have := Int.mul_le_mul bu.1 bw.1 (by omega) (by omega)
      omega
    · have := Int.mul_le_mul bu.2 bw.2 (by omega) (by omega)
      omega
    · have := Int.mul_le_mul_of_nonneg_left bw.1 (show 0 ≤ p.u by omega)
      omega
  -- told = _law_undone(..)
  have hgu' := hgu
  obtain ⟨ou, pmu, cdu, dcu, hou, hdu, _⟩ := U.und
  refine wpG_execs_cons (wpG_Assign_Name (g_Call (wpG.any (load_gbl hgu F₈.cx (g_callWith_function (o := ou) (fd := Calls.docDef "_law_undone" undT.1 undT.2.1 undT.2.2 pmu cdu dcu) rfl (g_evalArgs (g_spliced_cons (wpG.any (wpAny_mono (Ev.conv (y := p.ways) (Ev.weak (EvN.ev (EvN.addL (R := RInt) (Ev.weak (EvN.ev (EvN.list (.cons (Ev.item (x := p.way) (Ev.weak (EvN.ev (EvN.list (.cons (Ev.int _) (.cons (Ev.int _) .nil rfl) rfl) (by simp [sizeLine])))) (Ev.mod (Ev.fdiv (Ev.item (Ev.weak (Ev.var (by repeat (first | exact List.mem_cons_self | apply List.mem_cons_of_mem)) (by kernel_rfl) (by kernel_rfl))) (Ev.int _) (by omega) (by omega) i0 (fun _ _ => rfl)) (Ev.int _) (by omega) (by omega)) (Ev.int _) (by omega)) (by omega) (by omega) ?_ (fun _ _ => rfl)) .nil rfl) (by simp [sizeLine]))))
    (Ev.weak (EvN.ev (EvN.rep1 (EvN.ev (EvN.list (.cons (Ev.int _) .nil rfl) (by simp [sizeLine]))) (Ev.sub (Ev.var (by repeat (first | exact List.mem_cons_self | apply List.mem_cons_of_mem)) (by kernel_rfl) (by kernel_rfl)) (Ev.int _)) (by omega) (by omega)))) (by simp [sizeLine]; omega)))) rfl s₈ _ F₈.cx) (fun v1 t1 ⟨r1, g1⟩ => ?_) fun _ _ q => q)))))))) rfl)
  · unfold L1.P.way
    have : p.c0 / 100 % 2 = 0 ∨ p.c0 / 100 % 2 = 1 := Int.emod_two_eq _
    rcases this with h | h <;> rw [h] <;> rfl
  have G1 := F₈.grow g1
  obtain ⟨lw, vws, rfl, hlw, pws⟩ := r1
  refine g_spliced_cons (wpG.any (wpAny_mono (Ev.var (x := "unit") (R := RInt) (v := p.u) (by repeat (first | exact List.mem_cons_self | apply List.mem_cons_of_mem)) (by kernel_rfl) (by kernel_rfl) t1 _ G1.cx) (fun v2 t2 ⟨⟨tu, r2⟩, g2⟩ => ?_) fun _ _ q => q))
  subst r2
  have G2 := G1.grow g2
  refine g_spliced_cons (wpG.any (wpAny_mono (Ev.weak2 (Ev.var (x := "lines") (R := RList (RList RInt)) (v := p.lines) (by repeat (first | exact List.mem_cons_self | apply List.mem_cons_of_mem)) (by kernel_rfl) (by kernel_rfl)) t2 _ G2.cx) (fun v3 t3 ⟨r3, g3⟩ => g_spliced_nil ?_) fun _ _ q => q))
  have G3 := G2.grow g3
  obtain ⟨ll, vls, rfl, hll, pls⟩ := r3
  have upS := G3.upOld
  have eUn : (Value.int p.u tu) = Value.int (p.u.toNat : Int) tu := by rw [Int.toNat_of_nonneg (by omega)]
  refine ⟨⟨upS _ _ hou, hdu⟩, ?_⟩
  show wpG _ _ (call (.ref fa) [.ref lw, .int p.u tu, .ref ll]) _ _ _
  rw [eUn]
  refine undone_walk hh' hroom' (U.up upS) G3.glo (let ⟨o, ho, r⟩ := hlw; ⟨o, g3.up _ _ (g2.up _ _ ho), r⟩) (paired_mono (fun _ _ r => r) pws) hll pls wlen ilen (by omega) (by omega) hlen (by omega) hrng (by omega) (by omega) hout hrow fun v t4 fr g4 => ?_
  have rdT := G3.rdOf fr
  refine (G3.grow g4).store (.inl (by rw [← hE]; kernel_rfl)) rdT (by kernel_rfl) (by kernel_rfl) fun t5 G5 _ _ => ?_
  show wpG _ _ _ _ _ _
  rw [hdue] at G5
  -- due
  refine g_step (x_new1 (RList RInt) G5 (.inl (by rw [← hE]; kernel_rfl)) (by kernel_rfl) (by kernel_rfl) fun aDue t6 _ G6 => wpAny_execs_nil ⟨rfl, ?_⟩)
  refine g_step (x_for (a := 0) (b := p.h) (vs := fun _ => [⟨"told", List (List Int), RList (RList RInt), p.due⟩, ⟨"high", Int, RInt, p.h⟩, ⟨"wide", Int, RInt, p.w⟩, ⟨"unit", Int, RInt, p.u⟩])
    (mss := fun i => [⟨"due", aDue, List Int, RList RInt, (List.range i).map fun (y : Nat) => p.dueRow (0 + (y : Int))⟩, ⟨"lines", aL, List Int, RList RInt, p.lines⟩, ⟨"signs", aS, Int, RInt, lS⟩, ⟨"down", aD, List Int, RList RInt, lD⟩, ⟨"across", aA, List Int, RList RInt, lA⟩])
    (J := fun _ _ => True) hh' (G6.weak fun e he => ?_) (by omega) (by omega) (by omega) (by omega) (fun E => Ev.range1 ⟨(by rw [← hE]; kernel_rfl), B.range.1, B.range.2, (by kernel_rfl)⟩ (Ev.var (by repeat (first | exact List.mem_cons_self | apply List.mem_cons_of_mem)) (by kernel_rfl) (by kernel_rfl)) rfl t6 E G6.cx) (.inr ⟨(by rw [← hE]; kernel_rfl), by rw [← hE]; exact ⟨_, rfl⟩⟩) (fun _ => (by kernel_rfl)) (fun _ => (by kernel_rfl)) (fun _ => rfl) (fun _ _ _ _ _ => trivial) trivial ?_
    (fun _ => rfl) (fun _ _ => rfl) fun t7 G7 _ => wpAny_execs_nil ⟨rfl, ?_⟩)
  · simp only [List.mem_cons, List.not_mem_nil, or_false] at he
    rcases he with rfl | rfl | rfl | rfl <;> (repeat (first | exact List.mem_cons_self | apply List.mem_cons_of_mem))
  · intro i Z' u₀ E' hi H₀ _
    refine x_append (l1 := []) (y := p.dueRow (0 + (i : Int))) H₀ (fun E => EvF.map2 (cap := [⟨"across", List (List Int), RList (RList RInt), lA⟩, ⟨"down", List (List Int), RList (RList RInt), lD⟩, ⟨"signs", List Int, RList RInt, lS⟩, ⟨"unit", Int, RInt, p.u⟩, ⟨"y", Int, RInt, 0 + (i : Int)⟩]) (R := RInt) (S := RInt) (RI := RRange) (a := 0) (b := p.u) (fun x c => p.dueV (0 + (i : Int)) x c) hh' (Ev.range1 ⟨(by rw [← hE]; kernel_rfl), B.range.1, B.range.2, (by kernel_rfl)⟩ (Ev.var (by repeat (first | exact List.mem_cons_self | apply List.mem_cons_of_mem)) (by kernel_rfl) (by kernel_rfl)) rfl) (Itb.range hh' (by omega) (by omega) (by omega) (by omega)) (ScopeOk.of rfl (by kernel_rfl) (by refine List.forall_mem_cons.mpr ⟨(by repeat (first | exact List.mem_cons_self | apply List.mem_cons_of_mem)), ?_⟩; refine List.forall_mem_cons.mpr ⟨(by repeat (first | exact List.mem_cons_self | apply List.mem_cons_of_mem)), ?_⟩; refine List.forall_mem_cons.mpr ⟨(by repeat (first | exact List.mem_cons_self | apply List.mem_cons_of_mem)), ?_⟩; refine List.forall_mem_cons.mpr ⟨(by repeat (first | exact List.mem_cons_self | apply List.mem_cons_of_mem)), ?_⟩; refine List.forall_mem_cons.mpr ⟨(by repeat (first | exact List.mem_cons_self | apply List.mem_cons_of_mem)), ?_⟩; exact fun _ h => nomatch h) (by rw [← hE]; kernel_rfl) (by kernel_rfl)) (by decide +kernel) (by kernel_rfl) (by kernel_rfl) (by decide +kernel) (by omega) (by omega) (by omega) (by omega)
      (fun C x hx => Ev.range1 ⟨(by rw [← hE]; kernel_rfl), B.range.1, B.range.2, (by kernel_rfl)⟩ (Ev.var (by repeat (first | exact List.mem_cons_self | apply List.mem_cons_of_mem)) (by kernel_rfl) (by kernel_rfl)) rfl)
      (fun C x hx c hc => by
        have bc := mem_rangeL hc
        have bx := mem_rangeL hx
        exact Ev.flat (Ev.mul (Ev.item (Ev.weak (Ev.var (by repeat (first | exact List.mem_cons_self | apply List.mem_cons_of_mem)) (by kernel_rfl) (by kernel_rfl))) (Ev.var (by repeat (first | exact List.mem_cons_self | apply List.mem_cons_of_mem)) (by kernel_rfl) (by kernel_rfl)) (by omega) (by omega) (iS c bc.1 bc.2) (fun _ _ => rfl)) (Ev.max2 hh' ⟨(by rw [← hE]; kernel_rfl), B.max.1, B.max.2, (by kernel_rfl)⟩
          (Ev.mul (Ev.item (Ev.weak (Ev.var (by repeat (first | exact List.mem_cons_self | apply List.mem_cons_of_mem)) (by kernel_rfl) (by kernel_rfl))) (Ev.var (by repeat (first | exact List.mem_cons_self | apply List.mem_cons_of_mem)) (by kernel_rfl) (by kernel_rfl)) (by omega) (by omega) (iS c bc.1 bc.2) (fun _ _ => rfl)) (Ev.item (Ev.weak (Ev.item (R := RList RInt) (Ev.weak (Ev.var (by repeat (first | exact List.mem_cons_self | apply List.mem_cons_of_mem)) (by kernel_rfl) (by kernel_rfl))) (Ev.var (by repeat (first | exact List.mem_cons_self | apply List.mem_cons_of_mem)) (by kernel_rfl) (by kernel_rfl)) (by omega) (by omega) (iD c bc.1 bc.2) (fun _ _ => rfl))) (Ev.var (by repeat (first | exact List.mem_cons_self | apply List.mem_cons_of_mem)) (by kernel_rfl) (by kernel_rfl)) (by omega) (by omega) (jD c (0 + (i : Int)) (by omega) (by omega)) (fun _ _ => rfl)) (mulok (hsg c)))
          (Ev.mul (Ev.item (Ev.weak (Ev.var (by repeat (first | exact List.mem_cons_self | apply List.mem_cons_of_mem)) (by kernel_rfl) (by kernel_rfl))) (Ev.var (by repeat (first | exact List.mem_cons_self | apply List.mem_cons_of_mem)) (by kernel_rfl) (by kernel_rfl)) (by omega) (by omega) (iS c bc.1 bc.2) (fun _ _ => rfl)) (Ev.item (Ev.weak (Ev.item (R := RList RInt) (Ev.weak (Ev.var (by repeat (first | exact List.mem_cons_self | apply List.mem_cons_of_mem)) (by kernel_rfl) (by kernel_rfl))) (Ev.var (by repeat (first | exact List.mem_cons_self | apply List.mem_cons_of_mem)) (by kernel_rfl) (by kernel_rfl)) (by omega) (by omega) (iA c bc.1 bc.2) (fun _ _ => rfl))) (Ev.var (by repeat (first | exact List.mem_cons_self | apply List.mem_cons_of_mem)) (by kernel_rfl) (by kernel_rfl)) (by omega) (by omega) (jA c x (by omega) (by omega)) (fun _ _ => rfl)) (mulok (hsg c))) rfl) (mulok (hsg c))) flat_int)
      (by rw [rangeL_length]; exact Nat.le_trans (Nat.mul_le_mul (show (p.w - 0).toNat ≤ 5 by omega) (show (p.u - 0).toNat ≤ 5 by omega)) (by decide)) (fun _ => rfl) (fun _ _ => rfl) u₀ E H₀.cx)
      (by simp [sizeLine]; omega) (by kernel_rfl) (by kernel_rfl) rfl rfl rfl rfl hint rfl fun u₁ H₁ _ => ?_
    refine wpAny_execs_nil ⟨rfl, ?_, trivial⟩
    simp only [List.range_succ, List.map_append, List.map_cons, List.map_nil]
    exact Fx.weak H₁ fun e he => List.mem_cons_of_mem _ he
  have eD : ((List.range (p.h - 0).toNat).map fun (y : Nat) => p.dueRow (0 + (y : Int))) = p.due := by rw [Int.sub_zero]; rfl
  rw [eD] at G7
  refine wpG_execs_cons (wpG.any (wpAny_Return_some (wpAny_mono (Ev.eqLL (xs := p.due) (Ev.weak2 (Ev.var (x := "told") (R := RList (RList RInt)) (by repeat (first | exact List.mem_cons_self | apply List.mem_cons_of_mem)) (by kernel_rfl) (by kernel_rfl))) (Ev.weak2 (Ev.var (x := "due") (R := RList (RList RInt)) (by repeat (first | exact List.mem_cons_self | apply List.mem_cons_of_mem)) (by kernel_rfl) (by kernel_rfl))) hun' rfl t7 _ G7.cx) (fun v t8 ⟨e, g8⟩ => ?_) fun _ _ q => q)))
  have e' : v = Value.bool true := e
  subst e'
  have G8 := G7.grow g8
  exact hQ t8 ⟨t8.heap, t8.toks, G8.base.eq, G8.upOld⟩
end
end Mine

namespace Mine

section
variable {prog : Program} {w : World} {A : Around} {E : Value → Shared → Prop} {s : Shared} {mg mb : Str → Option Value}

set_option maxHeartbeats 8000000 in
theorem law_walk {fl fa fs fp l : Addr} {vsc : List Value} {sc : List Int} {Q : Value → Shared → Prop} (hh : A.handled = none) (hroom : A.depth + 2 < recursionLimit) (hun : A.units + 4 < cLine)
    (f : FnAt s.heap fl "law" lawT.1 lawT.2.1 lawT.2.2) (U : Und mg mb s.heap fa fs fp) (B : Bts mg mb) (gu : mg "_law_undone" = some (.ref fa)) (Gl : Glo mg mb s.heap)
    (hl : s.heap.IsList l vsc.toArray) (hi : Paired (RInt.r s.heap) vsc sc) (hsz : sc.length ≤ 63) (PL : L1.Plain (L1.par sc)) (hQ : ∀ s', Grows s s' → Q (.bool true) s') :
    wpG (model prog w) A (call (.ref fl) [.ref l]) Q E s := by
  refine callG (vars := [⟨"script", List Int, RLst RInt, sc⟩]) (X := []) (binds := [("script", .ref l)]) f (by omega) rfl rfl (fun _ _ _ => rfl) Gl rfl ?_ ?_ ?_ (by simp) (by simp) (by simp) ?_ ?_
  · intro x hx
    simp only [List.mem_cons, List.not_mem_nil, or_false] at hx
    rcases hx with rfl
    kernel_rfl
  · show (["script"] : List Str).Nodup
    decide +kernel
  · decide +kernel
  · intro e he
    simp only [List.mem_cons, List.not_mem_nil, or_false] at he
    rcases he with rfl
    exact ⟨.ref l, by simp, fun h' c => (RLst RInt).up (fun b o e => c b o (by simp) e) ⟨l, vsc, rfl, hl, hi⟩⟩
  intro L code s₁ F up
  generalize hA : A.deeper _ = A'
  have hh' : A'.handled = none := by rw [← hA]; exact hh
  have hroom' : A'.depth + 1 < recursionLimit := by rw [← hA]; show A.depth + 1 + 1 < _; omega
  have hun' : A'.units + 1 < cLine := by rw [← hA]; show A.units + 3 + 1 < _; omega
  have kl : ∀ x : Str, lawT.2.2.names.lookup x = some .local → CanStore (newEnv lawT.2.2 L mainGlobals (cellsFrom (L + 1) lawT.2.2.names []) ("law" ++ ".<locals>.") (some fl) code none builtinsNs) x := fun x hx => .inl hx
  generalize hE : newEnv _ _ _ _ _ _ _ _ _ = env at *
  have hgu : Gbl mg env "_law_undone" (.ref fa) := ⟨(by rw [← hE]; kernel_rfl), gu, (by kernel_rfl)⟩
  have hint : interactive env = false := by rw [← hE]; rfl
  -- cells
  refine g_step (x_assign (val := L1.cells sc) (R := RList RInt) F (EvN.flat (EvN.addL (Ev.weak (EvN.ev (EvN.slice (Ev.var (by repeat (first | exact List.mem_cons_self | apply List.mem_cons_of_mem)) (by kernel_rfl) (by kernel_rfl)) EvP.none (EvP.some (Ev.int _)) (by simp [sizeLine]; omega)))) (Ev.weak (EvN.ev (EvN.slice (Ev.weak (EvN.ev (EvN.list (.cons (Ev.int _) (.cons (Ev.int _) .nil rfl) rfl) (by simp [sizeLine])))) (EvP.some (Ev.len ⟨(by rw [← hE]; kernel_rfl), B.len.1, B.len.2, (by kernel_rfl)⟩ (Ev.weak (EvN.ev (EvN.slice (Ev.var (by repeat (first | exact List.mem_cons_self | apply List.mem_cons_of_mem)) (by kernel_rfl) (by kernel_rfl)) EvP.none (EvP.some (Ev.int _)) (by simp [sizeLine]; omega)))) rfl ?_)) EvP.none (by simp [sizeLine])))) ?_) flat_int)
    (.inr ⟨(by rw [← hE]; kernel_rfl), by rw [← hE]; exact ⟨_, rfl⟩⟩) (by kernel_rfl) (by kernel_rfl) rfl fun s₂ F₂ => wpAny_execs_nil ⟨rfl, ?_⟩)
  · have := pick_le none (some 2) sc; omega
  · have h1 := pick_le none (some 42) sc
    have h2 := pick_le (some ((pick none (some 2) sc).length : Int)) none ([0, 0] : List Int)
    simp [sizeLine] at *
    omega
  have hcl := L1.cells_len sc
  have hcl2 := L1.cells_le sc hsz
  have e0 : (L1.par sc).c0 = (L1.cells sc).getD 0 0 := rfl
  have e1 : (L1.par sc).c1 = (L1.cells sc).getD 1 0 := rfl
  have eu : (L1.par sc).u = 4 - (L1.par sc).c0 % 4 := rfl
  have ew : (L1.par sc).w = 5 - (L1.par sc).c0 / 4 % 5 := rfl
  have eh : (L1.par sc).h = 5 - (L1.par sc).c0 / 20 % 5 := rfl
  have est : (L1.par sc).st = (rangeL 2 (2 + (L1.par sc).u * ((L1.par sc).w + (L1.par sc).h))).map (L1.stepV (L1.cells sc)) := rfl
  generalize hp : L1.par sc = p at *
  generalize hcs : L1.cells sc = cs at *
  have i0 : cs[(0 : Int).toNat]? = some p.c0 := by rw [e0]; simp only [Int.toNat_zero]; rw [List.getD_eq_getElem?_getD, List.getElem?_eq_getElem (by omega)]; rfl
  have i1 : cs[(1 : Int).toNat]? = some p.c1 := by rw [e1]; show cs[1]? = _; rw [List.getD_eq_getElem?_getD, List.getElem?_eq_getElem (by omega)]; rfl
  have bu : 1 ≤ p.u ∧ p.u ≤ 4 := by omega
  have bw : 1 ≤ p.w ∧ p.w ≤ 5 := by omega
  have bh : 1 ≤ p.h ∧ p.h ≤ 5 := by omega
  -- unit, wide, high
  refine g_step (x_tup3I (a := p.u) (b := p.w) (c := p.h) hh' F₂ rfl (by rw [← hE]; rfl) rfl
    (Ev.conv (Ev.sub (Ev.int _) (Ev.mod (Ev.item (Ev.weak (Ev.var (by repeat (first | exact List.mem_cons_self | apply List.mem_cons_of_mem)) (by kernel_rfl) (by kernel_rfl))) (Ev.int _) (by omega) (by omega) i0 (fun _ _ => rfl)) (Ev.int _) (by omega))) eu.symm)
    (Ev.conv (Ev.sub (Ev.int _) (Ev.mod (Ev.fdiv (Ev.item (Ev.weak (Ev.var (by repeat (first | exact List.mem_cons_self | apply List.mem_cons_of_mem)) (by kernel_rfl) (by kernel_rfl))) (Ev.int _) (by omega) (by omega) i0 (fun _ _ => rfl)) (Ev.int _) (by omega) (by omega)) (Ev.int _) (by omega))) ew.symm)
    (Ev.conv (Ev.sub (Ev.int _) (Ev.mod (Ev.fdiv (Ev.item (Ev.weak (Ev.var (by repeat (first | exact List.mem_cons_self | apply List.mem_cons_of_mem)) (by kernel_rfl) (by kernel_rfl))) (Ev.int _) (by omega) (by omega) i0 (fun _ _ => rfl)) (Ev.int _) (by omega) (by omega)) (Ev.int _) (by omega))) eh.symm)
    (.inr ⟨(by rw [← hE]; kernel_rfl), by rw [← hE]; exact ⟨_, rfl⟩⟩) (.inr ⟨(by rw [← hE]; kernel_rfl), by rw [← hE]; exact ⟨_, rfl⟩⟩) (.inl (by rw [← hE]; kernel_rfl)) (by kernel_rfl) (by kernel_rfl) (by kernel_rfl) fun s₃ F₃ => wpAny_execs_nil ⟨rfl, ?_⟩)
  have buw : 1 ≤ p.u * (p.w + p.h) ∧ p.u * (p.w + p.h) ≤ 40 := by
    constructor
    · have := Int.mul_le_mul bu.1 (show 1 ≤ p.w + p.h by omega) (by omega) (by omega)
      omega
    · have := Int.mul_le_mul bu.2 (show p.w + p.h ≤ 10 by omega) (by omega) (by omega)
      omega
  -- steps
  refine g_step (x_comp1 (cap := [⟨"cells", List Int, RList RInt, cs⟩]) (R := RInt) (S := RInt) (RI := RRange) (L1.stepV cs) F₃ (Ev.range2 ⟨(by rw [← hE]; kernel_rfl), B.range.1, B.range.2, (by kernel_rfl)⟩ (Ev.int _) (Ev.add (Ev.int _) (Ev.mul (Ev.var (by repeat (first | exact List.mem_cons_self | apply List.mem_cons_of_mem)) (by kernel_rfl) (by kernel_rfl)) (Ev.add (Ev.var (by repeat (first | exact List.mem_cons_self | apply List.mem_cons_of_mem)) (by kernel_rfl) (by kernel_rfl)) (Ev.var (by repeat (first | exact List.mem_cons_self | apply List.mem_cons_of_mem)) (by kernel_rfl) (by kernel_rfl))) (mulok (by omega)))) rfl) (Itb.range hh' (by omega) (by omega) (by omega) (by omega)) (ScopeOk.of rfl (by kernel_rfl) (by refine List.forall_mem_cons.mpr ⟨(by repeat (first | exact List.mem_cons_self | apply List.mem_cons_of_mem)), ?_⟩; exact fun _ h => nomatch h) (by rw [← hE]; kernel_rfl) (by kernel_rfl)) (.loc (by decide +kernel) (by kernel_rfl))
    (fun C k hk => ?_) (by rw [rangeL_length]; simp [sizeLine]; omega) (fun _ => rfl) (by rw [← hE]; rfl) (.inl (by rw [← hE]; kernel_rfl)) (by kernel_rfl) (by kernel_rfl) fun s₄ F₄ => wpAny_execs_nil ⟨rfl, ?_⟩)
  · have bk := mem_rangeL hk
    refine Ev.flat (Ev.mod (Ev.ite (EvB.lt (Ev.var (by repeat (first | exact List.mem_cons_self | apply List.mem_cons_of_mem)) (by kernel_rfl) (by kernel_rfl)) (Ev.len ⟨(by rw [← hE]; kernel_rfl), B.len.1, B.len.2, (by kernel_rfl)⟩ (Ev.weak (Ev.var (by repeat (first | exact List.mem_cons_self | apply List.mem_cons_of_mem)) (by kernel_rfl) (by kernel_rfl))) rfl (by omega)) rfl) (fun hk' => Ev.item (Ev.weak (Ev.var (by repeat (first | exact List.mem_cons_self | apply List.mem_cons_of_mem)) (by kernel_rfl) (by kernel_rfl))) (Ev.var (by repeat (first | exact List.mem_cons_self | apply List.mem_cons_of_mem)) (by kernel_rfl) (by kernel_rfl)) (by omega) (by omega) ?_ (fun _ _ => rfl)) (fun _ => Ev.mul (Ev.int _) (Ev.var (by repeat (first | exact List.mem_cons_self | apply List.mem_cons_of_mem)) (by kernel_rfl) (by kernel_rfl)) (mulok (by decide)))) (Ev.int _) (by omega)) flat_int
    have := of_decide_eq_true hk'
    rw [List.getD_eq_getElem?_getD, List.getElem?_eq_getElem (by omega)]
    rfl
  rw [← est] at F₄
  -- across, down, signs
  refine g_step (x_new3 (RList RInt) (RList RInt) RInt hh' F₄ rfl (by rw [← hE]; rfl) rfl (.inr ⟨(by rw [← hE]; kernel_rfl), by rw [← hE]; exact ⟨_, rfl⟩⟩) (.inr ⟨(by rw [← hE]; kernel_rfl), by rw [← hE]; exact ⟨_, rfl⟩⟩) (.inr ⟨(by rw [← hE]; kernel_rfl), by rw [← hE]; exact ⟨_, rfl⟩⟩) (by kernel_rfl) (by kernel_rfl) (by kernel_rfl) fun aA aD aS s₅ F₅ => wpAny_execs_nil ⟨rfl, ?_⟩)
  have lst : p.st.length ≤ 40 := by rw [est, List.length_map, rangeL_length]; omega
  -- for c in range(unit)
  refine g_step (x_for (a := 0) (b := p.u) (vs := fun _ => [⟨"steps", List Int, RList RInt, p.st⟩, ⟨"high", Int, RInt, p.h⟩, ⟨"wide", Int, RInt, p.w⟩, ⟨"unit", Int, RInt, p.u⟩, ⟨"cells", List Int, RList RInt, cs⟩])
    (mss := fun i => [⟨"signs", aS, Int, RInt, (List.range i).map fun (j : Nat) => p.sgn (j : Int)⟩, ⟨"down", aD, List Int, RList RInt, (List.range i).map fun (j : Nat) => (rangeL 0 p.h).map (p.D (j : Int))⟩, ⟨"across", aA, List Int, RList RInt, (List.range i).map fun (j : Nat) => (rangeL 0 p.w).map (p.A (j : Int))⟩])
    (J := fun _ _ => True) hh' (F₅.weak fun e he => List.mem_append_left [_] he) (by omega) (by omega) (by omega) (by omega) (fun E => Ev.range1 ⟨(by rw [← hE]; kernel_rfl), B.range.1, B.range.2, (by kernel_rfl)⟩ (Ev.var (by repeat (first | exact List.mem_cons_self | apply List.mem_cons_of_mem)) (by kernel_rfl) (by kernel_rfl)) rfl s₅ E F₅.cx) (.inr ⟨(by rw [← hE]; kernel_rfl), by rw [← hE]; exact ⟨_, rfl⟩⟩) (fun _ => (by kernel_rfl)) (fun _ => (by kernel_rfl)) (fun _ => rfl) (fun _ _ _ _ _ => trivial) trivial ?_
    (fun _ => rfl) (fun _ _ => rfl) fun s₆ F₆ _ => wpAny_execs_nil ⟨rfl, ?_⟩)
  · intro i Z' t₀ E' hi G₀ _
    rw [Int.zero_add] at G₀
    have hi4 : i < 4 := by omega
    have hpw : (0 : Int) < 2 ^ (i : Int).toNat ∧ (2 : Int) ^ (i : Int).toNat < 1073741824 := by
      have : i = 0 ∨ i = 1 ∨ i = 2 ∨ i = 3 := by omega
      rcases this with rfl | rfl | rfl | rfl <;> decide
    have hsg : (p.sgn (i : Int)).natAbs < 2 ^ 63 := by
      unfold L1.P.sgn
      have := Int.emod_two_eq (p.c1 / 2 ^ (i : Int).toNat)
      rcases this with h | h <;> rw [h] <;> decide
    have isg : ((List.range i).map (fun (j : Nat) => p.sgn (j : Int)) ++ [p.sgn (i : Int)])[(i : Int).toNat]? = some (p.sgn (i : Int)) := by simp
    refine x_append (l1 := []) (y := p.sgn (i : Int)) G₀ (fun E => Ev.flat (Ev.sub (Ev.int _) (Ev.mul (Ev.int _) (Ev.mod (Ev.fdiv (Ev.item (Ev.weak (Ev.var (by repeat (first | exact List.mem_cons_self | apply List.mem_cons_of_mem)) (by kernel_rfl) (by kernel_rfl))) (Ev.int _) (by omega) (by omega) i1 (fun _ _ => rfl)) (Ev.pow (Ev.int _) (Ev.var (by repeat (first | exact List.mem_cons_self | apply List.mem_cons_of_mem)) (by kernel_rfl) (by kernel_rfl)) (by omega) (by omega) (by decide)) hpw.1 hpw.2) (Ev.int _) (by omega)) (mulok (by decide)))) flat_int t₀ E G₀.cx)
      (by simp [sizeLine]; omega) (by kernel_rfl) (by kernel_rfl) rfl rfl rfl rfl hint rfl fun t₁ G₁ _ => ?_
    refine x_assign (val := p.own (i : Int)) (R := RList RInt) G₁ (EvN.flat (EvN.slice (Ev.weak (Ev.var (by repeat (first | exact List.mem_cons_self | apply List.mem_cons_of_mem)) (by kernel_rfl) (by kernel_rfl))) (EvP.some (Ev.mul (Ev.var (by repeat (first | exact List.mem_cons_self | apply List.mem_cons_of_mem)) (by kernel_rfl) (by kernel_rfl)) (Ev.add (Ev.var (by repeat (first | exact List.mem_cons_self | apply List.mem_cons_of_mem)) (by kernel_rfl) (by kernel_rfl)) (Ev.var (by repeat (first | exact List.mem_cons_self | apply List.mem_cons_of_mem)) (by kernel_rfl) (by kernel_rfl))) (mulok (by omega)))) (EvP.some (Ev.mul (Ev.add (Ev.var (by repeat (first | exact List.mem_cons_self | apply List.mem_cons_of_mem)) (by kernel_rfl) (by kernel_rfl)) (Ev.int _)) (Ev.add (Ev.var (by repeat (first | exact List.mem_cons_self | apply List.mem_cons_of_mem)) (by kernel_rfl) (by kernel_rfl)) (Ev.var (by repeat (first | exact List.mem_cons_self | apply List.mem_cons_of_mem)) (by kernel_rfl) (by kernel_rfl))) (mulok (by omega)))) (by simp [sizeLine]; omega)) flat_int) (.inr ⟨(by rw [← hE]; kernel_rfl), by rw [← hE]; exact ⟨_, rfl⟩⟩) (by kernel_rfl) (by kernel_rfl) rfl fun t₂ G₂ => ?_
    refine x_assign (val := p.corner (i : Int)) (R := RInt) G₂ (Ev.flat (Ev.add (Ev.ite (EvB.eq (Ev.item (Ev.weak (Ev.var (by repeat (first | exact List.mem_cons_self | apply List.mem_cons_of_mem)) (by kernel_rfl) (by kernel_rfl))) (Ev.var (by repeat (first | exact List.mem_cons_self | apply List.mem_cons_of_mem)) (by kernel_rfl) (by kernel_rfl)) (by omega) (by omega) isg (fun _ _ => rfl)) (Ev.int _) rfl) (fun _ => (Ev.int _)) (fun _ => (Ev.int _))) (Ev.mod (Ev.fdiv (Ev.item (Ev.weak (Ev.var (by repeat (first | exact List.mem_cons_self | apply List.mem_cons_of_mem)) (by kernel_rfl) (by kernel_rfl))) (Ev.int _) (by omega) (by omega) i1 (fun _ _ => rfl)) (Ev.int _) (by omega) (by omega)) (Ev.int _) (by omega))) flat_int) (.inr ⟨(by rw [← hE]; kernel_rfl), by rw [← hE]; exact ⟨_, rfl⟩⟩) (by kernel_rfl) (by kernel_rfl) rfl fun t₃ G₃ => ?_
    have lown : (p.own (i : Int)).length ≤ 40 := Nat.le_trans (pick_le _ _ _) lst
    refine x_append (l1 := [_, _]) (y := (rangeL 0 p.w).map (p.A (i : Int))) G₃ (fun E => EvF.map (cap := [⟨"c", Int, RInt, (i : Int)⟩, ⟨"corner", Int, RInt, p.corner (i : Int)⟩, ⟨"own", List Int, RList RInt, p.own (i : Int)⟩, ⟨"signs", List Int, RList RInt, (List.range i).map (fun (j : Nat) => p.sgn (j : Int)) ++ [p.sgn (i : Int)]⟩]) (R := RInt) (S := RInt) (RI := RRange) (p.A (i : Int)) (Ev.range1 ⟨(by rw [← hE]; kernel_rfl), B.range.1, B.range.2, (by kernel_rfl)⟩ (Ev.var (by repeat (first | exact List.mem_cons_self | apply List.mem_cons_of_mem)) (by kernel_rfl) (by kernel_rfl)) rfl) (Itb.range hh' (by omega) (by omega) (by omega) (by omega)) (ScopeOk.of rfl (by kernel_rfl) (by refine List.forall_mem_cons.mpr ⟨(by repeat (first | exact List.mem_cons_self | apply List.mem_cons_of_mem)), ?_⟩; refine List.forall_mem_cons.mpr ⟨(by repeat (first | exact List.mem_cons_self | apply List.mem_cons_of_mem)), ?_⟩; refine List.forall_mem_cons.mpr ⟨(by repeat (first | exact List.mem_cons_self | apply List.mem_cons_of_mem)), ?_⟩; refine List.forall_mem_cons.mpr ⟨(by repeat (first | exact List.mem_cons_self | apply List.mem_cons_of_mem)), ?_⟩; exact fun _ h => nomatch h) (by rw [← hE]; kernel_rfl) (by kernel_rfl)) (.loc (by decide +kernel) (by kernel_rfl))
      (fun C x hx => Ev.flat (Ev.add (Ev.var (by repeat (first | exact List.mem_cons_self | apply List.mem_cons_of_mem)) (by kernel_rfl) (by kernel_rfl)) (Ev.mul (Ev.item (Ev.weak (Ev.var (by repeat (first | exact List.mem_cons_self | apply List.mem_cons_of_mem)) (by kernel_rfl) (by kernel_rfl))) (Ev.var (by repeat (first | exact List.mem_cons_self | apply List.mem_cons_of_mem)) (by kernel_rfl) (by kernel_rfl)) (by omega) (by omega) isg (fun _ _ => rfl)) (Ev.sum hh' ⟨(by rw [← hE]; kernel_rfl), B.sum.1, B.sum.2, (by kernel_rfl)⟩ (Ev.weak (EvN.ev (EvN.slice (Ev.weak (Ev.var (by repeat (first | exact List.mem_cons_self | apply List.mem_cons_of_mem)) (by kernel_rfl) (by kernel_rfl))) (EvP.some (Ev.int _)) (EvP.some (Ev.add (Ev.var (by repeat (first | exact List.mem_cons_self | apply List.mem_cons_of_mem)) (by kernel_rfl) (by kernel_rfl)) (Ev.int _))) (by simp [sizeLine]; omega)))) rfl) (mulok hsg))) flat_int) (by rw [rangeL_length]; simp [sizeLine]; omega) (fun _ => rfl) t₃ E G₃.cx)
      (by simp [sizeLine]; omega) (by kernel_rfl) (by kernel_rfl) rfl rfl rfl rfl hint rfl fun t₄ G₄ _ => ?_
    refine x_append (l1 := [_]) (y := (rangeL 0 p.h).map (p.D (i : Int))) G₄ (fun E => EvF.map (cap := [⟨"c", Int, RInt, (i : Int)⟩, ⟨"corner", Int, RInt, p.corner (i : Int)⟩, ⟨"own", List Int, RList RInt, p.own (i : Int)⟩, ⟨"wide", Int, RInt, p.w⟩, ⟨"signs", List Int, RList RInt, (List.range i).map (fun (j : Nat) => p.sgn (j : Int)) ++ [p.sgn (i : Int)]⟩]) (R := RInt) (S := RInt) (RI := RRange) (p.D (i : Int)) (Ev.range1 ⟨(by rw [← hE]; kernel_rfl), B.range.1, B.range.2, (by kernel_rfl)⟩ (Ev.var (by repeat (first | exact List.mem_cons_self | apply List.mem_cons_of_mem)) (by kernel_rfl) (by kernel_rfl)) rfl) (Itb.range hh' (by omega) (by omega) (by omega) (by omega)) (ScopeOk.of rfl (by kernel_rfl) (by refine List.forall_mem_cons.mpr ⟨(by repeat (first | exact List.mem_cons_self | apply List.mem_cons_of_mem)), ?_⟩; refine List.forall_mem_cons.mpr ⟨(by repeat (first | exact List.mem_cons_self | apply List.mem_cons_of_mem)), ?_⟩; refine List.forall_mem_cons.mpr ⟨(by repeat (first | exact List.mem_cons_self | apply List.mem_cons_of_mem)), ?_⟩; refine List.forall_mem_cons.mpr ⟨(by repeat (first | exact List.mem_cons_self | apply List.mem_cons_of_mem)), ?_⟩; refine List.forall_mem_cons.mpr ⟨(by repeat (first | exact List.mem_cons_self | apply List.mem_cons_of_mem)), ?_⟩; exact fun _ h => nomatch h) (by rw [← hE]; kernel_rfl) (by kernel_rfl)) (.loc (by decide +kernel) (by kernel_rfl))
      (fun C y hy => Ev.flat (Ev.add (Ev.var (by repeat (first | exact List.mem_cons_self | apply List.mem_cons_of_mem)) (by kernel_rfl) (by kernel_rfl)) (Ev.mul (Ev.item (Ev.weak (Ev.var (by repeat (first | exact List.mem_cons_self | apply List.mem_cons_of_mem)) (by kernel_rfl) (by kernel_rfl))) (Ev.var (by repeat (first | exact List.mem_cons_self | apply List.mem_cons_of_mem)) (by kernel_rfl) (by kernel_rfl)) (by omega) (by omega) isg (fun _ _ => rfl)) (Ev.sum hh' ⟨(by rw [← hE]; kernel_rfl), B.sum.1, B.sum.2, (by kernel_rfl)⟩ (Ev.weak (EvN.ev (EvN.slice (Ev.weak (Ev.var (by repeat (first | exact List.mem_cons_self | apply List.mem_cons_of_mem)) (by kernel_rfl) (by kernel_rfl))) (EvP.some (Ev.add (Ev.var (by repeat (first | exact List.mem_cons_self | apply List.mem_cons_of_mem)) (by kernel_rfl) (by kernel_rfl)) (Ev.int _))) (EvP.some (Ev.add (Ev.add (Ev.var (by repeat (first | exact List.mem_cons_self | apply List.mem_cons_of_mem)) (by kernel_rfl) (by kernel_rfl)) (Ev.var (by repeat (first | exact List.mem_cons_self | apply List.mem_cons_of_mem)) (by kernel_rfl) (by kernel_rfl))) (Ev.int _))) (by simp [sizeLine]; omega)))) rfl) (mulok hsg))) flat_int) (by rw [rangeL_length]; simp [sizeLine]; omega) (fun _ => rfl) t₄ E G₄.cx)
      (by simp [sizeLine]; omega) (by kernel_rfl) (by kernel_rfl) rfl rfl rfl rfl hint rfl fun t₅ G₅ _ => ?_
    refine wpAny_execs_nil ⟨rfl, ?_, trivial⟩
    simp only [List.range_succ, List.map_append, List.map_cons, List.map_nil]
    refine Fx.weak G₅ fun e he => ?_
    exact List.mem_cons_of_mem _ (List.mem_cons_of_mem _ (List.mem_cons_of_mem _ he))
  exact law_tail (fa := fa) (fs := fs) (fp := fp) hh' hroom' hun' hE U B gu hcl i0 bu bw bh PL F₆ fun s' g => hQ s' g
end
end Mine

namespace Mine

/-- Paeth where the corner lies under both neighbours: the greater one -/
theorem paeth_max {a b c : Int} (h1 : c ≤ a) (h2 : c ≤ b) : paeth a b c = if a ≥ b then a else b := by
  unfold paeth iabs
  simp only [Bool.and_eq_true, decide_eq_true_eq]
  repeat' split
  all_goals omega
/-- .. over both: the lesser one -/
theorem paeth_min {a b c : Int} (h1 : a ≤ c) (h2 : b ≤ c) : paeth a b c = if a ≤ b then a else b := by
  unfold paeth iabs
  simp only [Bool.and_eq_true, decide_eq_true_eq]
  repeat' split
  all_goals omega
theorem paeth_left {a : Int} (_h : 0 ≤ a) : paeth a 0 0 = a := by
  unfold paeth iabs
  simp only [Bool.and_eq_true, decide_eq_true_eq]
  repeat' split
  all_goals omega
theorem paeth_up {b : Int} (_h : 0 ≤ b) : paeth 0 b 0 = b := by
  unfold paeth iabs
  simp only [Bool.and_eq_true, decide_eq_true_eq]
  repeat' split
  all_goals omega
end Mine

namespace Mine

theorem sum_take_facts {l : List Int} (h : ∀ v ∈ l, 0 ≤ v ∧ v ≤ 25) : ∀ k : Nat, 0 ≤ (l.take k).sum ∧ (l.take k).sum ≤ 25 * (k : Int) ∧ (l.take k).sum ≤ (l.take (k + 1)).sum := by
  induction l with
  | nil => intro k; simp; omega
  | cons a l ih =>
    have ha := h a List.mem_cons_self
    have ih' := ih fun v hv => h v (List.mem_cons_of_mem _ hv)
    intro k
    cases k with
    | zero => simp; omega
    | succ k =>
      have := ih' k
      simp only [List.take_succ_cons, List.sum_cons]
      omega
theorem grid {α : Type} (f : Nat → Nat → α) (U : Nat) (hU : 0 < U) : ∀ W : Nat, ((List.range W).flatMap fun x => (List.range U).map (f x)) = (List.range (U * W)).map fun j => f (j / U) (j % U)
  | 0 => by simp
  | W + 1 => by
    rw [List.range_succ, List.flatMap_append, grid f U hU W, Nat.mul_succ, List.range_add, List.map_append, List.map_map]
    congr 1
    simp only [List.flatMap_cons, List.flatMap_nil, List.append_nil]
    apply List.map_congr_left
    intro c hc
    have hc' : c < U := List.mem_range.mp hc
    show f W c = f ((U * W + c) / U) ((U * W + c) % U)
    rw [Nat.mul_add_div hU, Nat.mul_add_mod, Nat.div_eq_of_lt hc', Nat.mod_eq_of_lt hc', Nat.add_zero]
theorem rangeL_zero (n : Nat) : rangeL 0 (n : Int) = (List.range n).map fun (i : Nat) => (i : Int) := by simp [rangeL]
theorem gridL {α : Type} (g : Int → Int → α) (U W : Nat) (hU : 0 < U) : ((rangeL 0 (W : Int)).flatMap fun x => (rangeL 0 (U : Int)).map (g x)) = (List.range (U * W)).map fun (j : Nat) => g ((j / U : Nat) : Int) ((j % U : Nat) : Int) := by
  rw [← grid (fun x c => g (x : Int) (c : Int)) U hU W, rangeL_zero W, rangeL_zero U, List.flatMap_map]
  simp only [List.map_map, Function.comp_def]
theorem getD_range {n j : Nat} {f : Nat → Int} (h : j < n) : ((List.range n).map f).getD j 0 = f j := by
  rw [List.getD_eq_getElem?_getD, List.getElem?_map, List.getElem?_range h]; rfl

namespace L1
section
variable (p : P) {U W H : Nat}

theorem line0_eq (hu : p.u = U) (hw : p.w = W) (hU : 0 < U) (hW : 0 < W) : p.line0 = (List.range (U * W)).map fun (j : Nat) => if j < U then p.A (j : Int) 0 else (p.A ((j % U : Nat) : Int) ((j / U : Nat) : Int) - p.A ((j % U : Nat) : Int) (((j / U : Nat) : Int) - 1)) % 256 := by
  obtain ⟨V, rfl⟩ : ∃ V, W = V + 1 := ⟨W - 1, by omega⟩
  have e1 : rangeL 1 ((V + 1 : Nat) : Int) = (rangeL 0 (V : Int)).map (fun x => x + 1) := by
    simp only [rangeL, List.map_map]
    have : (((V + 1 : Nat) : Int) - 1).toNat = ((V : Int) - 0).toNat := by omega
    rw [this]
    apply List.map_congr_left
    intro i _
    simp [Int.add_comm]
  unfold P.line0
  rw [hu, hw, e1, List.flatMap_map, gridL (fun x c => (p.A c (x + 1) - p.A c (x + 1 - 1)) % 256) U V hU, Nat.mul_succ, Nat.add_comm, List.range_add, List.map_append, rangeL_zero, List.map_map, List.map_map]
  congr 1
  · apply List.map_congr_left
    intro j hj
    have hj' : j < U := List.mem_range.mp hj
    simp [hj']
  · apply List.map_congr_left
    intro j _
    have q1 : (U + j) / U = j / U + 1 := by rw [Nat.add_div_left _ hU]
    have q2 : (U + j) % U = j % U := by rw [Nat.add_mod_left]
    simp only [Function.comp_apply]
    rw [if_neg (by omega), q1, q2]
    rfl
theorem lineY_eq (hu : p.u = U) (hw : p.w = W) (hU : 0 < U) (hW : 0 < W) (y : Int) : p.lineY y = (List.range (U * W)).map fun (j : Nat) => if j < U then (p.D (j : Int) y - p.D (j : Int) (y - 1)) % 256 else 0 := by
  obtain ⟨V, rfl⟩ : ∃ V, W = V + 1 := ⟨W - 1, by omega⟩
  unfold P.lineY
  have e1 : (p.u * (p.w - 1)).toNat = U * V := by
    rw [hu, hw]
    have : ((V + 1 : Nat) : Int) - 1 = (V : Int) := by omega
    rw [this, ← Int.natCast_mul]
    exact Int.toNat_natCast _
  rw [e1, hu, Nat.mul_succ, Nat.add_comm, List.range_add, List.map_append, rangeL_zero, List.map_map, List.map_map]
  congr 1
  · apply List.map_congr_left
    intro j hj
    have hj' : j < U := List.mem_range.mp hj
    simp [hj']
  · refine (List.eq_replicate_iff.mpr ⟨by simp, fun b hb => ?_⟩).symm
    obtain ⟨j, _, rfl⟩ := List.mem_map.mp hb
    simp only [Function.comp_apply]
    exact if_neg (by omega)
theorem dueRow_eq (hu : p.u = U) (hw : p.w = W) (hU : 0 < U) (y : Int) : p.dueRow y = (List.range (U * W)).map fun (j : Nat) => p.dueV y ((j / U : Nat) : Int) ((j % U : Nat) : Int) := by
  unfold P.dueRow
  rw [hu, hw, gridL (fun x c => p.dueV y x c) U W hU]
end
end L1
end Mine

namespace Mine
namespace L1

theorem pick_shift (l : List Int) (k : Nat) (m : Int) (hm : 0 ≤ m) : pick (some m) (some (m + (k : Int))) l = (l.drop m.toNat).take k := by
  rw [pick_cut hm (by omega)]
  congr 1
  omega

/-- what a channel's sums keep to -/
structure Ch (p : P) (c : Int) where
  k : Int
  hk : 0 ≤ k ∧ k < 100
  a : Nat → Int
  d : Nat → Int
  a0 : a 0 = 0
  d0 : d 0 = 0
  am : ∀ x, a x ≤ a (x + 1)
  dm : ∀ y, d y ≤ d (y + 1)
  ap : ∀ x, 0 ≤ a x ∧ a x ≤ 25 * x
  dp : ∀ y, 0 ≤ d y ∧ d y ≤ 25 * y
  sg : (p.sgn c = 1 ∧ (∀ x : Nat, p.A c x = k + a x) ∧ ∀ y : Nat, p.D c y = k + d y) ∨ (p.sgn c = -1 ∧ (∀ x : Nat, p.A c x = 155 + k - a x) ∧ ∀ y : Nat, p.D c y = 155 + k - d y)

theorem stepV_range (cs : List Int) (k : Int) : 0 ≤ stepV cs k ∧ stepV cs k ≤ 25 := by
  unfold stepV
  omega

theorem ch_of (p : P) (hs : ∀ v ∈ p.st, 0 ≤ v ∧ v ≤ 25) (hw : 0 ≤ p.w) (c : Int) : Nonempty (Ch p c) := by
  have own : ∀ v ∈ p.own c, 0 ≤ v ∧ v ≤ 25 := fun v hv => by
    unfold P.own pick at hv
    exact hs v (List.mem_of_mem_drop (List.mem_of_mem_take hv))
  have t1 := fun k => sum_take_facts (l := (p.own c).drop 1) (fun v hv => own v (List.mem_of_mem_drop hv)) k
  have t2 := fun k => sum_take_facts (l := (p.own c).drop (p.w + 1).toNat) (fun v hv => own v (List.mem_of_mem_drop hv)) k
  have eA : ∀ x : Nat, p.A c x = p.corner c + p.sgn c * (((p.own c).drop 1).take x).sum := fun x => by
    unfold P.A
    rw [Int.add_comm (x : Int) 1, pick_shift _ x 1 (by omega)]
    rfl
  have eD : ∀ y : Nat, p.D c y = p.corner c + p.sgn c * (((p.own c).drop (p.w + 1).toNat).take y).sum := fun y => by
    unfold P.D
    have : p.w + (y : Int) + 1 = (p.w + 1) + (y : Int) := by omega
    rw [this, pick_shift _ y (p.w + 1) (by omega)]
  refine ⟨⟨p.c1 / 16 % 100, by omega, fun x => (((p.own c).drop 1).take x).sum, fun y => (((p.own c).drop (p.w + 1).toNat).take y).sum, by simp, by simp, fun x => (t1 x).2.2, fun y => (t2 y).2.2, fun x => ⟨(t1 x).1, (t1 x).2.1⟩, fun y => ⟨(t2 y).1, (t2 y).2.1⟩, ?_⟩⟩
  have hsg : p.sgn c = 1 ∨ p.sgn c = -1 := by
    unfold P.sgn
    have := Int.emod_two_eq (p.c1 / 2 ^ c.toNat)
    omega
  rcases hsg with h | h
  · refine .inl ⟨h, fun x => ?_, fun y => ?_⟩
    · rw [eA]; unfold P.corner; rw [h]; simp
    · rw [eD]; unfold P.corner; rw [h]; simp
  · refine .inr ⟨h, fun x => ?_, fun y => ?_⟩
    · rw [eA]; unfold P.corner; rw [h]; simp; omega
    · rw [eD]; unfold P.corner; rw [h]; simp; omega

theorem due_val {p : P} {c : Int} (C : Ch p c) (y x : Nat) : (p.sgn c = 1 ∧ p.dueV y x c = C.k + (if C.a x > C.d y then C.a x else C.d y)) ∨ (p.sgn c = -1 ∧ p.dueV y x c = 155 + C.k - (if C.a x > C.d y then C.a x else C.d y)) := by
  rcases C.sg with ⟨h, hA, hD⟩ | ⟨h, hA, hD⟩
  · refine .inl ⟨h, ?_⟩
    unfold P.dueV
    rw [h, hA, hD]
    repeat' split
    all_goals omega
  · refine .inr ⟨h, ?_⟩
    unfold P.dueV
    rw [h, hA, hD]
    repeat' split
    all_goals omega

theorem max4 {a a' d d' : Int} (h1 : a ≤ a') (h2 : d ≤ d') : (if a > d then a else d) ≤ (if a > d' then a else d') ∧ (if a > d then a else d) ≤ (if a' > d then a' else d) ∧
    (if a' > d' then a' else d') = if (if a > d' then a else d') ≥ (if a' > d then a' else d) then (if a > d' then a else d') else (if a' > d then a' else d) := by
  refine ⟨?_, ?_, ?_⟩ <;> repeat' split
  all_goals omega
theorem mono_le {f : Nat → Int} (h : ∀ x, f x ≤ f (x + 1)) : ∀ x, 0 < x → f (x - 1) ≤ f x := fun x hx => by
  have := h (x - 1)
  rwa [Nat.sub_add_cancel hx] at this

set_option maxHeartbeats 2000000 in
theorem plain_of (p : P) (hs : ∀ v ∈ p.st, 0 ≤ v ∧ v ≤ 25) (bu : 1 ≤ p.u ∧ p.u ≤ 4) (bw : 1 ≤ p.w ∧ p.w ≤ 5) (bh : 1 ≤ p.h ∧ p.h ≤ 5) (hway : p.way = 4 ∨ p.way = 1) : Plain p := by
  obtain ⟨U, hU⟩ : ∃ U : Nat, p.u = U := ⟨p.u.toNat, by omega⟩
  obtain ⟨W, hW⟩ : ∃ W : Nat, p.w = W := ⟨p.w.toNat, by omega⟩
  obtain ⟨H, hH⟩ : ∃ H : Nat, p.h = H := ⟨p.h.toNat, by omega⟩
  have eN : (p.u * p.w).toNat = U * W := by rw [hU, hW, ← Int.natCast_mul]; exact Int.toNat_natCast _
  have eH : p.h.toNat = H := by omega
  have eU : p.u.toNat = U := by omega
  have U0 : 0 < U := by omega
  have W0 : 0 < W := by omega
  have xlt : ∀ j, j < U * W → j / U < W := fun j hj => Nat.div_lt_of_lt_mul hj
  have clt : ∀ j, j % U < U := fun j => Nat.mod_lt _ U0
  have chan : ∀ c : Nat, Nonempty (Ch p c) := fun c => ch_of p hs (by omega) c
  have rng : ∀ y, y < H → ∀ x, x < W → ∀ c : Nat, 0 ≤ p.dueV y x c ∧ p.dueV y x c < 256 := fun y hy x hx c => by
    obtain ⟨C⟩ := chan c
    have h1 := C.ap x
    have h2 := C.dp y
    have h3 := C.hk
    rcases due_val C y x with ⟨_, e⟩ | ⟨_, e⟩ <;> rw [e] <;> split <;> omega
  have Arng : ∀ c : Nat, 0 ≤ p.A c 0 ∧ p.A c 0 < 256 := fun c => by
    obtain ⟨C⟩ := chan c
    have h3 := C.hk
    have h4 := C.a0
    rcases C.sg with ⟨_, hA, _⟩ | ⟨_, hA, _⟩ <;> (have := hA 0; rw [show ((0 : Nat) : Int) = 0 from rfl] at this; rw [this]; omega)
  refine ⟨fun y j => p.dueV y ((j / U : Nat) : Int) ((j % U : Nat) : Int), ?_, ?_, ?_, ?_, ?_⟩
  · unfold rowsOf P.due
    rw [eN, eH]
    apply List.map_congr_left
    intro y _
    rw [Int.zero_add, dueRow_eq p hU hW U0]
  · intro y hy j hj
    rw [eN] at hj
    rw [eH] at hy
    exact rng y hy _ (xlt j hj) _
  · intro l hl
    rw [eN]
    unfold P.lines at hl
    rcases List.mem_cons.mp hl with rfl | hl
    · rw [line0_eq p hU hW U0 W0]; simp
    · obtain ⟨j, _, rfl⟩ := List.mem_map.mp hl
      rw [lineY_eq p hU hW U0 W0]; simp
  · intro l hl x hx
    unfold P.lines at hl
    rcases List.mem_cons.mp hl with rfl | hl
    · rw [line0_eq p hU hW U0 W0] at hx
      obtain ⟨j, _, rfl⟩ := List.mem_map.mp hx
      split
      · exact Arng _
      · omega
    · obtain ⟨j, _, rfl⟩ := List.mem_map.mp hl
      rw [lineY_eq p hU hW U0 W0] at hx
      obtain ⟨j, _, rfl⟩ := List.mem_map.mp hx
      split <;> omega
  · intro y hy line way hline hwy pr hpr
    rw [eN] at hpr ⊢
    rw [eH] at hy
    rw [eU]
    cases y with
    | zero =>
      have el : line = p.line0 := by
        unfold P.lines at hline
        simpa using hline.symm
      have ewy : way = p.way := by
        unfold P.ways at hwy
        simpa using hwy.symm
      subst el ewy
      have gl : ∀ j, j < U * W → p.line0.getD j 0 = if j < U then p.A (j : Int) 0 else (p.A ((j % U : Nat) : Int) ((j / U : Nat) : Int) - p.A ((j % U : Nat) : Int) (((j / U : Nat) : Int) - 1)) % 256 := fun j hj => by
        rw [line0_eq p hU hW U0 W0, getD_range hj]
      -- the first row is the row across
      have o0 : ∀ x c : Nat, p.dueV ((0 : Nat) : Int) x c = p.A c x := fun x c => by
        obtain ⟨C⟩ := chan c
        have h1 := C.ap x
        have h4 := C.d0
        rcases C.sg with ⟨hs, hA, _⟩ | ⟨hs, hA, _⟩
        · rcases due_val C 0 x with ⟨_, e⟩ | ⟨q, e⟩
          · rw [e, hA]; split <;> omega
          · omega
        · rcases due_val C 0 x with ⟨q, e⟩ | ⟨_, e⟩
          · omega
          · rw [e, hA]; split <;> omega
      have first : ∀ j, j < U → p.dueV ((0 : Nat) : Int) ((j / U : Nat) : Int) ((j % U : Nat) : Int) = p.A (j : Int) 0 := fun j hj => by
        rw [o0, Nat.div_eq_of_lt hj, Nat.mod_eq_of_lt hj]; rfl
      have later : ∀ j, U ≤ j → j < U * W → p.dueV ((0 : Nat) : Int) ((j / U : Nat) : Int) ((j % U : Nat) : Int) = (p.line0.getD j 0 + p.dueV ((0 : Nat) : Int) (((j - U) / U : Nat) : Int) (((j - U) % U : Nat) : Int)) % 256 := fun j h1 h2 => by
        rw [gl j h2, if_neg (by omega), o0, o0]
        obtain ⟨q, rfl⟩ : ∃ q, j = q + U := ⟨j - U, by omega⟩
        rw [Nat.add_sub_cancel, Nat.add_div_right _ U0, Nat.add_mod_right]
        have hr := rng 0 (by omega) (q / U + 1) (by have := xlt _ h2; rwa [Nat.add_div_right _ U0] at this) (q % U)
        rw [o0] at hr
        have e : (((q / U).succ : Nat) : Int) - 1 = ((q / U : Nat) : Int) := by simp
        rw [e]
        generalize p.A ((q % U : Nat) : Int) ((q / U : Nat) : Int) = z at *
        have hr' : 0 ≤ p.A ((q % U : Nat) : Int) (((q / U).succ : Nat) : Int) ∧ p.A ((q % U : Nat) : Int) (((q / U).succ : Nat) : Int) < 256 := hr
        generalize p.A ((q % U : Nat) : Int) (((q / U).succ : Nat) : Int) = z' at *
        omega
      refine ⟨fun _ => ⟨fun j h1 h2 => ?_, fun j h1 h2 => later j h1 h2⟩, fun _ j h1 => ?_⟩
      · show p.line0.getD j 0 = p.dueV ((0 : Nat) : Int) _ _
        rw [gl j h1, if_pos h2, first j h2]
      · have hp0 : ∀ i, i < U * W → pr i = 0 := fun i hi => by rw [hpr i hi]; rfl
        show p.dueV ((0 : Nat) : Int) _ _ = (p.line0.getD j 0 + paeth (if j < U then 0 else p.dueV ((0 : Nat) : Int) _ _) (pr j) (if j < U then 0 else pr (j - U))) % 256
        by_cases hj : j < U
        · rw [if_pos hj, if_pos hj, hp0 j h1, paeth_left (by omega), gl j h1, if_pos hj, first j hj]
          have := Arng j
          omega
        · rw [if_neg hj, if_neg hj, hp0 j h1, hp0 (j - U) (by omega), paeth_left (rng 0 (by omega) _ (xlt _ (by omega)) _).1]
          exact later j (by omega) h1
    | succ y =>
      have el : line = p.lineY (1 + (y : Int)) := by
        unfold P.lines at hline
        rw [List.getElem?_cons_succ, List.getElem?_map] at hline
        cases q : (List.range (p.h - 1).toNat)[y]? with
        | none => rw [q] at hline; cases hline
        | some v =>
          rw [q] at hline
          obtain ⟨hv, rfl⟩ := List.getElem?_eq_some_iff.mp q
          simp at hline
          exact hline.symm
      have ewy : way = 4 := by
        unfold P.ways at hwy
        rw [List.singleton_append, List.getElem?_cons_succ] at hwy
        exact List.eq_of_mem_replicate (List.mem_of_getElem? hwy)
      subst el ewy
      refine ⟨fun h => by omega, fun _ j h1 => ?_⟩
      show p.dueV ((y + 1 : Nat) : Int) _ _ = ((p.lineY (1 + (y : Int))).getD j 0 + paeth (if j < U then 0 else p.dueV ((y + 1 : Nat) : Int) _ _) (pr j) (if j < U then 0 else pr (j - U))) % 256
      rw [lineY_eq p hU hW U0 W0, getD_range h1]
      have hp1 : ∀ i, i < U * W → pr i = p.dueV (y : Int) ((i / U : Nat) : Int) ((i % U : Nat) : Int) := fun i hi => by rw [hpr i hi]; simp [prevF]
      have e1 : 1 + (y : Int) = ((y + 1 : Nat) : Int) := by omega
      have e2 : ((y + 1 : Nat) : Int) - 1 = (y : Int) := by omega
      rw [e1, e2]
      by_cases hj : j < U
      · rw [if_pos hj, if_pos hj, if_pos hj, hp1 j h1, paeth_up (rng y (by omega) _ (xlt _ h1) _).1, Nat.div_eq_of_lt hj, Nat.mod_eq_of_lt hj]
        obtain ⟨C⟩ := chan j
        have h3 := C.hk
        have h4 := C.a0
        have h5 := C.dp y
        have h6 := C.dp (y + 1)
        have hd : ∀ z, z < H → p.dueV (z : Int) ((0 : Nat) : Int) (j : Int) = p.D (j : Int) z := fun z hz => by
          have h7 := C.dp z
          rcases C.sg with ⟨hs, _, hD⟩ | ⟨hs, _, hD⟩
          · rcases due_val C z 0 with ⟨_, e⟩ | ⟨q, e⟩
            · rw [e, hD]; split <;> omega
            · omega
          · rcases due_val C z 0 with ⟨q, e⟩ | ⟨_, e⟩
            · omega
            · rw [e, hD]; split <;> omega
        rw [hd y (by omega), hd (y + 1) hy]
        have hr := rng (y + 1) hy 0 W0 j
        rw [hd (y + 1) hy] at hr
        omega
      · rw [if_neg hj, if_neg hj, if_neg hj, hp1 j h1, hp1 (j - U) (by omega)]
        obtain ⟨q, rfl⟩ : ∃ q, j = q + U := ⟨j - U, by omega⟩
        have hx := xlt _ h1
        rw [Nat.add_sub_cancel, Nat.add_div_right _ U0, Nat.add_mod_right]
        rw [Nat.add_div_right _ U0] at hx
        generalize q / U = x at *
        obtain ⟨C⟩ := chan (q % U)
        have r1 := rng (y + 1) hy (x + 1) hx (q % U)
        generalize q % U = c at *
        have h3 := C.hk
        have h5 := C.dm y
        have h6 := C.am x
        have a1 := C.ap x
        have d1 := C.dp y
        show p.dueV _ ((x + 1 : Nat) : Int) _ = (0 + paeth _ (p.dueV _ ((x + 1 : Nat) : Int) _) _) % 256
        rcases C.sg with ⟨hs, _, _⟩ | ⟨hs, _, _⟩
        · have v : ∀ y' x' : Nat, p.dueV y' x' c = C.k + (if C.a x' > C.d y' then C.a x' else C.d y') := fun y' x' => by
            rcases due_val C y' x' with ⟨_, e⟩ | ⟨q, _⟩
            · exact e
            · omega
          obtain ⟨q1, q2, q3⟩ := max4 h6 h5
          rw [v] at r1
          rw [v, v, v, v, paeth_max (by omega) (by omega)]
          generalize (if C.a (x + 1) > C.d (y + 1) then C.a (x + 1) else C.d (y + 1)) = m4 at *
          generalize (if C.a x > C.d (y + 1) then C.a x else C.d (y + 1)) = m1 at *
          generalize (if C.a (x + 1) > C.d y then C.a (x + 1) else C.d y) = m2 at *
          split <;> split at q3 <;> omega
        · have v : ∀ y' x' : Nat, p.dueV y' x' c = 155 + C.k - (if C.a x' > C.d y' then C.a x' else C.d y') := fun y' x' => by
            rcases due_val C y' x' with ⟨q, _⟩ | ⟨_, e⟩
            · omega
            · exact e
          obtain ⟨q1, q2, q3⟩ := max4 h6 h5
          rw [v] at r1
          rw [v, v, v, v, paeth_min (by omega) (by omega)]
          generalize (if C.a (x + 1) > C.d (y + 1) then C.a (x + 1) else C.d (y + 1)) = m4 at *
          generalize (if C.a x > C.d (y + 1) then C.a x else C.d (y + 1)) = m1 at *
          generalize (if C.a (x + 1) > C.d y then C.a (x + 1) else C.d y) = m2 at *
          split <;> split at q3 <;> omega

theorem plain (sc : List Int) : Plain (par sc) := by
  refine plain_of _ (fun v hv => ?_) ?_ ?_ ?_ ?_
  · obtain ⟨k, _, rfl⟩ := List.mem_map.mp hv
    exact stepV_range _ _
  · show 1 ≤ 4 - _ % 4 ∧ 4 - _ % 4 ≤ 4; omega
  · show 1 ≤ 5 - _ % 5 ∧ 5 - _ % 5 ≤ 5; omega
  · show 1 ≤ 5 - _ % 5 ∧ 5 - _ % 5 ≤ 5; omega
  · unfold P.way
    have : (par sc).c0 / 100 % 2 = 0 ∨ (par sc).c0 / 100 % 2 = 1 := Int.emod_two_eq _
    rcases this with h | h <;> rw [h]
    · exact .inl rfl
    · exact .inr rfl
end L1
end Mine

namespace Mine

theorem fnTop {p : Program} {loose : List Str} {mean : ExcName → Option Value} {mg mb : Str → Option Value} {h : Heap} (T : Top p loose mean mg mb h) {d : DefRec} (i : Nat) (e : (recsOf p)[i]? = some d) : ∃ a, mg d.name = some (.ref a) ∧ FnAt h a d.name d.params d.body d.scope := by
  obtain ⟨a, o, pm, cd, doc, h1, h2, h3, h4⟩ := T.fn d (List.mem_of_getElem? e)
  exact ⟨a, h1, o, pm, cd, doc, h2, h3, h4⟩

theorem goodTrue {c : ClaimW} {cl : Str → Option Addr} {mean : ExcName → Option Value} {args : List WData} {s s' : Shared} (g : Grows s s') (hg : s.gens = #[]) (hn : ∀ cls, c.raises args cls = false) (hp : c.post args (.bool true) args = true) :
    GoodWG c cl mean args s (.ok (.ret (.bool true))) s' := by
  refine GoodW.toG ⟨.inl ⟨_, .bool true, [], rfl, hn, .bool _, hp, fun _ => ⟨List.nodup_nil, fun a ha => by simp at ha⟩⟩, g.up, ?_, ?_⟩
  · obtain ⟨h, t, rfl, _⟩ := g; rfl
  · obtain ⟨h, t, rfl, _⟩ := g; exact hg

set_option maxRecDepth 100000 in
set_option maxHeartbeats 8000000 in
theorem main : PySem.Challenge.rw_bf5021_01.Holds := by
  w_on; o_law; k_head; (case hw => w_witness2)
  k_fill
  intro w s₀ s₁ mg mb G Y fa o pm cd doc dV kV ho hd hcd hD hmg hg args vals as hpre hlay hrd hwl hlo
  have T := G.T
  wrow_args hpre hlay hrd hwl hlo
  rename_i ns hs hlay0 hL1 hr1 hl2 w4 w3 l vs w0 hL ra w1 r0 hI hr hcond htrue
  obtain ⟨fs, gs, us⟩ := fnTop T 0 rfl
  obtain ⟨fp, gp, up⟩ := fnTop T 1 rfl
  obtain ⟨fu, gu, uu⟩ := fnTop T 2 rfl
  obtain ⟨fl, gl, ul⟩ := fnTop T 3 rfl
  have fr : ∀ x, x ∉ startupNames → x ∉ _ → x ∉ _ → x ∉ _ → x ∉ _ → mg x = none := T.free
  have bu : ∀ x : PySem.Str, x ≠ "__name__" → mb x = bootBuiltins x := T.builtins
  have efl : fl = fa := by
    have := gl.symm.trans hmg
    cases this
    rfl
  subst efl
  have U : Und mg mb s₁.heap fu fs fp := ⟨uu, us, up, gs, gp, ⟨fr _ (by decide +kernel) (by decide +kernel) (by decide +kernel) (by decide +kernel) (by decide +kernel), (bu _ (by decide +kernel)).trans (by kernel_rfl)⟩, ⟨fr _ (by decide +kernel) (by decide +kernel) (by decide +kernel) (by decide +kernel) (by decide +kernel), (bu _ (by decide +kernel)).trans (by kernel_rfl)⟩, ⟨fr _ (by decide +kernel) (by decide +kernel) (by decide +kernel) (by decide +kernel) (by decide +kernel), (bu _ (by decide +kernel)).trans (by kernel_rfl)⟩, ⟨fr _ (by decide +kernel) (by decide +kernel) (by decide +kernel) (by decide +kernel) (by decide +kernel), (bu _ (by decide +kernel)).trans (by kernel_rfl)⟩, ⟨fr _ (by decide +kernel) (by decide +kernel) (by decide +kernel) (by decide +kernel) (by decide +kernel), (bu _ (by decide +kernel)).trans (by kernel_rfl)⟩, ⟨fr _ (by decide +kernel) (by decide +kernel) (by decide +kernel) (by decide +kernel) (by decide +kernel), (bu _ (by decide +kernel)).trans (by kernel_rfl)⟩⟩
  have B : Bts mg mb := ⟨U.hr, U.hl, ⟨fr _ (by decide +kernel) (by decide +kernel) (by decide +kernel) (by decide +kernel) (by decide +kernel), (bu _ (by decide +kernel)).trans (by kernel_rfl)⟩, ⟨fr _ (by decide +kernel) (by decide +kernel) (by decide +kernel) (by decide +kernel) (by decide +kernel), (bu _ (by decide +kernel)).trans (by kernel_rfl)⟩⟩
  refine law_walk (A := callerA) (fa := fu) (fs := fs) (fp := fp) (sc := ns) rfl (by decide +kernel) (by decide +kernel) ul U B gu ⟨T.g, T.b, T.nolimit⟩ hL (ints_paired hI) (by omega) (L1.plain ns) fun s' g => ?_
  refine goodTrue g hg (fun _ => rfl) ?_
  first | kernel_rfl | wrow_post | (simp [RowW.claim]; done)
end Mine

theorem PySem.Challenge.cw_bf5021_01_holds : PySem.Challenge.rw_bf5021_01.Holds := by
  exact Mine.main
