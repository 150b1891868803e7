import PyProof.Rows.All
import Wide.All
import OpenK.AllK
import Wide.FinOn
import PySem.Challenge.RW_bg5011_01
open PySem PySem.W PyProof.Rows
set_option Elab.async false
namespace Mine
set_option maxRecDepth 100000 in
set_option maxHeartbeats 8000000 in
open_top hd for PySem.Challenge.rw_bg5011_01
end Mine
section
set_option Elab.async false
set_option maxRecDepth 100000
set_option autoImplicit false
open PySem PySem.W PySem.Calls PyProof.Rows PySem.Spec
namespace Mine

/-! Data by value, and how the ledger bears it. -/
inductive V where
  | int (i : Int)
  | bool (b : Bool)
  | str (x : Str)
  | none
  | tup (vs : List V)
  | lst (vs : List V)
  | ref (a : Addr)

def Has (K : Frag) (news : List (Addr × Obj)) (a : Addr) (o : Obj) : Prop := (a, o) ∈ news ∨ K.lookup a = some o

mutual
inductive Rep (K : Frag) (news : List (Addr × Obj)) : Value → V → Prop
  | int {i : Int} {t : Tok} : Rep K news (.int i t) (.int i)
  | bool {b : Bool} : Rep K news (.bool b) (.bool b)
  | str {x : Str} {t : Tok} : Rep K news (.str x t) (.str x)
  | none : Rep K news .none .none
  | ref {a : Addr} : Rep K news (.ref a) (.ref a)
  | tup {a : Addr} {o : Obj} {items : Array Value} {n : Nat} {vs : List V} : Has K news a o → o.cls = .type "tuple" → o.data = .seq items n → Reps K news items.toList vs → Rep K news (.ref a) (.tup vs)
  | lst {a : Addr} {o : Obj} {items : Array Value} {n : Nat} {vs : List V} : Has K news a o → o.cls = .type "list" → o.data = .seq items n → Reps K news items.toList vs → Rep K news (.ref a) (.lst vs)
inductive Reps (K : Frag) (news : List (Addr × Obj)) : List Value → List V → Prop
  | nil : Reps K news [] []
  | cons {v : Value} {vs : List Value} {d : V} {ds : List V} : Rep K news v d → Reps K news vs ds → Reps K news (v :: vs) (d :: ds)
end

theorem Has.mono {K : Frag} {news news' : List (Addr × Obj)} {a : Addr} {o : Obj} (s : ∀ p ∈ news, p ∈ news') (h : Has K news a o) : Has K news' a o := h.imp (s _) id
mutual
theorem Rep.mono {K : Frag} {news news' : List (Addr × Obj)} (s : ∀ p ∈ news, p ∈ news') : ∀ {v : Value} {d : V}, Rep K news v d → Rep K news' v d
  | _, _, .int => .int
  | _, _, .bool => .bool
  | _, _, .str => .str
  | _, _, .none => .none
  | _, _, .ref => .ref
  | _, _, .tup h c d r => .tup (h.mono s) c d (Reps.mono s r)
  | _, _, .lst h c d r => .lst (h.mono s) c d (Reps.mono s r)
theorem Reps.mono {K : Frag} {news news' : List (Addr × Obj)} (s : ∀ p ∈ news, p ∈ news') : ∀ {vs : List Value} {ds : List V}, Reps K news vs ds → Reps K news' vs ds
  | _, _, .nil => .nil
  | _, _, .cons h r => .cons (Rep.mono s h) (Reps.mono s r)
end

theorem Has.get {K : Frag} {news : List (Addr × Obj)} {a : Addr} {o : Obj} {h₀ h : Heap} {L : Addr} (H : Has K news a o) (N : News h₀ L h news) (X : K.In h) : h.get? a = some o :=
  H.elim (fun m => (N _ m).1) (fun e => X _ _ e)

theorem Reps.length {K : Frag} {news : List (Addr × Obj)} : ∀ {vs : List Value} {ds : List V}, Reps K news vs ds → vs.length = ds.length
  | _, _, .nil => rfl
  | _, _, .cons _ r => by simp [r.length]
theorem Reps.get {K : Frag} {news : List (Addr × Obj)} : ∀ {vs : List Value} {ds : List V}, Reps K news vs ds → ∀ {j : Nat} {d : V}, ds[j]? = some d → ∃ v, vs[j]? = some v ∧ Rep K news v d
  | _, _, .nil, _, _, e => by simp at e
  | _, _, .cons h r, 0, _, e => by simp at e; subst e; exact ⟨_, rfl, h⟩
  | _, _, .cons h r, j + 1, _, e => by simpa using r.get (by simpa using e)

/-! The evaluator's environment -/
abbrev En := List (Str × V)
def En.put : En → Str → V → En
  | [], x, v => [(x, v)]
  | (y, u) :: r, x, v => match x == y with
    | true => (y, v) :: r
    | false => (y, u) :: En.put r x v
theorem En.put_lookup (e : En) (x : Str) (v : V) (y : Str) : (e.put x v).lookup y = if y = x then some v else e.lookup y := by
  induction e with
  | nil =>
    show (match y == x with | true => some v | false => none) = _
    by_cases h : y = x
    · simp [h]
    · have : (y == x) = false := by simpa using h
      simp [h, this]
  | cons p r ih =>
    obtain ⟨z, u⟩ := p
    unfold En.put
    by_cases hz : x = z
    · subst hz
      simp only [beq_self_eq_true]
      by_cases h : y = x
      · subst h; simp [List.lookup]
      · have : (y == x) = false := by simpa using h
        simp [List.lookup, this, h]
    · have hz' : (x == z) = false := by simpa using hz
      simp only [hz']
      by_cases h : y = z
      · subst h
        have : y ≠ x := fun q => hz q.symm
        simp [List.lookup, this]
      · have : (y == z) = false := by simpa using h
        simp only [List.lookup_cons, this, ih]
        

def EnRep (K : Frag) (news : List (Addr × Obj)) (m : Str → Option Value) (e : En) : Prop := ∀ x v, e.lookup x = some v → ∃ val, m x = some val ∧ Rep K news val v
theorem EnRep.mono {K : Frag} {news news' : List (Addr × Obj)} {m : Str → Option Value} {e : En} (s : ∀ p ∈ news, p ∈ news') (h : EnRep K news m e) : EnRep K news' m e :=
  fun x v q => let ⟨val, a, b⟩ := h x v q; ⟨val, a, b.mono s⟩
theorem EnRep.put {K : Frag} {news : List (Addr × Obj)} {m : Str → Option Value} {e : En} (h : EnRep K news m e) {x : Str} {val : Value} {v : V} (r : Rep K news val v) :
    EnRep K news (fun y => if y = x then some val else m y) (e.put x v) := by
  intro y u q
  rw [En.put_lookup] at q
  by_cases hy : y = x
  · simp only [hy, if_true, Option.some.injEq] at q ⊢
    exact ⟨val, rfl, q ▸ r⟩
  · simp only [hy, if_false] at q ⊢
    exact h y u q

/-! The tables of the text's top -/
structure Tab where
  G : List (Str × V)
  F : List Addr
  D : List ((Addr × Str) × V)

structure Tab.Ok (T : Tab) (w : World) (K : Frag) : Prop where
  g : ∀ x v, T.G.lookup x = some v → ∃ val, nsIn K mainGlobals x = some (some val) ∧ Rep K [] val v
  f : ∀ a, T.F.contains a = true → keepIn K (.ref a) = true
  d : ∀ a x v, T.D.lookup (a, x) = some v → ∃ es n val, K.lookup a = some ⟨.type "dict", none, .dict es n, #[]⟩ ∧ KeysLit w.params es.toList ∧ nsIn K a x = some (some val) ∧ Rep K [] val v
  isi : nsIn K mainGlobals "isinstance" = some none
  int : nsIn K mainGlobals "int" = some none

/-! Where a tree runs -/
structure At (w : World) (K : Frag) (k : Nat) (A : Around) (env : Env) (h₀ : Heap) : Prop where
  hh : A.handled = none
  fr : ∃ A₀ base outer, Below A₀ base outer h₀ ∧ A.frames = some (env :: outer)
  fn : ∃ cn cs L a ccd cl, env = envX cn cs L a ccd cl ∧ cs.kind = .function
  dep : A.depth + k < recursionLimit
  uni : A.units + 64 + 8 * k < cLine
  X : K.In h₀
  T : ∃ p loose mg mb, TopRead p loose mg mb h₀
theorem At.le {w : World} {K : Frag} {k j : Nat} {A : Around} {env : Env} {h₀ : Heap} (h : At w K k A env h₀) (hj : j ≤ k) : At w K j A env h₀ :=
  ⟨h.hh, h.fr, h.fn, by have := h.dep; omega, by have := h.uni; omega, h.X, h.T⟩

/-- a call of the def at address a, by value: for these arguments it hands back r, whatever was made before; k: the room it asks -/
def CallS (prog : Program) (w : World) (K : Frag) (k : Nat) (f : Addr) (args : List V) (r : V) : Prop :=
  ∀ (A : Around) (env : Env) (h₀ : Heap) (m : Str → Option Value) (news : List (Addr × Obj)) (s : Shared) (vs : List Value) (Q E : Value → Shared → Prop),
    At w K k A env h₀ → Fr h₀ env.locals s.heap m → News h₀ env.locals s.heap news → Reps K news vs args →
    (∀ v h' tk' news', Fr h₀ env.locals h' m → News h₀ env.locals h' news' → (∀ p ∈ news, p ∈ news') → Rep K news' v r → Q v { s with heap := h', toks := tk' }) →
    wpAny (model prog w) A (call (.ref f) vs) Q E s
theorem CallS.le {prog : Program} {w : World} {K : Frag} {k j : Nat} {f : Addr} {args : List V} {r : V} (h : CallS prog w K j f args r) (hj : j ≤ k) : CallS prog w K k f args r :=
  fun A env h₀ m news s vs Q E a F N R q => h A env h₀ m news s vs Q E (a.le hj) F N R q

/-! The evaluator -/
inductive Fl where
  | next (e : En)
  | ret (v : V)

/-- what the evaluator is told: a test's answer, a call's answer, the rest of a block as one, the next statement as one -/
inductive Tk where
  | t
  | f
  | r (v : V)
  | c (d : Nat) (fl : Fl)
  | s (d : Nat) (e : En)

def cutOf (d : Nat) : List Tk → Option (Fl × List Tk)
  | .c j fl :: r => match Nat.beq j d with
    | true => some (fl, r)
    | false => none
  | _ => none
def stOf (d : Nat) (st : Stmt) : List Tk → Option (En × List Tk)
  | .s j e :: r => match Nat.beq j d && (match st with | .For .. => true | .While .. => true | _ => false) with
    | true => some (e, r)
    | false => none
  | _ => none

def All : List Prop → Prop
  | [] => True
  | p :: ps => p ∧ All ps
theorem All.app : ∀ {ps qs : List Prop}, All (ps ++ qs) ↔ All ps ∧ All qs
  | [], qs => by simp [All]
  | p :: ps, qs => by simp [All, All.app (ps := ps) (qs := qs), and_assoc]

structure Cx where
  sc : Scope
  cs : Addr → List V → V → Prop
  tab : Tab
  ds : En → List Stmt → Fl → Prop
  es : En → Stmt → En → Prop

def ShOk (a b : Int) : Prop := 0 ≤ b ∧ (Builtin.Int.intBits a : Int) + b ≤ 2 ^ 27
def DvOk (b : Int) : Prop := b ≠ 0 ∧ b.natAbs < 1073741824
def intOp : Operator → Int → Int → Option (Int × List Prop)
  | .Add, a, b => some (a + b, [])
  | .Sub, a, b => some (a - b, [])
  | .Mult, a, b => some (a * b, [IntMulOk a b])
  | .FloorDiv, a, b => some (a.fdiv b, [DvOk b])
  | .Mod, a, b => some (a.fmod b, [b ≠ 0])
  | .LShift, a, b => some (a * 2 ^ b.toNat, [ShOk a b])
  | .RShift, a, b => some (a.fdiv (2 ^ b.toNat), [0 ≤ b])
  | .BitAnd, a, b => some (Builtin.bitAnd a b, [])
  | .BitXor, a, b => some (Builtin.bitXor a b, [])
  | _, _, _ => none
def binV (op : Operator) : V → V → Option (V × List Prop)
  | .int a, .int b => match intOp op a b with
    | some (c, ps) => some (.int c, ps)
    | none => none
  | .bool a, .int b => match op with
    | .BitXor => some (.int (Builtin.bitXor (if a then 1 else 0) b), [])
    | _ => none
  | _, _ => none

def strsOf : List V → Option (List Str)
  | [] => some []
  | .str x :: r => match strsOf r with
    | some xs => some (x :: xs)
    | none => none
  | _ :: _ => none

/-- nested tuples and lists of ints, n deep -/
def plainB : Nat → V → Bool
  | _, .int _ => true
  | n + 1, .tup vs => vs.all (plainB n)
  | n + 1, .lst vs => vs.all (plainB n)
  | _, _ => false

open Classical in
noncomputable def same (a b : V) : Bool := decide (a = b)

noncomputable def cmpV : CmpOp → V → V → Option (V × List Prop)
  | .Eq, .int a, .int b => some (.bool (a == b), [])
  | .NotEq, .int a, .int b => some (.bool (a != b), [])
  | .Lt, .int a, .int b => some (.bool (decide (a < b)), [])
  | .LtE, .int a, .int b => some (.bool (decide (a ≤ b)), [])
  | .Gt, .int a, .int b => some (.bool (decide (b < a)), [])
  | .GtE, .int a, .int b => some (.bool (decide (b ≤ a)), [])
  | .Eq, .str a, .str b => some (.bool (a == b), [])
  | .NotEq, .str a, .str b => some (.bool (a != b), [])
  | .In, .str a, .tup vs => match strsOf vs with
    | some ys => some (.bool (ys.any (· == a)), [])
    | none => none
  | .Eq, .tup xs, .tup ys => match plainB 4 (.tup xs) && plainB 4 (.tup ys) with
    | true => some (.bool (same (.tup xs) (.tup ys)), [])
    | false => none
  | .NotEq, .tup xs, .tup ys => match plainB 4 (.tup xs) && plainB 4 (.tup ys) with
    | true => some (.bool (!same (.tup xs) (.tup ys)), [])
    | false => none
  | .NotEq, .lst xs, .lst ys => match plainB 4 (.lst xs) && plainB 4 (.lst ys) with
    | true => some (.bool (!same (.lst xs) (.lst ys)), [])
    | false => none
  | _, _, _ => none

def truthyV : V → Option Bool
  | .int i => some (i != 0)
  | .bool b => some b
  | .none => some false
  | _ => none

def decT (b : Bool) : List Tk → Option (Bool × List Tk × List Prop)
  | .t :: r => some (true, r, [b = true])
  | .f :: r => some (false, r, [b = false])
  | _ => none

def itemV (c : Cx) : V → V → Option (V × List Prop)
  | .tup vs, .int i => match decide (0 ≤ i ∧ i < 1000), vs[i.toNat]? with
    | true, some v => some (v, [])
    | _, _ => none
  | .lst vs, .int i => match decide (0 ≤ i ∧ i < 1000), vs[i.toNat]? with
    | true, some v => some (v, [])
    | _, _ => none
  | .str x, .int i => some (.str (Txt.item x i), [0 ≤ i ∧ i < x.length ∧ x.length < 1000])
  | .ref d, .str x => match c.tab.D.lookup (d, x) with
    | some v => some (v, [])
    | none => none
  | _, _ => none

def nameV (c : Cx) (e : En) (x : Str) : Option V := match x == "__debug__", c.sc.names.lookup x with
  | false, some .local => e.lookup x
  | false, some .globalImplicit => c.tab.G.lookup x
  | _, _ => none

section
variable (f : List Tk → Expr → Option (V × List Tk × List Prop))
def argsV : List Tk → List Expr → Option (List V × List Tk × List Prop)
  | tk, [] => some ([], tk, [])
  | tk, e :: r => match f tk e with
    | some (v, tk1, p1) => match argsV tk1 r with
      | some (vs, tk2, p2) => some (v :: vs, tk2, p1 ++ p2)
      | none => none
    | none => none
def boolsV (op : BoolOp) : List Tk → List Expr → Option (V × List Tk × List Prop)
  | _, [] => none
  | tk, [e] => f tk e
  | tk, e :: r => match f tk e with
    | some (v, tk1, p1) => match truthyV v with
      | some b => match decT b tk1 with
        | some (bb, tk2, p2) => match op, bb with
          | .And, false => some (v, tk2, p1 ++ p2)
          | .Or, true => some (v, tk2, p1 ++ p2)
          | _, _ => match boolsV op tk2 r with
            | some (u, tk3, p3) => some (u, tk3, p1 ++ (p2 ++ p3))
            | none => none
        | none => none
      | none => none
    | none => none
end
section
variable (g : List Tk → Expr → Option (Bool × List Tk × List Prop))
def allV (op : BoolOp) : List Tk → List Expr → Option (Bool × List Tk × List Prop)
  | tk, [] => some (match op with | .And => true | .Or => false, tk, [])
  | tk, e :: r => match g tk e with
    | some (b, tk1, p1) => match op, b with
      | .And, false => some (false, tk1, p1)
      | .Or, true => some (true, tk1, p1)
      | _, _ => match allV op tk1 r with
        | some (b2, tk2, p2) => some (b2, tk2, p1 ++ p2)
        | none => none
    | none => none
end

/-- the words at a test that are not seen as a plain value -/
def valueTest : Expr → Bool
  | .Name .. => true
  | .BinOp .. => true
  | .Subscript .. => true
  | .Call .. => true
  | .Constant .. => true
  | _ => false

noncomputable def testV (f : List Tk → Expr → Option (V × List Tk × List Prop)) : Nat → List Tk → Expr → Option (Bool × List Tk × List Prop)
  | 0, _, _ => none
  | n + 1, tk, e => match e with
    | .UnaryOp .Not x _ => match testV f n tk x with
      | some (b, tk1, ps) => some (!b, tk1, ps)
      | none => none
    | .BoolOp op vs _ => allV (testV f n) op tk vs
    | .Compare l [op] [r] _ => match behindInMarks op r with
      | true => none
      | false => match f tk l with
        | some (a, tk1, p1) => match f tk1 r with
          | some (b, tk2, p2) => match cmpV op a b with
            | some (c, p3) => match truthyV c with
              | some q => match decT q tk2 with
                | some (z, tk3, p4) => some (z, tk3, p1 ++ (p2 ++ (p3 ++ p4)))
                | none => none
              | none => none
            | none => none
          | none => none
        | none => none
    | e => match valueTest e with
      | true => match f tk e with
        | some (v, tk1, p1) => match truthyV v with
          | some q => match decT q tk1 with
            | some (z, tk2, p2) => some (z, tk2, p1 ++ p2)
            | none => none
          | none => none
        | none => none
      | false => none

/-- expressions that may stand in a display or an argument list: no star -/
def noStar : Expr → Bool
  | .Starred .. => false
  | _ => true

def baseOk : Expr → Bool
  | .Name .. => true
  | .BinOp .. => true
  | _ => false

noncomputable def evE : Nat → Cx → En → List Tk → Expr → Option (V × List Tk × List Prop)
  | 0, _, _, _, _ => none
  | n + 1, c, en, tk, e => match e with
    | .Constant k _ _ => match k with
      | .int i => some (.int i, tk, [])
      | .str x => some (.str x, tk, [])
      | .bool b => some (.bool b, tk, [])
      | .none => some (.none, tk, [])
      | _ => none
    | .Name x _ => match nameV c en x with
      | some v => some (v, tk, [])
      | none => none
    | .BinOp l op r _ => match evE n c en tk l with
      | some (a, tk1, p1) => match evE n c en tk1 r with
        | some (b, tk2, p2) => match binV op a b with
          | some (v, p3) => some (v, tk2, p1 ++ (p2 ++ p3))
          | none => none
        | none => none
      | none => none
    | .UnaryOp .USub x _ => match evE n c en tk x with
      | some (.int a, tk1, p1) => some (.int (-a), tk1, p1)
      | _ => none
    | .IfExp t b o _ => match testV (evE n c en) n tk t with
      | some (z, tk1, p1) => match evE n c en tk1 (match z with | true => b | false => o) with
        | some (v, tk2, p2) => some (v, tk2, p1 ++ p2)
        | none => none
      | none => none
    | .Compare l [op] [r] _ => match behindInMarks op r with
      | true => none
      | false => match evE n c en tk l with
        | some (a, tk1, p1) => match evE n c en tk1 r with
          | some (b, tk2, p2) => match cmpV op a b with
            | some (v, p3) => some (v, tk2, p1 ++ (p2 ++ p3))
            | none => none
          | none => none
        | none => none
    | .BoolOp op vs _ => boolsV (evE n c en) op tk vs
    | .Tuple es _ _ => match es.all noStar && decide (es.length ≤ 1000) with
      | true => match argsV (evE n c en) tk es with
        | some (vs, tk1, p1) => some (.tup vs, tk1, p1)
        | none => none
      | false => none
    | .List es _ => match es.all noStar && decide (es.length ≤ 1000) with
      | true => match argsV (evE n c en) tk es with
        | some (vs, tk1, p1) => some (.lst vs, tk1, p1)
        | none => none
      | false => none
    | .Subscript o i _ => match valueTest i with
      | true => match evE n c en tk o with
        | some (a, tk1, p1) => match evE n c en tk1 i with
          | some (b, tk2, p2) => match itemV c a b with
            | some (v, p3) => some (v, tk2, p1 ++ (p2 ++ p3))
            | none => none
          | none => none
        | none => none
      | false => none
    | .Call (.Name g _) args [] _ => match nameV c en g with
      | some (.ref a) => match c.tab.F.contains a, args with
        | true, e :: r => match (e :: r).all noStar with
          | true => match argsV (evE n c en) tk (e :: r) with
            | some (vs, .r v :: tk1, p1) => some (v, tk1, p1 ++ [c.cs a vs v])
            | _ => none
          | false => none
        | _, _ => none
      | some _ => none
      | none => match g == "isinstance", c.sc.names.lookup g, args with
        | true, some .globalImplicit, [x, .Name t _] => match t == "int", c.sc.names.lookup t, noStar x with
          | true, some .globalImplicit, true => match evE n c en tk x with
            | some (.int _, tk1, p1) => some (.bool true, tk1, p1)
            | _ => none
          | _, _, _ => none
        | false, some .globalImplicit, [x] => match g == "int", noStar x with
          | true, true => match evE n c en tk x with
            | some (.int i, tk1, p1) => some (.int i, tk1, p1)
            | _ => none
          | _, _ => none
        | _, _, _ => none
    | .Call (.Attribute o nm ap) [] [] pos => match nm == "bit_length" && baseOk o && ap.endLine == pos.line with
      | true => match evE n c en tk o with
        | some (.int i, tk1, p1) => some (.int (Builtin.Int.intBits i), tk1, p1)
        | _ => none
      | false => none
    | _ => none
end Mine
end
section
set_option Elab.async false
set_option maxRecDepth 100000
set_option autoImplicit false
open PySem PySem.W PySem.Calls PyProof.Rows PySem.Spec
namespace Mine

variable {prog : Program} {w : World} {K : Frag} {k : Nat} {T : Tab} {sc : Scope}

/-- what is handed on behind a tree that gives v -/
abbrev Post (K : Frag) (h₀ : Heap) (L : Addr) (m : Str → Option Value) (news : List (Addr × Obj)) (s : Shared) (v : V) (Q : Value → Shared → Prop) : Prop :=
  ∀ val h' tk' news', Fr h₀ L h' m → News h₀ L h' news' → (∀ p ∈ news, p ∈ news') → Rep K news' val v → Q val { s with heap := h', toks := tk' }

def Gives (prog : Program) (w : World) (K : Frag) (k : Nat) (sc : Scope) (en : En) (t : Env → Sem Value) (v : V) : Prop :=
  ∀ (A : Around) (env : Env) (h₀ : Heap) (m : Str → Option Value) (news : List (Addr × Obj)) (s : Shared) (Q E : Value → Shared → Prop),
    At w K k A env h₀ → env.scope = sc → Fr h₀ env.locals s.heap m → News h₀ env.locals s.heap news → EnRep K news m en → Post K h₀ env.locals m news s v Q → wpAny (model prog w) A (t env) Q E s

abbrev PostT (h₀ : Heap) (L : Addr) (m : Str → Option Value) (news : List (Addr × Obj)) (s : Shared) (b : Bool) (Q : Bool → Shared → Prop) : Prop :=
  ∀ h' tk' news', Fr h₀ L h' m → News h₀ L h' news' → (∀ p ∈ news, p ∈ news') → Q b { s with heap := h', toks := tk' }
def GivesT (prog : Program) (w : World) (K : Frag) (k : Nat) (sc : Scope) (en : En) (t : Env → Sem Bool) (b : Bool) : Prop :=
  ∀ (A : Around) (env : Env) (h₀ : Heap) (m : Str → Option Value) (news : List (Addr × Obj)) (s : Shared) (Q : Bool → Shared → Prop) (E : Value → Shared → Prop),
    At w K k A env h₀ → env.scope = sc → Fr h₀ env.locals s.heap m → News h₀ env.locals s.heap news → EnRep K news m en → PostT h₀ env.locals m news s b Q → wpAny (model prog w) A (t env) Q E s
abbrev PostL (K : Frag) (h₀ : Heap) (L : Addr) (m : Str → Option Value) (news : List (Addr × Obj)) (s : Shared) (vs : List V) (Q : List Value → Shared → Prop) : Prop :=
  ∀ vals h' tk' news', Fr h₀ L h' m → News h₀ L h' news' → (∀ p ∈ news, p ∈ news') → Reps K news' vals vs → Q vals { s with heap := h', toks := tk' }
def GivesL (prog : Program) (w : World) (K : Frag) (k : Nat) (sc : Scope) (en : En) (t : Env → Sem (List Value)) (vs : List V) : Prop :=
  ∀ (A : Around) (env : Env) (h₀ : Heap) (m : Str → Option Value) (news : List (Addr × Obj)) (s : Shared) (Q : List Value → Shared → Prop) (E : Value → Shared → Prop),
    At w K k A env h₀ → env.scope = sc → Fr h₀ env.locals s.heap m → News h₀ env.locals s.heap news → EnRep K news m en → PostL K h₀ env.locals m news s vs Q → wpAny (model prog w) A (t env) Q E s

theorem At.In {A : Around} {env : Env} {h₀ h : Heap} {m : Str → Option Value} {L : Addr} (a : At w K k A env h₀) (F : Fr h₀ L h m) : K.In h := a.X.keeps F.keep

theorem sub_nil {α : Type} {l : List α} : ∀ p ∈ ([] : List α), p ∈ l := fun _ h => nomatch h
theorem sub_refl {α : Type} {l : List α} : ∀ p ∈ l, p ∈ l := fun _ h => h

/-! names -/
theorem name_ok {en : En} {x : Str} {pos : Pos} {v : V} {cs : Addr → List V → V → Prop} {ds : En → List Stmt → Fl → Prop} {es : En → Stmt → En → Prop} (ok : T.Ok w K) (h : nameV ⟨sc, cs, T, ds, es⟩ en x = some v) : Gives prog w K k sc en (eval (.Name x pos)) v := by
  intro A env h₀ m news s Q E a hsc F N R q
  obtain ⟨cn, cs', L, fa, ccd, cl, rfl, hk⟩ := a.fn
  have hsc' : cs' = sc := hsc
  subst hsc'
  unfold nameV at h
  split at h
  · rename_i hd hl
    obtain ⟨val, hm, hr⟩ := R x v h
    exact nameX_L F hm (q val _ _ news F N sub_refl hr) hk hl hd
  · rename_i hd hl
    obtain ⟨val, hn, hr⟩ := ok.g x v h
    obtain ⟨p, loose, mg, mb, tp⟩ := a.T
    exact nameX_K F a.X tp hn (q val _ _ news F N sub_refl (hr.mono sub_nil)) hk hl hd
  · cases h

/-! ints -/
section
variable {A : Around} {s : Shared} {Q E : Value → Shared → Prop} {a b c : Int} {t u : Tok} {ps : List Prop}
theorem intOp_ok {op : Operator} (h : intOp op a b = some (c, ps)) (hp : All ps) (q : ∀ tk tk', Q (.int c tk) { s with toks := tk' }) : wpAny (model prog w) A (binaryOp op (.int a t) (.int b u)) Q E s := by
  cases op <;> simp only [intOp, Option.some.injEq, Prod.mk.injEq, reduceCtorEq] at h
  case Add => obtain ⟨rfl, rfl⟩ := h; exact add_int (q _ _)
  case Sub => obtain ⟨rfl, rfl⟩ := h; exact sub_int' (q _ _)
  case Mult => obtain ⟨rfl, rfl⟩ := h; exact mul_int (q _ _) hp.1
  case FloorDiv => obtain ⟨rfl, rfl⟩ := h; exact floordiv_int hp.1.1 (q _ _) (.inl (PyProof.noPylong_small hp.1.2))
  case Mod => obtain ⟨rfl, rfl⟩ := h; exact mod_int' hp.1 (q _ _)
  case LShift => obtain ⟨rfl, rfl⟩ := h; exact lshift_int hp.1.1 hp.1.2 (q _ _)
  case RShift => obtain ⟨rfl, rfl⟩ := h; exact rshift_int hp.1 (q _ _)
  case BitAnd => obtain ⟨rfl, rfl⟩ := h; exact and_int (q _ _)
  case BitXor => obtain ⟨rfl, rfl⟩ := h; exact xor_int (q _ _)
theorem intOp_okI {op : Operator} (h : intOp op a b = some (c, ps)) (hp : All ps) (q : ∀ tk tk', Q (.int c tk) { s with toks := tk' }) : wpAny (model prog w) A (inplaceOp op (.int a t) (.int b u)) Q E s := by
  cases op <;> simp only [intOp, Option.some.injEq, Prod.mk.injEq, reduceCtorEq] at h
  case Add => obtain ⟨rfl, rfl⟩ := h; exact PyProof.Rows.iadd_int (q _ _)
  case Sub => obtain ⟨rfl, rfl⟩ := h; exact PyProof.Rows.isub_int (q _ _)
  case Mult => obtain ⟨rfl, rfl⟩ := h; exact PyProof.Rows.imul_int (q _ _) hp.1
  case FloorDiv => obtain ⟨rfl, rfl⟩ := h; exact ifloordiv_int hp.1.1 (q _ _) (.inl (PyProof.noPylong_small hp.1.2))
  case Mod => obtain ⟨rfl, rfl⟩ := h; exact imod_int hp.1 (q _ _)
  case LShift => obtain ⟨rfl, rfl⟩ := h; exact ilshift_int hp.1.1 hp.1.2 (q _ _)
  case RShift => obtain ⟨rfl, rfl⟩ := h; exact irshift_int hp.1 (q _ _)
  case BitAnd => obtain ⟨rfl, rfl⟩ := h; exact iand_int (q _ _)
  case BitXor => obtain ⟨rfl, rfl⟩ := h; exact ixor_int (q _ _)
end

theorem gives_int_xor_bool (a : Bool) (b : Int) (u : Tok) : PySem.Gives (Builtin.«int.__xor__» ⟨[.bool a, .int b u], []⟩) (.int (Builtin.bitXor (if a = true then 1 else 0) b)) := .of_eq rfl
theorem gives_bool_xor_int (a : Bool) (b : Int) (u : Tok) : PySem.Gives (Builtin.«bool.__xor__» ⟨[.bool a, .int b u], []⟩) (.int (Builtin.bitXor (if a = true then 1 else 0) b)) := by
  have h : Builtin.«bool.__xor__» ⟨[.bool a, .int b u], []⟩ = (do rule "bool.bitwise.as-ints"; again (.builtin "int.__xor__" ⟨[.bool a, .int b u], []⟩)) := rfl
  rw [h]
  exact .rule (.again rfl (by decide +kernel) F.entry_int_xor (gives_int_xor_bool a b u))
theorem xor_bool_int {A : Around} {s : Shared} {Q E : Value → Shared → Prop} {a : Bool} {b : Int} {u : Tok} (h : Q (.int (Builtin.bitXor (if a = true then 1 else 0) b) s.toks) { s with toks := s.toks + 1 }) :
    wpAny (model prog w) A (binaryOp .BitXor (.bool a) (.int b u)) Q E s :=
  binaryOp_left_gives (op := .BitXor) (T := "bool") (U := "int") (by decide) rfl (fun s' => typeIs_int s' b u) F.fills_bool_xor F.fills_int_xor F.sub_int_bool F.slot_bool_xor F.slot_int_rxor F.entry_bool_xor (F.args_bool_xor_2 _ _)
    (gives_bool_xor_int a b u) trivial h
theorem binV_ok {A : Around} {s : Shared} {Q E : Value → Shared → Prop} {op : Operator} {news : List (Addr × Obj)} {a b : Value} {x y v : V} {ps : List Prop} (ha : Rep K news a x) (hb : Rep K news b y) (h : binV op x y = some (v, ps)) (hp : All ps)
    (q : ∀ val tk', Rep K news val v → Q val { s with toks := tk' }) : wpAny (model prog w) A (binaryOp op a b) Q E s := by
  unfold binV at h
  split at h
  · cases ha; cases hb
    split at h
    · rename_i c ps' e
      simp only [Option.some.injEq, Prod.mk.injEq] at h
      obtain ⟨rfl, rfl⟩ := h
      exact intOp_ok e hp fun tk tk' => q _ _ .int
    · cases h
  · cases ha; cases hb
    split at h
    · simp only [Option.some.injEq, Prod.mk.injEq] at h
      obtain ⟨rfl, rfl⟩ := h
      exact xor_bool_int (q _ _ .int)
    · cases h
  · cases h
theorem binV_okI {A : Around} {s : Shared} {Q E : Value → Shared → Prop} {op : Operator} {news : List (Addr × Obj)} {a b : Value} {x y : Int} {v : V} {ps : List Prop} (ha : Rep K news a (.int x)) (hb : Rep K news b (.int y)) (h : binV op (.int x) (.int y) = some (v, ps)) (hp : All ps)
    (q : ∀ val tk', Rep K news val v → Q val { s with toks := tk' }) : wpAny (model prog w) A (inplaceOp op a b) Q E s := by
  unfold binV at h
  cases ha; cases hb
  dsimp only at h
  split at h
  · rename_i c ps' e
    simp only [Option.some.injEq, Prod.mk.injEq] at h
    obtain ⟨rfl, rfl⟩ := h
    exact intOp_okI e hp fun tk tk' => q _ _ .int
  · cases h

/-! comparisons -/
mutual
def toPy : V → PyData
  | .int i => .int i
  | .tup vs => .tuple (toPys vs)
  | .lst vs => .list (toPys vs)
  | .bool b => .bool b
  | .str x => .str x
  | .none => .none
  | .ref _ => .none
def toPys : List V → List PyData
  | [] => []
  | v :: vs => toPy v :: toPys vs
end
mutual
theorem Rep.reads {news : List (Addr × Obj)} {h₀ h : Heap} {L : Addr} (N : News h₀ L h news) (X : K.In h) : ∀ {v : Value} {d : V} (n : Nat), Rep K news v d → plainB n d = true → ∃ as, Reads h v (toPy d) as
  | _, _, _, .int, _ => ⟨_, Reads.int _ _⟩
  | _, _, n, .bool, e => by cases n <;> simp [plainB] at e
  | _, _, n, .str, e => by cases n <;> simp [plainB] at e
  | _, _, n, .none, e => by cases n <;> simp [plainB] at e
  | _, _, n, .ref, e => by cases n <;> simp [plainB] at e
  | _, _, 0, .tup _ _ _ _, e => by simp [plainB] at e
  | _, _, 0, .lst _ _ _ _, e => by simp [plainB] at e
  | _, _, n + 1, .tup h c d r, e => by
    obtain ⟨as, q⟩ := Reps.reads N X n r (by simpa [plainB] using e)
    rw [toPy]
    exact ⟨as, .tuple (h.get N X) c d q⟩
  | _, _, n + 1, .lst h c d r, e => by
    obtain ⟨as, q⟩ := Reps.reads N X n r (by simpa [plainB] using e)
    rw [toPy]
    exact ⟨_, .list (h.get N X) c d q⟩
theorem Reps.reads {news : List (Addr × Obj)} {h₀ h : Heap} {L : Addr} (N : News h₀ L h news) (X : K.In h) : ∀ {vs : List Value} {ds : List V} (n : Nat), Reps K news vs ds → (∀ d ∈ ds, plainB n d = true) → ∃ as, ReadsAll h vs (toPys ds) as
  | _, _, _, .nil, _ => ⟨_, .nil⟩
  | _, _, n, .cons h r, e => by
    obtain ⟨as, q⟩ := Rep.reads N X n h (e _ (.head _))
    obtain ⟨bs, p⟩ := Reps.reads N X n r fun d hm => e d (.tail _ hm)
    rw [toPys]
    exact ⟨_, .cons q p⟩
end
theorem toPy_lay : ∀ (n : Nat) (d : V), plainB n d = true → (toPy d).canLay0 = true ∧ (toPy d).depth ≤ n := by
  have all : ∀ (n : Nat), (∀ d, plainB n d = true → (toPy d).canLay0 = true ∧ (toPy d).depth ≤ n) → ∀ ds : List V, (∀ d ∈ ds, plainB n d = true) → PyData.canLayAll0 (toPys ds) = true ∧ PyData.depthAll (toPys ds) ≤ n := by
    intro n ih ds
    induction ds with
    | nil => intro _; simp [toPys, PyData.canLayAll0, PyData.depthAll]
    | cons d ds hi =>
      intro h
      have h1 := ih d (h d (.head _))
      have h2 := hi fun e he => h e (.tail _ he)
      simp only [toPys, PyData.canLayAll0, PyData.depthAll, h1.1, h2.1, Bool.and_self, true_and]
      have a1 := h1.2
      have a2 := h2.2
      omega
  intro n
  induction n with
  | zero =>
    intro d h
    cases d <;> simp_all [plainB, toPy, PyData.canLay0, PyData.depth]
  | succ n ih =>
    intro d h
    cases d with
    | int i => simp [toPy, PyData.canLay0, PyData.depth]
    | tup ds =>
      have q := all n ih ds (by simpa [plainB] using h)
      have q2 := q.2
      simp only [toPy, PyData.canLay0, PyData.depth, q.1, true_and]
      omega
    | lst ds =>
      have q := all n ih ds (by simpa [plainB] using h)
      have q2 := q.2
      simp only [toPy, PyData.canLay0, PyData.depth, q.1, true_and]
      omega
    | _ => simp [plainB] at h
theorem toPy_eqv : ∀ (n : Nat) (d e : V) (j : Nat), plainB n d = true → plainB j e = true → (PyData.eqv (toPy d) (toPy e) = true ↔ d = e) := by
  have all : ∀ (n : Nat), (∀ d e j, plainB n d = true → plainB j e = true → (PyData.eqv (toPy d) (toPy e) = true ↔ d = e)) → ∀ (j : Nat) (ds es : List V), (∀ d ∈ ds, plainB n d = true) → (∀ d ∈ es, plainB j d = true) →
      (PyData.eqvAll (toPys ds) (toPys es) = true ↔ ds = es) := by
    intro n ih j ds
    induction ds with
    | nil => intro es _ _; cases es <;> simp [toPys, PyData.eqvAll]
    | cons d ds hi =>
      intro es h1 h2
      cases es with
      | nil => simp [toPys, PyData.eqvAll]
      | cons e es =>
        have q1 := ih d e j (h1 d (.head _)) (h2 e (.head _))
        have q2 := hi es (fun x hx => h1 x (.tail _ hx)) fun x hx => h2 x (.tail _ hx)
        simp only [toPys, PyData.eqvAll, Bool.and_eq_true, q1, q2, List.cons.injEq]
  intro n
  induction n with
  | zero =>
    intro d e j h1 h2
    cases d <;> cases e <;> cases j <;> simp_all [plainB, toPy, PyData.eqv]
  | succ n ih =>
    intro d e j h1 h2
    cases d with
    | tup ds =>
      cases e with
      | tup es =>
        cases j with
        | zero => simp [plainB] at h2
        | succ j =>
          simp only [toPy, PyData.eqv, V.tup.injEq]
          exact all n ih j ds es (by simpa [plainB] using h1) (by simpa [plainB] using h2)
      | _ => cases j <;> simp_all [plainB, toPy, PyData.eqv]
    | lst ds =>
      cases e with
      | lst es =>
        cases j with
        | zero => simp [plainB] at h2
        | succ j =>
          simp only [toPy, PyData.eqv, V.lst.injEq]
          exact all n ih j ds es (by simpa [plainB] using h1) (by simpa [plainB] using h2)
      | _ => cases j <;> simp_all [plainB, toPy, PyData.eqv]
    | int i => cases e <;> cases j <;> simp_all [plainB, toPy, PyData.eqv]
    | _ => simp [plainB] at h1
theorem toPy_shaped {d : V} (h : plainB 4 d = true) : SeqAt.shaped (toPy d) = true := by
  have q := toPy_lay 4 d h
  unfold SeqAt.shaped
  rw [q.1, Bool.true_and, decide_eq_true_eq]
  have := q.2
  omega
open Classical in
theorem toPy_same {a b : V} (ha : plainB 4 a = true) (hb : plainB 4 b = true) : PyData.eqv (toPy a) (toPy b) = same a b := by
  unfold same
  rw [Bool.eq_iff_iff, decide_eq_true_eq]
  exact toPy_eqv 4 a b 4 ha hb

theorem strsOf_are {news : List (Addr × Obj)} : ∀ {vals : List Value} {vs : List V} {ys : List Str}, Reps K news vals vs → strsOf vs = some ys → StrsAre vals ys
  | _, _, _, .nil, e => by simp [strsOf] at e; subst e; exact .nil
  | _, _, _, .cons h r, e => by
    unfold strsOf at e
    split at e
    · rename_i q; cases q
    · rename_i x r' q
      cases q
      cases h
      split at e
      · rename_i xs q'
        cases e
        exact .cons _ _ (strsOf_are r q')
      · cases e
    · cases e

theorem cmpV_ok {A : Around} {s : Shared} {Q E : Value → Shared → Prop} {op : CmpOp} {h₀ : Heap} {L : Addr} {news : List (Addr × Obj)} {a b : Value} {x y v : V} {ps : List Prop} (N : News h₀ L s.heap news) (X : K.In s.heap) (hu : A.units + 64 < cLine)
    (ha : Rep K news a x) (hb : Rep K news b y) (h : cmpV op x y = some (v, ps))
    (q : ∀ val, Rep K news val v → Q val s) : wpAny (model prog w) A (compareOp op a b) Q E s := by
  unfold cmpV at h
  split at h
  case h_1 => cases ha; cases hb; cases h; exact PyProof.Rows.eq_int (q _ .bool)
  case h_2 => cases ha; cases hb; cases h; exact PyProof.Rows.ne_int (q _ .bool)
  case h_3 => cases ha; cases hb; cases h; exact PyProof.Rows.lt_int (q _ .bool)
  case h_4 => cases ha; cases hb; cases h; exact PyProof.Rows.le_int (q _ .bool)
  case h_5 => cases ha; cases hb; cases h; exact PyProof.Rows.gt_int (q _ .bool)
  case h_6 => cases ha; cases hb; cases h; exact PyProof.Rows.ge_int (q _ .bool)
  case h_7 => cases ha; cases hb; cases h; exact eq_str (q _ .bool)
  case h_8 => cases ha; cases hb; cases h; exact ne_str (q _ .bool)
  case h_9 =>
    cases ha
    cases hb with
    | tup H c d r =>
      split at h
      · rename_i ys e
        cases h
        exact in_tuple_strs ⟨_, H.get N X, c, _, d⟩ (strsOf_are r e) (q _ .bool)
      · cases h
  case h_10 =>
    split at h
    · rename_i e
      cases h
      obtain ⟨e1, e2⟩ := Bool.and_eq_true_iff.mp e
      obtain ⟨as, ra⟩ := ha.reads N X 4 e1
      obtain ⟨bs, rb⟩ := hb.reads N X 4 e2
      refine eq_dataH ra rb (toPy_shaped e1) (toPy_shaped e2) hu ?_
      rw [toPy_same e1 e2]
      exact q _ .bool
    · cases h
  case h_11 =>
    split at h
    · rename_i e
      cases h
      obtain ⟨e1, e2⟩ := Bool.and_eq_true_iff.mp e
      obtain ⟨as, ra⟩ := ha.reads N X 4 e1
      obtain ⟨bs, rb⟩ := hb.reads N X 4 e2
      refine ne_dataH ra rb (toPy_shaped e1) (toPy_shaped e2) hu ?_
      rw [toPy_same e1 e2]
      exact q _ .bool
    · cases h
  case h_12 =>
    split at h
    · rename_i e
      cases h
      obtain ⟨e1, e2⟩ := Bool.and_eq_true_iff.mp e
      obtain ⟨as, ra⟩ := ha.reads N X 4 e1
      obtain ⟨bs, rb⟩ := hb.reads N X 4 e2
      refine ne_dataH ra rb (toPy_shaped e1) (toPy_shaped e2) hu ?_
      rw [toPy_same e1 e2]
      exact q _ .bool
    · cases h
  case h_13 => cases h

theorem truthyV_ok {A : Around} {s : Shared} {Q : Bool → Shared → Prop} {E : Value → Shared → Prop} {news : List (Addr × Obj)} {a : Value} {x : V} {b : Bool} (ha : Rep K news a x) (h : truthyV x = some b) (q : Q b s) : wpAny (model prog w) A (truthy a) Q E s := by
  cases ha <;> simp only [truthyV, Option.some.injEq, reduceCtorEq] at h
  · subst h; exact PyProof.Rows.truthy_int q
  · subst h; exact wpAny_truthy_bool q
  · subst h; exact PyProof.Rows.truthy_none q
theorem decT_ok {b z : Bool} {tk tk' : List Tk} {ps : List Prop} (h : decT b tk = some (z, tk', ps)) (hp : All ps) : b = z := by
  unfold decT at h
  split at h
  · cases h; exact hp.1
  · cases h; exact hp.1
  · cases h

end Mine
end
section
set_option Elab.async false
set_option maxRecDepth 100000
set_option autoImplicit false
open PySem PySem.W PySem.Calls PyProof.Rows PySem.Spec
namespace Mine
variable {prog : Program} {w : World} {K : Frag} {k : Nat} {T : Tab} {sc : Scope}

theorem subscripted_plain {i : Expr} (h : valueTest i = true) (o j : Value) : subscripted i false o j = operate [o, j] (getItem o j) := by
  cases i <;> first | rfl | cases h
theorem letTemp_str {e : Expr} {x : Str} {t : Tok} (r : Value) : letTemporaryGo e (.str x t) r = pure () := by
  cases e <;> rfl
theorem seqIndex_nat {i : Int} {n : Nat} (h0 : 0 ≤ i) (h1 : i.toNat < n) : seqIndex? i n = some i.toNat := by
  unfold seqIndex?
  rw [if_neg (by omega : ¬ i < 0)]
  simp only [h0, decide_true, Bool.true_and]
  rw [if_pos (by simp only [decide_eq_true_eq]; omega)]
theorem itemV_ok {A : Around} {s : Shared} {Q E : Value → Shared → Prop} {c : Cx} {oe ie : Expr} {h₀ : Heap} {L : Addr} {m : Str → Option Value} {news : List (Addr × Obj)} {a b : Value} {x y v : V} {ps : List Prop} (ok : c.tab.Ok w K)
    (F : Fr h₀ L s.heap m) (N : News h₀ L s.heap news) (X₀ : K.In h₀) (hi : valueTest ie = true)
    (ha : Rep K news a x) (hb : Rep K news b y) (h : itemV c x y = some (v, ps)) (hp : All ps)
    (q : ∀ val tk', Rep K news val v → Q val { s with toks := tk' }) : wpAny (model prog w) A (subscriptTail oe ie a b) Q E s := by
  have X := X₀.keeps F.keep
  unfold itemV at h
  split at h
  · rename_i vs i
    cases hb
    cases ha with
    | tup H c d r =>
      split at h
      · rename_i e1 e2
        cases h
        rw [decide_eq_true_eq] at e1
        obtain ⟨val, hv, hr⟩ := r.get e2
        have hlt := (List.getElem?_eq_some_iff.mp hv).1
        exact item_tupleT (j := i.toNat) ⟨_, H.get N X, c, _, d⟩ (by omega) (by omega) (seqIndex_nat e1.1 hlt) hv (q _ _ hr) (subscripted_plain hi _ _)
      · cases h
  · rename_i vs i
    cases hb
    cases ha with
    | lst H c d r =>
      split at h
      · rename_i e1 e2
        cases h
        rw [decide_eq_true_eq] at e1
        obtain ⟨val, hv, hr⟩ := r.get e2
        have hL : s.heap.IsList _ _ := ⟨_, H.get N X, c, _, d⟩
        exact tail_any hL.typeIs slot_list_getitem.lookup (wpAny_getItem_list hL (by omega) (by omega) (by simpa using hv) (q _ _ hr)) (subscripted_plain hi _ _)
      · cases h
  · rename_i x i
    cases ha
    cases hb
    cases h
    obtain ⟨h1, h2, h3⟩ := hp.1
    refine item_str ?_ (by omega) h2 (fun _ => q _ _ .str) (subscripted_plain hi _ _) (fun r => letTemp_str r)
    exact fitsSsize_of (N := 9223372036854775808) (by omega) (by omega) (Int.le_refl _)
  · rename_i d x
    cases ha
    cases hb
    split at h
    · rename_i v' e
      cases h
      obtain ⟨es, n, val, hl, hk, hn, hr⟩ := ok.d _ _ _ e
      exact topItem_K F X₀ hl hk hn (q _ _ (hr.mono sub_nil)) (subscripted_plain hi _ _)
    · cases h
  · cases h
end Mine
end
section
set_option Elab.async false
set_option maxRecDepth 100000
set_option autoImplicit false
open PySem PySem.W PySem.Calls PyProof.Rows PySem.Spec
namespace Mine
variable {prog : Program} {w : World} {K : Frag} {k : Nat} {T : Tab} {sc : Scope}

theorem starEach_plain {e : Expr} {rest : List Expr} {env : Env} (h : noStar e = true) : starEach (e :: rest) env = (false, eval e env) :: starEach rest env := by
  cases e <;> first | rfl | cases h

section
variable {en : En} {f : List Tk → Expr → Option (V × List Tk × List Prop)} (hf : ∀ tk e v tk' ps, f tk e = some (v, tk', ps) → All ps → Gives prog w K k sc en (eval e) v)
include hf
theorem argsV_ok {pos : Pos} : ∀ (es : List Expr) (tk tk' : List Tk) (vs : List V) (ps : List Prop), argsV f tk es = some (vs, tk', ps) → es.all noStar = true → All ps → GivesL prog w K k sc en (fun env => spliced (backTo pos (starEach es env))) vs
  | [], tk, tk', vs, ps, h, _, hp => by
    simp only [argsV, Option.some.injEq, Prod.mk.injEq] at h
    obtain ⟨rfl, _, _⟩ := h
    intro A env h₀ m news s Q E a hsc F N R q
    exact spliced_none (q _ _ _ _ F N sub_refl .nil)
  | e :: r, tk, tk', vs, ps, h, hs, hp => by
    unfold argsV at h
    split at h
    · rename_i v tk1 p1 e1
      split at h
      · rename_i vs' tk2 p2 e2
        cases h
        rw [All.app] at hp
        rw [List.all_cons, Bool.and_eq_true] at hs
        have ih := argsV_ok (pos := pos) r _ _ _ _ e2 hs.2 hp.2
        have h1 := hf _ _ _ _ _ e1 hp.1
        intro A env h₀ m news s Q E a hsc F N R q
        refine spliced_more ?_ (starEach_plain hs.1)
        refine h1 A env h₀ m news s _ E a hsc F N R ?_
        intro val h1 t1 n1 F1 N1 s1 r1
        refine ih A env h₀ m n1 _ _ E a hsc F1 N1 (R.mono s1) ?_
        intro vals h2 t2 n2 F2 N2 s2 r2
        exact q (val :: vals) h2 t2 n2 F2 N2 (fun p hp => s2 p (s1 p hp)) (.cons (r1.mono s2) r2)
      · cases h
    · cases h

theorem boolsV_ok {pos : Pos} {op : BoolOp} : ∀ (es : List Expr) (tk tk' : List Tk) (v : V) (ps : List Prop), boolsV f op tk es = some (v, tk', ps) → All ps → Gives prog w K k sc en (fun env => boolOp pos op (evalEach es env)) v
  | [], tk, tk', v, ps, h, hp => by simp [boolsV] at h
  | [e], tk, tk', v, ps, h, hp => by
    simp only [boolsV] at h
    exact hf _ _ _ _ _ h hp
  | e :: e2 :: r, tk, tk', v, ps, h, hp => by
    have arm : ∀ env, boolOp pos op (evalEach (e :: e2 :: r) env) = (do
      let v ← eval e env
      standAt pos
      let t ← holding [v] (truthy v)
      match op, t with
      | .And, false | .Or, true => pure v
      | _, _ => boolOp pos op (evalEach (e2 :: r) env)) := fun env => rfl
    unfold boolsV at h
    split at h
    · rename_i v1 tk1 p1 e1
      split at h
      · rename_i b eb
        split at h
        · rename_i bb tk2 p2 ed
          have hv1 : All p1 := by
            cases op <;> cases bb <;> simp only [Option.some.injEq, Prod.mk.injEq] at h
            · obtain ⟨_, _, rfl⟩ := h; exact (All.app.mp hp).1
            · split at h
              · cases h; exact (All.app.mp hp).1
              · cases h
            · split at h
              · cases h; exact (All.app.mp hp).1
              · cases h
            · obtain ⟨_, _, rfl⟩ := h; exact (All.app.mp hp).1
          have hv2 : All p2 := by
            cases op <;> cases bb <;> simp only [Option.some.injEq, Prod.mk.injEq] at h
            · obtain ⟨_, _, rfl⟩ := h; exact (All.app.mp hp).2
            · split at h
              · cases h; exact (All.app.mp (All.app.mp hp).2).1
              · cases h
            · split at h
              · cases h; exact (All.app.mp (All.app.mp hp).2).1
              · cases h
            · obtain ⟨_, _, rfl⟩ := h; exact (All.app.mp hp).2
          have hb := decT_ok ed hv2
          subst hb
          have g1 := hf _ _ _ _ _ e1 hv1
          intro A env h₀ m news s Q E a hsc F N R q
          show wpAny (model prog w) A (boolOp pos op (evalEach (e :: e2 :: r) env)) Q E s
          rw [arm]
          refine wpAny_bind (g1 A env h₀ m news s _ E a hsc F N R ?_)
          intro val h1 t1 n1 F1 N1 s1 r1
          refine wpAny_bind (wpAny_standAt (wpAny_bind (wpAny_holding (truthyV_ok r1 eb ?_))))
          have goOn : ∀ v' tk3 p3, boolsV f op tk2 (e2 :: r) = some (v', tk3, p3) → v' = v → All p3 → wpAny (model prog w) A (boolOp pos op (evalEach (e2 :: r) env)) Q E { s with heap := h1, toks := t1 } := by
            intro v' tk3 p3 e3 hv hp3
            subst hv
            refine boolsV_ok (e2 :: r) _ _ _ _ e3 hp3 A env h₀ m n1 _ Q E a hsc F1 N1 (R.mono s1) ?_
            intro val' h2 t2 n2 F2 N2 s2 r2
            exact q val' h2 t2 n2 F2 N2 (fun p hp => s2 p (s1 p hp)) r2
          cases op <;> cases b <;> simp only [Option.some.injEq, Prod.mk.injEq] at h
          · obtain ⟨rfl, _, _⟩ := h
            exact wpAny_pure (q val h1 t1 n1 F1 N1 s1 r1)
          · split at h
            · rename_i e3
              cases h
              exact goOn _ _ _ e3 rfl (All.app.mp (All.app.mp hp).2).2
            · cases h
          · split at h
            · rename_i e3
              cases h
              exact goOn _ _ _ e3 rfl (All.app.mp (All.app.mp hp).2).2
            · cases h
          · obtain ⟨rfl, _, _⟩ := h
            exact wpAny_pure (q val h1 t1 n1 F1 N1 s1 r1)
        · cases h
      · cases h
    · cases h
end

section
variable {en : En} {g : List Tk → Expr → Option (Bool × List Tk × List Prop)} (hg : ∀ tk e b tk' ps, g tk e = some (b, tk', ps) → All ps → GivesT prog w K k sc en (fun env => isTrue e env (eval e env)) b)
include hg
theorem allV_ok {op : BoolOp} : ∀ (es : List Expr) (tk tk' : List Tk) (b : Bool) (ps : List Prop), allV g op tk es = some (b, tk', ps) → All ps → GivesT prog w K k sc en (fun env => allTrue op es env) b
  | [], tk, tk', b, ps, h, hp => by
    simp only [allV, Option.some.injEq, Prod.mk.injEq] at h
    obtain ⟨rfl, _, _⟩ := h
    intro A env h₀ m news s Q E a hsc F N R q
    cases op
    · exact wpAny_allTrue_And_nil (q _ _ _ F N sub_refl)
    · exact wpAny_allTrue_Or_nil (q _ _ _ F N sub_refl)
  | e :: r, tk, tk', b, ps, h, hp => by
    unfold allV at h
    split at h
    · rename_i b1 tk1 p1 e1
      intro A env h₀ m news s Q E a hsc F N R q
      have goOn : ∀ b2 tk2 p2 h1 t1 n1, allV g op tk1 r = some (b2, tk2, p2) → b2 = b → All p2 → Fr h₀ env.locals h1 m → News h₀ env.locals h1 n1 → (∀ p ∈ news, p ∈ n1) → wpAny (model prog w) A (allTrue op r env) Q E { s with heap := h1, toks := t1 } := by
        intro b2 tk2 p2 h1 t1 n1 e2 hb hp2 F1 N1 s1
        subst hb
        refine allV_ok r _ _ _ _ e2 hp2 A env h₀ m n1 _ Q E a hsc F1 N1 (R.mono s1) ?_
        intro h2 t2 n2 F2 N2 s2
        exact q h2 t2 n2 F2 N2 (fun p hp => s2 p (s1 p hp))
      cases op <;> cases b1 <;> simp only [Option.some.injEq, Prod.mk.injEq] at h
      · obtain ⟨rfl, _, rfl⟩ := h
        refine wpAny_allTrue_And_cons (hg _ _ _ _ _ e1 hp A env h₀ m news s _ E a hsc F N R ?_)
        intro h1 t1 n1 F1 N1 s1
        exact q h1 t1 n1 F1 N1 s1
      · split at h
        · rename_i e2
          cases h
          refine wpAny_allTrue_And_cons (hg _ _ _ _ _ e1 (All.app.mp hp).1 A env h₀ m news s _ E a hsc F N R ?_)
          intro h1 t1 n1 F1 N1 s1
          exact goOn _ _ _ h1 t1 n1 e2 rfl (All.app.mp hp).2 F1 N1 s1
        · cases h
      · split at h
        · rename_i e2
          cases h
          refine wpAny_allTrue_Or_cons (hg _ _ _ _ _ e1 (All.app.mp hp).1 A env h₀ m news s _ E a hsc F N R ?_)
          intro h1 t1 n1 F1 N1 s1
          exact goOn _ _ _ h1 t1 n1 e2 rfl (All.app.mp hp).2 F1 N1 s1
        · cases h
      · obtain ⟨rfl, _, rfl⟩ := h
        refine wpAny_allTrue_Or_cons (hg _ _ _ _ _ e1 hp A env h₀ m news s _ E a hsc F N R ?_)
        intro h1 t1 n1 F1 N1 s1
        exact q h1 t1 n1 F1 N1 s1
    · cases h
end

theorem isTrue_value {e : Expr} {env : Env} {whole : Sem Value} (h : valueTest e = true) : isTrue e env whole = (do let v ← whole; standAt e.pos; holding [v] (truthy v)) := by
  cases e <;> first | rfl | cases h

section
variable {en : En} {f : List Tk → Expr → Option (V × List Tk × List Prop)} (hf : ∀ tk e v tk' ps, f tk e = some (v, tk', ps) → All ps → Gives prog w K k sc en (eval e) v)
include hf
theorem testV_ok : ∀ (n : Nat) (tk : List Tk) (e : Expr) (b : Bool) (tk' : List Tk) (ps : List Prop), testV f n tk e = some (b, tk', ps) → All ps → GivesT prog w K k sc en (fun env => isTrue e env (eval e env)) b
  | 0, tk, e, b, tk', ps, h, hp => by simp [testV] at h
  | n + 1, tk, e, b, tk', ps, h, hp => by
    unfold testV at h
    split at h
    · -- not
      split at h
      · rename_i b1 tk1 p1 e1
        cases h
        intro A env h₀ m news s Q E a hsc F N R q
        refine wpAny_isTrue_Not ?_
        refine testV_ok n _ _ _ _ _ e1 hp A env h₀ m news s _ E a hsc F N R ?_
        exact q
      · cases h
    · -- and, or
      intro A env h₀ m news s Q E a hsc F N R q
      refine wpAny_isTrue_BoolOp ?_
      exact allV_ok (testV_ok n) _ _ _ _ _ h hp A env h₀ m news s Q E a hsc F N R q
    · -- a comparison
      split at h
      · cases h
      · rename_i hm
        split at h
        · rename_i x tk1 p1 e1
          split at h
          · rename_i y tk2 p2 e2
            split at h
            · rename_i c p3 e3
              split at h
              · rename_i z e4
                split at h
                · rename_i zz tk3 p4 e5
                  cases h
                  obtain ⟨hp1, hp'⟩ := All.app.mp hp
                  obtain ⟨hp2, hp'⟩ := All.app.mp hp'
                  obtain ⟨hp3, hp4⟩ := All.app.mp hp'
                  have hz := decT_ok e5 hp4
                  subst hz
                  intro A env h₀ m news s Q E a hsc F N R q
                  refine wpAny_isTrue_Compare1 ?_ hm
                  refine hf _ _ _ _ _ e1 hp1 A env h₀ m news s _ E a hsc F N R ?_
                  intro v1 h1 t1 n1 F1 N1 s1 r1
                  refine hf _ _ _ _ _ e2 hp2 A env h₀ m n1 _ _ E a hsc F1 N1 (R.mono s1) ?_
                  intro v2 h2 t2 n2 F2 N2 s2 r2
                  refine cmpV_ok N2 (a.In F2) (by have := a.uni; omega) (r1.mono s2) r2 e3 ?_
                  intro cv hcv
                  exact truthyV_ok hcv e4 (q h2 t2 n2 F2 N2 (fun p hp => s2 p (s1 p hp)))
                · cases h
              · cases h
            · cases h
          · cases h
        · cases h
    · -- a value
      split at h
      · rename_i hv
        split at h
        · rename_i x tk1 p1 e1
          split at h
          · rename_i z e4
            split at h
            · rename_i zz tk3 p4 e5
              cases h
              obtain ⟨hp1, hp4⟩ := All.app.mp hp
              have hz := decT_ok e5 hp4
              subst hz
              intro A env h₀ m news s Q E a hsc F N R q
              refine isTrue_plain ?_ (isTrue_value hv)
              refine hf _ _ _ _ _ e1 hp1 A env h₀ m news s _ E a hsc F N R ?_
              intro v1 h1 t1 n1 F1 N1 s1 r1
              exact truthyV_ok r1 e4 (q h1 t1 n1 F1 N1 s1)
            · cases h
          · cases h
        · cases h
      · cases h
end
end Mine
end
section
set_option Elab.async false
set_option maxRecDepth 100000
set_option autoImplicit false
open PySem PySem.W PySem.Calls PyProof.Rows PySem.Spec
namespace Mine
variable {prog : Program} {w : World} {K : Frag} {k : Nat} {T : Tab} {sc : Scope}

theorem plain_args {env : Env} {pos : Pos} : ∀ {es : List Expr}, es.all noStar = true → (backTo pos (starEach es env)).any (·.1) = false
  | [], _ => rfl
  | e :: r, h => by
    rw [List.all_cons, Bool.and_eq_true] at h
    rw [starEach_plain h.1]
    show (false || (backTo pos (starEach r env)).any (·.1)) = false
    rw [plain_args h.2]
    rfl

theorem builtin_name {A : Around} {env : Env} {h₀ : Heap} {m : Str → Option Value} {s : Shared} {Q E : Value → Shared → Prop} {x : Str} {pos : Pos} {v : Value} (a : At w K k A env h₀) (F : Fr h₀ env.locals s.heap m)
    (hx : env.scope.names.lookup x = some .globalImplicit) (e : nsIn K mainGlobals x = some none) (hv : bootBuiltins x = some v) (hn : x ≠ "__name__") (hd : (x == ("__debug__" : Str)) = false) (q : Q v s) :
    wpAny (model prog w) A (eval (.Name x pos) env) Q E s := by
  obtain ⟨cn, cs', L, fa, ccd, cl, rfl, hk⟩ := a.fn
  obtain ⟨p, loose, mg, mb, tp⟩ := a.T
  exact nameX_B F a.X tp e hv hn q hk hx hd

theorem boot_isi : bootBuiltins "isinstance" = some (.builtin "isinstance") := by boot_fast
theorem boot_int' : bootBuiltins "int" = some (.type "int") := by boot_fast

theorem bit_length_ok {env : Env} {o : Expr} {ap pos : Pos} {A : Around} {s : Shared} {Q E : Value → Shared → Prop} (hb : baseOk o = true) (hl : (ap.endLine == pos.line) = true)
    (h : wpAny (model prog w) A (eval o env) (fun ov s₁ => ∃ i t, ov = .int i t ∧ Q (.int (Builtin.Int.intBits i) s₁.toks) { s₁ with toks := s₁.toks + 1 }) E s) :
    wpAny (model prog w) A (eval (.Call (.Attribute o "bit_length" ap) [] [] pos) env) Q E s := by
  have he : eval (.Call (.Attribute o "bit_length" ap) [] [] pos) env = (do
      let ov ← eval o env
      standAt ap.atName
      methodCall o "bit_length" ap pos env ov 0 [] []) := by
    cases o <;> first | rfl | cases hb
  rw [he]
  refine wpAny_bind (wpAny_mono h (fun ov s₁ h₁ => wpAny_bind (wpAny_standAt ?_)) fun _ _ x => x)
  obtain ⟨i, t, rfl, q⟩ := h₁
  unfold methodCall calleeOf methodCallPos
  refine wpAny_bind (wpAny_holding ?_)
  rw [if_pos (by rfl)]
  refine getMethod_int_bit_length ?_
  refine wpAny_bind ?_
  rw [if_pos (by rw [hl]; rfl)]
  refine wpAny_pure ?_
  refine callWith_method0 (env := env) ?_
  exact call_int_bit_length q

theorem argsV_length {f : List Tk → Expr → Option (V × List Tk × List Prop)} : ∀ (es : List Expr) (tk tk' : List Tk) (vs : List V) (ps : List Prop), argsV f tk es = some (vs, tk', ps) → vs.length = es.length
  | [], tk, tk', vs, ps, h => by
    simp only [argsV, Option.some.injEq, Prod.mk.injEq] at h
    obtain ⟨rfl, _, _⟩ := h
    rfl
  | e :: r, tk, tk', vs, ps, h => by
    unfold argsV at h
    split at h
    · split at h
      · rename_i e2
        cases h
        simp [argsV_length r _ _ _ _ e2]
      · cases h
    · cases h

theorem evE_ok {ds : En → List Stmt → Fl → Prop} {es : En → Stmt → En → Prop} (ok : T.Ok w K) : ∀ (n : Nat) (en : En) (tk : List Tk) (e : Expr) (v : V) (tk' : List Tk) (ps : List Prop),
    evE n ⟨sc, CallS prog w K k, T, ds, es⟩ en tk e = some (v, tk', ps) → All ps → Gives prog w K k sc en (eval e) v
  | 0, en, tk, e, v, tk', ps, h, hp => by simp [evE] at h
  | n + 1, en, tk, e, v, tk', ps, h, hp => by
    have ih := evE_ok (ds := ds) (es := es) ok n en
    unfold evE at h
    split at h
    · -- Constant
      split at h <;> first
        | (cases h; done)
        | (cases h; intro A env h₀ m news s Q E a hsc F N R q; first
          | exact wpAny_Constant_int (q _ _ _ _ F N sub_refl .int)
          | exact wpAny_Constant_str (q _ _ _ _ F N sub_refl .str)
          | exact wpAny_Constant_bool (q _ _ _ _ F N sub_refl .bool)
          | exact wpAny_Constant_none (q _ _ _ _ F N sub_refl .none))
    · -- Name
      split at h
      · rename_i e1
        cases h
        exact name_ok ok e1
      · cases h
    · -- BinOp
      split at h
      · rename_i x tk1 p1 e1
        split at h
        · rename_i y tk2 p2 e2
          split at h
          · rename_i c p3 e3
            cases h
            obtain ⟨hp1, hp'⟩ := All.app.mp hp
            obtain ⟨hp2, hp3⟩ := All.app.mp hp'
            intro A env h₀ m news s Q E a hsc F N R q
            refine wpAny_BinOp ?_
            refine ih _ _ _ _ _ e1 hp1 A env h₀ m news s _ E a hsc F N R ?_
            intro v1 h1 t1 n1 F1 N1 s1 r1
            refine ih _ _ _ _ _ e2 hp2 A env h₀ m n1 _ _ E a hsc F1 N1 (R.mono s1) ?_
            intro v2 h2 t2 n2 F2 N2 s2 r2
            exact binV_ok (r1.mono s2) r2 e3 hp3 fun val t3 hr => q val h2 t3 n2 F2 N2 (fun p hp => s2 p (s1 p hp)) hr
          · cases h
        · cases h
      · cases h
    · -- minus
      split at h
      · rename_i e1
        cases h
        intro A env h₀ m news s Q E a hsc F N R q
        refine wpAny_UnaryOp ?_
        refine ih _ _ _ _ _ e1 hp A env h₀ m news s _ E a hsc F N R ?_
        intro v1 h1 t1 n1 F1 N1 s1 r1
        cases r1
        exact PyProof.Rows.neg_int (q _ _ _ _ F1 N1 s1 .int)
      · cases h
    · -- IfExp
      split at h
      · rename_i z tk1 p1 e1
        split at h
        · rename_i y tk2 p2 e2
          cases h
          obtain ⟨hp1, hp2⟩ := All.app.mp hp
          intro A env h₀ m news s Q E a hsc F N R q
          refine wpAny_IfExp ?_
          refine testV_ok ih n _ _ _ _ _ e1 hp1 A env h₀ m news s _ E a hsc F N R ?_
          intro h1 t1 n1 F1 N1 s1
          cases z
          · refine ih _ _ _ _ _ e2 hp2 A env h₀ m n1 _ _ E a hsc F1 N1 (R.mono s1) ?_
            intro v2 h2 t2 n2 F2 N2 s2 r2
            exact q v2 h2 t2 n2 F2 N2 (fun p hp => s2 p (s1 p hp)) r2
          · refine ih _ _ _ _ _ e2 hp2 A env h₀ m n1 _ _ E a hsc F1 N1 (R.mono s1) ?_
            intro v2 h2 t2 n2 F2 N2 s2 r2
            exact q v2 h2 t2 n2 F2 N2 (fun p hp => s2 p (s1 p hp)) r2
        · cases h
      · cases h
    · -- Compare
      split at h
      · cases h
      · rename_i hm
        split at h
        · rename_i x tk1 p1 e1
          split at h
          · rename_i y tk2 p2 e2
            split at h
            · rename_i c p3 e3
              cases h
              obtain ⟨hp1, hp'⟩ := All.app.mp hp
              obtain ⟨hp2, hp3⟩ := All.app.mp hp'
              intro A env h₀ m news s Q E a hsc F N R q
              refine wpAny_Compare1 ?_ hm
              refine ih _ _ _ _ _ e1 hp1 A env h₀ m news s _ E a hsc F N R ?_
              intro v1 h1 t1 n1 F1 N1 s1 r1
              refine ih _ _ _ _ _ e2 hp2 A env h₀ m n1 _ _ E a hsc F1 N1 (R.mono s1) ?_
              intro v2 h2 t2 n2 F2 N2 s2 r2
              exact cmpV_ok N2 (a.In F2) (by have := a.uni; omega) (r1.mono s2) r2 e3 fun val hr => q val h2 t2 n2 F2 N2 (fun p hp => s2 p (s1 p hp)) hr
            · cases h
          · cases h
        · cases h
    · -- BoolOp
      intro A env h₀ m news s Q E a hsc F N R q
      exact boolsV_ok ih _ _ _ _ _ h hp A env h₀ m news s Q E a hsc F N R q
    · -- Tuple
      split at h
      · rename_i hs
        split at h
        · rename_i vs tk1 p1 e1
          cases h
          simp only [Bool.and_eq_true, decide_eq_true_eq] at hs
          intro A env h₀ m news s Q E a hsc F N R q
          refine Tuple_ ?_
          refine argsV_ok ih _ _ _ _ _ e1 hs.1 hp A env h₀ m news s _ E a hsc F N R ?_
          intro vals h1 t1 n1 F1 N1 s1 r1
          refine newTuple_N (s := { s with heap := h1, toks := t1 }) F1 N1 ?_ ?_
          · intro h' F' N'
            exact q _ _ _ _ F' N' (fun p hp => .tail _ (s1 p hp)) (.tup (.inl (.head _)) rfl rfl (by simpa using r1.mono fun p hp => .tail _ hp))
          · have l1 := r1.length
            have l2 := argsV_length _ _ _ _ _ e1
            have l3 := hs.2
            rw [sizeLine_eq]
            omega
        · cases h
      · cases h
    · -- List
      split at h
      · rename_i hs
        split at h
        · rename_i vs tk1 p1 e1
          cases h
          simp only [Bool.and_eq_true, decide_eq_true_eq] at hs
          intro A env h₀ m news s Q E a hsc F N R q
          refine List_ ?_
          refine argsV_ok ih _ _ _ _ _ e1 hs.1 hp A env h₀ m news s _ E a hsc F N R ?_
          intro vals h1 t1 n1 F1 N1 s1 r1
          refine newList_N (s := { s with heap := h1, toks := t1 }) F1 N1 ?_ ?_
          · intro h' F' N'
            exact q _ _ _ _ F' N' (fun p hp => .tail _ (s1 p hp)) (.lst (.inl (.head _)) rfl rfl (by simpa using r1.mono fun p hp => .tail _ hp))
          · have l1 := r1.length
            have l2 := argsV_length _ _ _ _ _ e1
            have l3 := hs.2
            rw [sizeLine_eq]
            omega
        · cases h
      · cases h
    · -- Subscript
      split at h
      · rename_i hi
        split at h
        · rename_i x tk1 p1 e1
          split at h
          · rename_i y tk2 p2 e2
            split at h
            · rename_i c p3 e3
              cases h
              obtain ⟨hp1, hp'⟩ := All.app.mp hp
              obtain ⟨hp2, hp3⟩ := All.app.mp hp'
              intro A env h₀ m news s Q E a hsc F N R q
              refine Subscript_ ?_
              refine ih _ _ _ _ _ e1 hp1 A env h₀ m news s _ E a hsc F N R ?_
              intro v1 h1 t1 n1 F1 N1 s1 r1
              refine ih _ _ _ _ _ e2 hp2 A env h₀ m n1 _ _ E a hsc F1 N1 (R.mono s1) ?_
              intro v2 h2 t2 n2 F2 N2 s2 r2
              exact itemV_ok ok F2 N2 a.X hi (r1.mono s2) r2 e3 hp3 fun val t3 hr => q val h2 t3 n2 F2 N2 (fun p hp => s2 p (s1 p hp)) hr
            · cases h
          · cases h
        · cases h
      · cases h
    · -- Call of a name
      rename_i g _ args _
      split at h
      · -- a def of the top
        rename_i fa hG
        split at h
        · rename_i e r hF
          split at h
          · rename_i hs
            split at h
            · rename_i vs v' tk1 p1 e1
              cases h
              obtain ⟨hp1, hp2⟩ := All.app.mp hp
              have hc := hp2.1
              intro A env h₀ m news s Q E a hsc F N R q
              refine Call_ ?_
              refine name_ok (sc := sc) (k := k) (en := en) (cs := CallS prog w K k) (ds := ds) (es := es) ok (v := .ref fa) hG A env h₀ m news s _ E a hsc F N R ?_
              intro v1 h1 t1 n1 F1 N1 s1 r1
              cases r1
              rw [List.all_cons, Bool.and_eq_true] at hs
              refine callWith_K a.X (ok.f _ hF) ?_ (starEach_plain hs.1) (plain_args hs.2)
              refine argsV_ok ih _ _ _ _ _ e1 (by rw [List.all_cons, hs.1, hs.2]; rfl) hp1 A env h₀ m n1 _ _ E a hsc F1 N1 (R.mono s1) ?_
              intro vals h2 t2 n2 F2 N2 s2 r2
              refine ⟨a.In F2, ?_⟩
              refine hc A env h₀ m n2 _ vals Q E a F2 N2 r2 ?_
              intro v3 h3 t3 n3 F3 N3 s3 r3
              exact q v3 h3 t3 n3 F3 N3 (fun p hp => s3 p (s2 p (s1 p hp))) r3
            · cases h
          · cases h
        · cases h
      · cases h
      · split at h
        · -- isinstance
          rename_i x t np hi hg
          split at h
          · rename_i ht hl hs
            split at h
            · rename_i tk1 p1 e1
              cases h
              have hi' := beq_iff_eq.mp hi
              have ht' := beq_iff_eq.mp ht
              subst hi' ht'
              intro A env h₀ m news s Q E a hsc F N R q
              refine Call_ ?_
              refine builtin_name a F (by rw [hsc]; exact hg) ok.isi boot_isi (by decide) (by decide) ?_
              refine callWith_builtin1 ?_ (starEach_plain hs) rfl
              refine spliced_more ?_ (starEach_plain hs)
              refine ih _ _ _ _ _ e1 hp A env h₀ m news s _ E a hsc F N R ?_
              intro v1 h1 t1 n1 F1 N1 s1 r1
              refine spliced_more ?_
              refine builtin_name a F1 (by rw [hsc]; exact hl) ok.int boot_int' (by decide) (by decide) ?_
              refine spliced_none ?_
              cases r1
              exact PySem.IsiPair.int_int (q _ _ _ _ F1 N1 s1 .bool)
            · cases h
          · cases h
        · -- int
          rename_i x hi hg
          split at h
          · rename_i ht hs
            split at h
            · rename_i i tk1 p1 e1
              cases h
              have ht' := beq_iff_eq.mp ht
              subst ht'
              intro A env h₀ m news s Q E a hsc F N R q
              refine Call_ ?_
              refine builtin_name a F (by rw [hsc]; exact hg) ok.int boot_int' (by decide) (by decide) ?_
              refine Pv.callWith_type1 ?_ (starEach_plain hs) rfl
              refine spliced_more ?_ (starEach_plain hs)
              refine ih _ _ _ _ _ e1 hp A env h₀ m news s _ E a hsc F N R ?_
              intro v1 h1 t1 n1 F1 N1 s1 r1
              refine spliced_none ?_
              cases r1
              exact call_int_int (q _ _ _ _ F1 N1 s1 .int)
            · cases h
          · cases h
        · cases h
    · -- bit_length
      split at h
      · rename_i hb
        split at h
        · rename_i e1
          cases h
          simp only [Bool.and_eq_true, beq_iff_eq] at hb
          obtain ⟨⟨rfl, hb1⟩, hb2⟩ := hb
          intro A env h₀ m news s Q E a hsc F N R q
          refine bit_length_ok hb1 (by simpa using hb2) ?_
          refine ih _ _ _ _ _ e1 hp A env h₀ m news s _ E a hsc F N R ?_
          intro v1 h1 t1 n1 F1 N1 s1 r1
          cases r1
          exact ⟨_, _, rfl, q _ _ _ _ F1 N1 s1 .int⟩
        · cases h
      · cases h
    · cases h
end Mine
end
section
set_option Elab.async false
set_option maxRecDepth 100000
set_option autoImplicit false
open PySem PySem.W PySem.Calls PyProof.Rows PySem.Spec
namespace Mine

def isComp : Expr → Bool
  | .ListComp .. | .SetComp .. | .DictComp .. => true
  | _ => false

def localName (sc : Scope) : Expr → Option Str
  | .Name x _ => match sc.names.lookup x with
    | some .local => some x
    | _ => none
  | _ => none
def localNames (sc : Scope) : List Expr → Option (List Str)
  | [] => some []
  | e :: r => match localName sc e with
    | some x => match localNames sc r with
      | some xs => some (x :: xs)
      | none => none
    | none => none

/-- how the interpreter stores a display of as many items: none: no such text here; some none: in order; some names: behind to front -/
def swN (sc : Scope) (ts : List Expr) : Expr → Option (Option (List Str))
  | .Tuple vs _ _ =>
    if !(ts.length == 2 || ts.length == 3) || vs.length != ts.length then some none
    else if vs.any fun | .Starred .. => true | _ => false then some none
    else
      let line := (ts.head?.map (·.pos.line)).getD 0
      let names := ts.filterMap fun
        | .Name id pos => if sc.names.lookup id == some .local && pos.line == line then some id else none
        | _ => none
      if names.length != ts.length || names.eraseDups.length != names.length then some none
      else if vs.all (foldedForSure 8) then some none
      else if vs.all (constantsAlone 8) then none
      else some (some names)
  | _ => some none

def En.puts (e : En) : List Str → List V → En
  | x :: xs, v :: vs => En.puts (e.put x v) xs vs
  | _, _ => e

noncomputable def evS : Nat → Nat → Cx → En → List Tk → List Stmt → Option (Fl × List Tk × List Prop)
  | 0, _, _, _, _, _ => none
  | n + 1, d, c, en, tk, ss => match cutOf d tk with
    | some (fl, tk1) => some (fl, tk1, [c.ds en ss fl])
    | none => match ss with
      | [] => some (.next en, tk, [])
      | s :: rest => match stOf d s tk with
        | some (en2, tk1) => match evS n d c en2 tk1 rest with
          | some (fl, tk2, p2) => some (fl, tk2, c.es en s en2 :: p2)
          | none => none
        | none => match s with
              | .Assign [.Name x _] e _ => match c.sc.names.lookup x, isComp e with
                | some .local, false => match evE n c en tk e with
                  | some (v, tk1, p1) => match evS n d c (en.put x v) tk1 rest with
                    | some (fl, tk2, p2) => some (fl, tk2, p1 ++ p2)
                    | none => none
                  | none => none
                | _, _ => none
              | .Assign [.Tuple ts _ _] e _ => match localNames c.sc ts, swN c.sc ts e with
                | some xs, some sw => match evE n c en tk e with
                  | some (.tup vs, tk1, p1) => match vs.length == xs.length with
                    | true => match evS n d c (match sw with | none => en.puts xs vs | some ys => en.puts ys.reverse vs.reverse) tk1 rest with
                      | some (fl, tk2, p2) => some (fl, tk2, p1 ++ p2)
                      | none => none
                    | false => none
                  | _ => none
                | _, _ => none
              | .AugAssign (.Name x _) op e _ => match c.sc.names.lookup x with
                | some .local => match en.lookup x with
                  | some (.int a) => match evE n c en tk e with
                    | some (.int b, tk1, p1) => match binV op (.int a) (.int b) with
                      | some (v, p2) => match evS n d c (en.put x v) tk1 rest with
                        | some (fl, tk2, p3) => some (fl, tk2, p1 ++ (p2 ++ p3))
                        | none => none
                      | none => none
                    | _ => none
                  | _ => none
                | _ => none
              | .Return (some e) _ => match evE n c en tk e with
                | some (v, tk1, p1) => some (.ret v, tk1, p1)
                | none => none
              | .Assert t _ _ => match testV (evE n c en) n tk t with
                | some (true, tk1, p1) => match evS n d c en tk1 rest with
                  | some (fl, tk2, p2) => some (fl, tk2, p1 ++ p2)
                  | none => none
                | _ => none
              | .If t b o _ => match testV (evE n c en) n tk t with
                | some (z, tk1, p1) => match evS n (d + 1) c en tk1 (match z with | true => b | false => o) with
                  | some (.ret v, tk2, p2) => some (.ret v, tk2, p1 ++ p2)
                  | some (.next en2, tk2, p2) => match evS n d c en2 tk2 rest with
                    | some (fl, tk3, p3) => some (fl, tk3, p1 ++ (p2 ++ p3))
                    | none => none
                  | none => none
                | none => none
              | _ => none

variable {prog : Program} {w : World} {K : Frag} {k : Nat} {T : Tab} {sc : Scope}

def FlRep (K : Frag) (news : List (Addr × Obj)) (m : Str → Option Value) (f : Flow) : Fl → Prop
  | .next e => f = .next ∧ EnRep K news m e
  | .ret v => ∃ val, f = .ret val ∧ Rep K news val v

abbrev PostS (K : Frag) (h₀ : Heap) (L : Addr) (news : List (Addr × Obj)) (s : Shared) (fl : Fl) (Q : Flow → Shared → Prop) : Prop :=
  ∀ f h' tk' m' news', Fr h₀ L h' m' → News h₀ L h' news' → (∀ p ∈ news, p ∈ news') → FlRep K news' m' f fl → Q f { s with heap := h', toks := tk' }

/-- the names that a block leaves as they stood: whatever the frame holds under a name that the environment does not speak of -/
def Does (prog : Program) (w : World) (K : Frag) (k : Nat) (sc : Scope) (en : En) (t : Env → Sem Flow) (fl : Fl) : Prop :=
  ∀ (A : Around) (env : Env) (h₀ : Heap) (m : Str → Option Value) (news : List (Addr × Obj)) (s : Shared) (Q : Flow → Shared → Prop) (E : Value → Shared → Prop),
    At w K k A env h₀ → env.scope = sc → Fr h₀ env.locals s.heap m → News h₀ env.locals s.heap news → EnRep K news m en → PostS K h₀ env.locals news s fl Q → wpAny (model prog w) A (t env) Q E s

theorem swapsWith_no {e : Expr} {t : Option Expr} {n : Nat} {env : Env} (h : isComp e = false) : swapsWith e t n env = pure false := by
  cases e <;> first | rfl | cases h
theorem swapsWithSole_tup {e : Expr} {ts : List Expr} {k' : Nat} {p : Pos} {n : Nat} {env : Env} : swapsWithSole [.Tuple ts k' p] e n env = pure false := by
  cases e <;> rfl
theorem swN_ok {ts : List Expr} {k' : Nat} {p : Pos} {e : Expr} {env : Env} {r : Option (List Str)} (h : swN env.scope ts e = some r) (hk : env.scope.kind = .function) : swappedStores [.Tuple ts k' p] e env = pure r := by
  have hb : env.blockKind = .function := by
    unfold Env.blockKind
    rw [hk]
    rfl
  cases e
  case Tuple vs j q =>
    unfold swN at h
    unfold swappedStores
    dsimp only at h ⊢
    have hf : (ScopeKind.function != ScopeKind.function) = false := rfl
    simp only [hb, Env.kindOf, hf, Bool.or_false]
    split at h
    · rename_i h1; cases h; rw [if_pos h1]
    · rename_i h1
      rw [if_neg h1]
      split at h
      · rename_i h2; cases h; exact if_pos h2
      · rename_i h2
        refine (if_neg h2).trans ?_
        split at h
        · rename_i h3; cases h; exact if_pos h3
        · rename_i h3
          refine (if_neg h3).trans ?_
          split at h
          · rename_i h4; cases h; exact if_pos h4
          · rename_i h4
            refine (if_neg h4).trans ?_
            split at h
            · cases h
            · rename_i h5
              cases h
              exact if_neg h5
  all_goals (cases h; rfl)

theorem store_ok {A : Around} {env : Env} {h₀ : Heap} {m : Str → Option Value} {news : List (Addr × Obj)} {s : Shared} {Q : Unit → Shared → Prop} {E : Value → Shared → Prop} {x : Str} {val : Value} {v : V} {en : En}
    (a : At w K k A env h₀) (hx : env.scope.names.lookup x = some .local) (F : Fr h₀ env.locals s.heap m) (N : News h₀ env.locals s.heap news) (R : EnRep K news m en) (r : Rep K news val v)
    (q : ∀ h' tk' m', Fr h₀ env.locals h' m' → News h₀ env.locals h' news → EnRep K news m' (en.put x v) → Q () { s with heap := h', toks := tk' }) :
    wpAny (model prog w) A (storeName env x val) Q E s := by
  obtain ⟨cn, cs', L, fa, ccd, cl, rfl, hk⟩ := a.fn
  exact storeX_L F N (fun h' F' N' => q h' _ _ F' N' (R.put r)) hk hx

theorem stores_ok {A : Around} {env : Env} {h₀ : Heap} {Q : Unit → Shared → Prop} {E : Value → Shared → Prop} (a : At w K k A env h₀) : ∀ (xs : List Str) (vals : List Value) (vs : List V) (m : Str → Option Value) (news : List (Addr × Obj)) (s : Shared) (en : En),
    (∀ x ∈ xs, env.scope.names.lookup x = some .local) → xs.length = vs.length → Fr h₀ env.locals s.heap m → News h₀ env.locals s.heap news → EnRep K news m en → Reps K news vals vs →
    (∀ h' tk' m', Fr h₀ env.locals h' m' → News h₀ env.locals h' news → EnRep K news m' (en.puts xs vs) → Q () { s with heap := h', toks := tk' }) →
    wpAny (model prog w) A (assignInOrder (xs.map fun n => bindName env n) vals) Q E s
  | [], vals, vs, m, news, s, en, hx, hl, F, N, R, r, q => by
    cases vs with
    | cons => simp at hl
    | nil =>
      exact assignInOrder_nil (q _ _ m F N R)
  | x :: xs, vals, vs, m, news, s, en, hx, hl, F, N, R, r, q => by
    cases r with
    | nil => simp at hl
    | cons r1 rr =>
      refine assignInOrder_cons (bindName_ (store_ok a (hx x (.head _)) F N R r1 ?_))
      intro h1 t1 m1 F1 N1 R1
      refine stores_ok a xs _ _ m1 news _ _ (fun y hy => hx y (.tail _ hy)) (by simpa using hl) F1 N1 R1 rr ?_
      intro h2 t2 m2 F2 N2 R2
      exact q h2 t2 m2 F2 N2 R2

theorem localName_ok {e : Expr} {x : Str} (h : localName sc e = some x) : (∃ p, e = .Name x p) ∧ sc.names.lookup x = some .local := by
  unfold localName at h
  split at h
  · split at h
    · rename_i hl
      cases h
      exact ⟨⟨_, rfl⟩, hl⟩
    · cases h
  · cases h
theorem localNames_all : ∀ {ts : List Expr} {xs : List Str}, localNames sc ts = some xs → (∀ x ∈ xs, sc.names.lookup x = some .local) ∧ ts.length = xs.length
  | [], xs, h => by cases h; exact ⟨fun _ h => (nomatch h), rfl⟩
  | e :: r, xs, h => by
    unfold localNames at h
    split at h
    · rename_i x hx
      split at h
      · rename_i ys hr
        cases h
        have ih := localNames_all hr
        refine ⟨fun y hy => ?_, by simp [ih.2]⟩
        rcases List.mem_cons.mp hy with rfl | hy
        · exact (localName_ok hx).2
        · exact ih.1 y hy
      · cases h
    · cases h
theorem assignEach_names {env : Env} : ∀ {ts : List Expr} {xs : List Str}, localNames sc ts = some xs → (assignEach ts env).length = ts.length ∧ (assignEach ts env).findIdx? (·.1) = none
  | [], xs, h => ⟨rfl, rfl⟩
  | e :: r, xs, h => by
    unfold localNames at h
    split at h
    · rename_i x hx
      split at h
      · rename_i ys hr
        obtain ⟨⟨p, rfl⟩, _⟩ := localName_ok hx
        have ih := assignEach_names (env := env) hr
        have e : assignEach (.Name x p :: r) env = (false, assign (.Name x p) env) :: assignEach r env := rfl
        rw [e]
        refine ⟨by simp [ih.1], ?_⟩
        rw [List.findIdx?_cons]
        simp [ih.2]
      · cases h
    · cases h
theorem assigns_ok {A : Around} {env : Env} {h₀ : Heap} {Q : Unit → Shared → Prop} {E : Value → Shared → Prop} (a : At w K k A env h₀) (hsc : env.scope = sc) : ∀ (ts : List Expr) (xs : List Str) (vals : List Value) (vs : List V) (m : Str → Option Value) (news : List (Addr × Obj)) (s : Shared) (en : En),
    localNames sc ts = some xs → xs.length = vs.length → Fr h₀ env.locals s.heap m → News h₀ env.locals s.heap news → EnRep K news m en → Reps K news vals vs →
    (∀ h' tk' m', Fr h₀ env.locals h' m' → News h₀ env.locals h' news → EnRep K news m' (en.puts xs vs) → Q () { s with heap := h', toks := tk' }) →
    wpAny (model prog w) A (assignInOrder ((assignEach ts env).map (·.2)) vals) Q E s
  | [], xs, vals, vs, m, news, s, en, hx, hl, F, N, R, r, q => by
    cases hx
    cases vs with
    | cons => simp at hl
    | nil => exact assignInOrder_nil (q _ _ m F N R)
  | e :: ts, xs, vals, vs, m, news, s, en, hx, hl, F, N, R, r, q => by
    unfold localNames at hx
    split at hx
    · rename_i x hx1
      split at hx
      · rename_i ys hr
        cases hx
        obtain ⟨⟨p, rfl⟩, hloc⟩ := localName_ok hx1
        cases r with
        | nil => simp at hl
        | cons r1 rr =>
          have e : assignEach (.Name x p :: ts) env = (false, assign (.Name x p) env) :: assignEach ts env := rfl
          rw [e]
          refine assignInOrder_cons (PyProof.Rows.assign_Name (store_ok a (by rw [hsc]; exact hloc) F N R r1 ?_))
          intro h1 t1 m1 F1 N1 R1
          refine assigns_ok a hsc ts ys _ _ m1 news _ _ hr (by simpa using hl) F1 N1 R1 rr ?_
          intro h2 t2 m2 F2 N2 R2
          exact q h2 t2 m2 F2 N2 R2
      · cases hx
    · cases hx

theorem Reps.reverse {news : List (Addr × Obj)} {vals : List Value} {vs : List V} (r : Reps K news vals vs) : Reps K news vals.reverse vs.reverse := by
  have app : ∀ {a : List Value} {b : List V} {c : Value} {d : V}, Reps K news a b → Rep K news c d → Reps K news (a ++ [c]) (b ++ [d]) := by
    intro a b c d h1 h2
    induction h1 using Reps.rec (motive_1 := fun _ _ _ => True) with
    | nil => exact .cons h2 .nil
    | cons h _ _ ih => exact .cons h ih
    | _ => trivial
  induction r using Reps.rec (motive_1 := fun _ _ _ => True) with
  | nil => exact .nil
  | cons h _ _ ih =>
    rw [List.reverse_cons, List.reverse_cons]
    exact app ih h
  | _ => trivial

theorem swN_names {ts : List Expr} {e : Expr} {ys : List Str} (h : swN sc ts e = some (some ys)) : (∀ y ∈ ys, sc.names.lookup y = some .local) ∧ ys.length = ts.length := by
  cases e
  case Tuple vs j q =>
    unfold swN at h
    dsimp only at h
    split at h
    · cases h
    · split at h
      · cases h
      · split at h
        · cases h
        · rename_i h3
          split at h
          · cases h
          · split at h
            · cases h
            · simp only [Option.some.injEq] at h
              rw [h] at h3
              refine ⟨?_, ?_⟩
              · intro y hy
                rw [← h, List.mem_filterMap] at hy
                obtain ⟨x, _, hx⟩ := hy
                split at hx
                · split at hx
                  · rename_i hc
                    cases hx
                    rw [Bool.and_eq_true] at hc
                    simpa using hc.1
                  · cases hx
                · cases hx
              · simp only [Bool.or_eq_true, bne_iff_ne, not_or, ne_eq, Decidable.not_not] at h3
                exact h3.1
  all_goals (cases h)

theorem evS_ok (ok : T.Ok w K) : ∀ (n d : Nat) (en : En) (tk : List Tk) (ss : List Stmt) (fl : Fl) (tk' : List Tk) (ps : List Prop),
    evS n d ⟨sc, CallS prog w K k, T, fun en ss fl => Does prog w K k sc en (execs ss) fl, fun en s en2 => Does prog w K k sc en (exec s) (.next en2)⟩ en tk ss = some (fl, tk', ps) → All ps → Does prog w K k sc en (execs ss) fl
  | 0, d, en, tk, ss, fl, tk', ps, h, hp => by simp [evS] at h
  | n + 1, d, en, tk, ss, fl, tk', ps, h, hp => by
    have ihE := fun en => evE_ok (sc := sc) (k := k) (prog := prog) (ds := fun en ss fl => Does prog w K k sc en (execs ss) fl) (es := fun en s en2 => Does prog w K k sc en (exec s) (.next en2)) ok n en
    have ihS := fun d en tk ss fl tk' ps => evS_ok ok n d en tk ss fl tk' ps
    unfold evS at h
    split at h
    · cases h
      exact hp.1
    split at h
    · simp only [Option.some.injEq, Prod.mk.injEq] at h
      obtain ⟨rfl, _, _⟩ := h
      intro A env h₀ m news s Q E a hsc F N R q
      exact wpAny_execs_nil (q _ _ _ m _ F N sub_refl ⟨rfl, R⟩)
    rename_i st rest
    have goOn : ∀ (en2 : En) tk2 tk3 p2 (A : Around) (env : Env) (h₀ h1 : Heap) t1 m1 news n1 (s : Shared) (Q : Flow → Shared → Prop) (E : Value → Shared → Prop), evS n d ⟨sc, CallS prog w K k, T, fun en ss fl => Does prog w K k sc en (execs ss) fl, fun en s en2 => Does prog w K k sc en (exec s) (.next en2)⟩ en2 tk2 rest = some (fl, tk3, p2) → All p2 →
        At w K k A env h₀ → env.scope = sc → Fr h₀ env.locals h1 m1 → News h₀ env.locals h1 n1 → (∀ p ∈ news, p ∈ n1) → EnRep K n1 m1 en2 → PostS K h₀ env.locals news s fl Q → wpAny (model prog w) A (execs rest env) Q E { s with heap := h1, toks := t1 } := by
      intro en2 tk2 tk3 p2 A env h₀ h1 t1 m1 news n1 s Q E e hp2 a hsc F1 N1 s1 R1 q
      refine ihS _ _ _ _ _ _ _ e hp2 A env h₀ m1 n1 _ Q E a hsc F1 N1 R1 ?_
      intro f h2 t2 m2 n2 F2 N2 s2 r2
      exact q f h2 t2 m2 n2 F2 N2 (fun p hp => s2 p (s1 p hp)) r2
    split at h
    · split at h
      · rename_i e2
        cases h
        intro A env h₀ m news s Q E a hsc F N R q
        refine wpAny_execs_cons ?_
        refine hp.1 A env h₀ m news s _ E a hsc F N R ?_
        intro f h1 t1 m1 n1 F1 N1 s1 r1
        obtain ⟨rfl, R1⟩ := r1
        exact goOn _ _ _ _ A env h₀ h1 t1 m1 news n1 s Q E e2 hp.2 a hsc F1 N1 s1 R1 q
      · cases h
    split at h
    · -- x = e
      rename_i x px e pos _
      split at h
      · rename_i hl hc
        split at h
        · rename_i v tk1 p1 e1
          split at h
          · rename_i e2
            cases h
            obtain ⟨hp1, hp2⟩ := All.app.mp hp
            intro A env h₀ m news s Q E a hsc F N R q
            refine wpAny_execs_cons (wpAny_Assign_Name ?_ (swapsWith_no hc))
            refine ihE _ _ _ _ _ _ e1 hp1 A env h₀ m news s _ E a hsc F N R ?_
            intro v1 h1 t1 n1 F1 N1 s1 r1
            refine store_ok a (by rw [hsc]; exact hl) F1 N1 (R.mono s1) r1 ?_
            intro h2 t2 m2 F2 N2 R2
            exact goOn _ _ _ _ A env h₀ h2 t2 m2 news n1 s Q E e2 hp2 a hsc F2 N2 s1 R2 q
          · cases h
        · cases h
      · cases h
    · -- a, b = e
      rename_i ts kk tp e pos _
      split at h
      · rename_i xs sw hx hsw
        split at h
        · rename_i vs tk1 p1 e1
          split at h
          · rename_i hlen
            split at h
            · rename_i e2
              cases h
              obtain ⟨hp1, hp2⟩ := All.app.mp hp
              have hlen' : vs.length = xs.length := by simpa using hlen
              obtain ⟨hloc, hlx⟩ := localNames_all hx
              intro A env h₀ m news s Q E a hsc F N R q
              obtain ⟨cn, cs', L, fa, ccd, cl, he, hk⟩ := id a.fn
              have hk' : env.scope.kind = .function := by rw [he]; exact hk
              have hw := swN_ok (k' := kk) (p := tp) (env := env) (by rw [hsc]; exact hsw) hk'
              cases sw with
              | none =>
                refine wpAny_execs_cons (Assign_Tuple ?_ swapsWithSole_tup hw)
                refine ihE _ _ _ _ _ _ e1 hp1 A env h₀ m news s _ E a hsc F N R ?_
                intro v1 h1 t1 n1 F1 N1 s1 r1
                cases r1 with
                | tup H c d r =>
                  have ha := assignEach_names (env := env) hx
                  refine unpackN_ F1 N1 ⟨_, H.get N1 (a.In F1), c, _, d⟩ a.hh ?_ ha.2 ?_
                  · have := r.length
                    rw [ha.1, hlx, ← hlen', ← this]
                    simp
                  · intro h2 F2 N2
                    refine assigns_ok a hsc ts xs _ vs m n1 _ en hx hlen'.symm F2 N2 (R.mono s1) r ?_
                    intro h3 t3 m3 F3 N3 R3
                    exact goOn _ _ _ _ A env h₀ h3 t3 m3 news n1 s Q E e2 hp2 a hsc F3 N3 s1 R3 q
              | some ys =>
                refine wpAny_execs_cons (Assign_Tuple_swapped (names := ys) ?_ swapsWithSole_tup hw)
                refine ihE _ _ _ _ _ _ e1 hp1 A env h₀ m news s _ E a hsc F N R ?_
                intro v1 h1 t1 n1 F1 N1 s1 r1
                cases r1 with
                | tup H c d r =>
                  have hys : (∀ y ∈ ys, sc.names.lookup y = some .local) ∧ ys.length = ts.length := swN_names hsw
                  refine unpackItemsN_ F1 N1 ⟨_, H.get N1 (a.In F1), c, _, d⟩ a.hh ?_ ?_
                  · have := r.length
                    rw [hys.2, hlx, ← hlen', ← this]
                    simp
                  · intro h2 F2 N2
                    refine stores_ok a ys.reverse _ vs.reverse m n1 _ en (fun y hy => by rw [hsc]; exact hys.1 y (List.mem_reverse.mp hy)) (by simp [hys.2, hlx, hlen']) F2 N2 (R.mono s1) (r.reverse) ?_
                    intro h3 t3 m3 F3 N3 R3
                    exact goOn _ _ _ _ A env h₀ h3 t3 m3 news n1 s Q E e2 hp2 a hsc F3 N3 s1 R3 q
            · cases h
          · cases h
        · cases h
      · cases h
    · -- x += e
      rename_i x px op e pos _
      split at h
      · rename_i hl
        split at h
        · rename_i ia hx
          split at h
          · rename_i ib tk1 p1 e1
            split at h
            · rename_i v p2 e2
              split at h
              · rename_i e3
                cases h
                obtain ⟨hp1, hp'⟩ := All.app.mp hp
                obtain ⟨hp2, hp3⟩ := All.app.mp hp'
                intro A env h₀ m news s Q E a hsc F N R q
                refine wpAny_execs_cons (wpAny_AugAssign_Name ?_)
                obtain ⟨val, hm, hr⟩ := R _ _ hx
                have a' := a
                obtain ⟨cn, cs', L, fa, ccd, cl, rfl, hk⟩ := a.fn
                have hl' : (envX cn cs' L fa ccd cl).scope.names.lookup x = some .local := by rw [hsc]; exact hl
                refine wpAny_loadName_local hk hl' F.ns hm ?_
                refine ihE _ _ _ _ _ _ e1 hp1 A _ h₀ m news s _ E a' hsc F N R ?_
                intro v1 h1 t1 n1 F1 N1 s1 r1
                refine binV_okI (hr.mono s1) r1 e2 hp2 ?_
                intro v2 t2 r2
                refine store_ok a' hl' F1 N1 (R.mono s1) r2 ?_
                intro h3 t3 m3 F3 N3 R3
                exact goOn _ _ _ _ A _ h₀ h3 t3 m3 news n1 s Q E e3 hp3 a' hsc F3 N3 s1 R3 q
              · cases h
            · cases h
          · cases h
        · cases h
      · cases h
    · -- return
      split at h
      · rename_i v tk1 p1 e1
        cases h
        intro A env h₀ m news s Q E a hsc F N R q
        refine wpAny_execs_cons (wpAny_Return_some ?_)
        refine ihE _ _ _ _ _ _ e1 hp A env h₀ m news s _ E a hsc F N R ?_
        intro v1 h1 t1 n1 F1 N1 s1 r1
        exact q _ h1 t1 m n1 F1 N1 s1 ⟨_, rfl, r1⟩
      · cases h
    · -- assert
      split at h
      · rename_i tk1 p1 e1
        split at h
        · rename_i e2
          cases h
          obtain ⟨hp1, hp2⟩ := All.app.mp hp
          intro A env h₀ m news s Q E a hsc F N R q
          refine wpAny_execs_cons (wpAny_Assert_holds ?_)
          refine testV_ok (ihE en) n _ _ _ _ _ e1 hp1 A env h₀ m news s _ E a hsc F N R ?_
          intro h1 t1 n1 F1 N1 s1
          exact ⟨rfl, goOn _ _ _ _ A env h₀ h1 t1 m news n1 s Q E e2 hp2 a hsc F1 N1 s1 (R.mono s1) q⟩
        · cases h
      · cases h
    · -- if
      split at h
      · rename_i z tk1 p1 e1
        split at h
        · rename_i v tk2 p2 e2
          cases h
          obtain ⟨hp1, hp2⟩ := All.app.mp hp
          intro A env h₀ m news s Q E a hsc F N R q
          refine wpAny_execs_cons (wpAny_If ?_)
          refine testV_ok (ihE en) n _ _ _ _ _ e1 hp1 A env h₀ m news s _ E a hsc F N R ?_
          intro h1 t1 n1 F1 N1 s1
          cases z
          all_goals (
            refine ihS _ _ _ _ _ _ _ e2 hp2 A env h₀ m n1 _ _ E a hsc F1 N1 (R.mono s1) ?_
            intro f h2 t2 m2 n2 F2 N2 s2 r2
            obtain ⟨val, rfl, r2'⟩ := id r2
            exact q _ h2 t2 m2 n2 F2 N2 (fun p hp => s2 p (s1 p hp)) r2)
        · rename_i en2 tk2 p2 e2
          split at h
          · rename_i e3
            cases h
            obtain ⟨hp1, hp'⟩ := All.app.mp hp
            obtain ⟨hp2, hp3⟩ := All.app.mp hp'
            intro A env h₀ m news s Q E a hsc F N R q
            refine wpAny_execs_cons (wpAny_If ?_)
            refine testV_ok (ihE en) n _ _ _ _ _ e1 hp1 A env h₀ m news s _ E a hsc F N R ?_
            intro h1 t1 n1 F1 N1 s1
            cases z
            all_goals (
              refine ihS _ _ _ _ _ _ _ e2 hp2 A env h₀ m n1 _ _ E a hsc F1 N1 (R.mono s1) ?_
              intro f h2 t2 m2 n2 F2 N2 s2 r2
              obtain ⟨rfl, r2'⟩ := id r2
              exact goOn _ _ _ _ A env h₀ h2 t2 m2 news n2 s Q E e3 hp3 a hsc F2 N2 (fun p hp => s2 p (s1 p hp)) r2' q)
          · cases h
        · cases h
      · cases h
    · cases h
end Mine
end
section
set_option Elab.async false
set_option maxRecDepth 100000
set_option autoImplicit false
open PySem PySem.W PySem.Calls PyProof.Rows PySem.Spec
namespace Mine
variable {prog : Program} {w : World} {K : Frag} {k : Nat} {T : Tab} {sc : Scope}

theorem callS_of {name qual : Str} {params : Arguments} {body : List Stmt} {scope : Scope} {dV kV doc pm cdv ct oc : Value} {an od : Option Addr} {osl : Array (Option Value)} {f : Addr} {args : List V} {r : V} {en : En}
    (ho : K.lookup f = some ⟨oc, od, .func (fnOf name qual params body scope dV kV doc pm an cdv ct), osl⟩) (hcd : codeIn K cdv qual = true)
    (hb : ∀ (news : List (Addr × Obj)) (vs : List Value) (s : Shared), Reps K news vs args → K.In s.heap →
      ∃ binds, BindsTo s (fnOf name qual params body scope dV kV doc pm an cdv ct) ⟨vs, []⟩ binds ∧ (∀ y ∈ binds, scope.names.lookup y.1 = some .local) ∧ EnRep K news (fun y => binds.reverse.lookup y) en)
    (D : Does prog w K k scope en (execs body) (.ret r))
    (hco : scope.isCoroutine = false := by rfl) (hgen : scope.isGenerator = false := by rfl) (hk : scope.kind = .function := by rfl) (hcell : ∀ x ∈ scope.names, x.2 ≠ .cell := by decide +kernel) : CallS prog w K (k + 1) f args r := by
  intro A env h₀ m news s vs Q E a F N R q
  obtain ⟨A₀, base, outer, B, hA⟩ := a.fr
  obtain ⟨p, loose, mg, mb, tp⟩ := a.T
  obtain ⟨binds, hbind, hloc, Ren⟩ := hb news vs s R (a.In F)
  have hd := a.dep
  have hu := a.uni
  have hh := a.hh
  obtain ⟨cn, cs', L, fa, ccd, cl, rfl, hke⟩ := a.fn
  refine wpAny_call ?_
  refine callX_plain (cl := []) B F N tp.nolimit hA rfl hke ((a.In F) _ _ ho) rfl (codeRec_of (a.In F) hcd) (by omega) hbind hloc ?_ hcell hco hgen hk
  intro g L' h1 FG F' N' B' st _
  refine D (A.deeper (envOf qual scope L' f cdv)) (envOf qual scope L' f cdv) g _ news { s with heap := h1, toks := s.toks + binds.length } _ _ ⟨hh, ⟨A, base, _, B', Around.frames_deeper B'.stack⟩, ⟨qual, scope, L', f, cdv, [], rfl, hk⟩, ?_, ?_, a.X.keeps st, ⟨p, loose, mg, mb, tp.keeps st⟩⟩ rfl F' N' Ren ?_
  · rw [depth_deeper]; omega
  · rw [units_deeper]; omega
  · intro fl h2 t2 m2 n2 F2 N2 s2 r2
    obtain ⟨val, rfl, r2'⟩ := r2
    exact leaveK_ (s' := { s with heap := h2, toks := t2 }) F2 N2 (fun F3 N3 => q val h2 t2 n2 F3 N3 s2 r2')
end Mine
end
section
set_option Elab.async false
set_option maxRecDepth 100000
set_option autoImplicit false
open PySem PySem.W PySem.Calls PyProof.Rows PySem.Spec
namespace Mine
abbrev PG : Program := PySem.Challenge.rw_bg5011_01.row.prog
noncomputable abbrev KK (w : World) : Frag := Mine.hd.heap_39 w.params
@[irreducible] def fdAt (K : Frag) (a : Addr) : FuncData := match K.lookup a with
  | some ⟨_, _, .func f, _⟩ => f
  | _ => default
@[irreducible] def bdyAt (K : Frag) (a : Addr) : List Stmt := match (fdAt K a).body with
  | .stmts b => b
  | _ => []
@[irreducible] noncomputable def bdy (w : World) (a : Addr) : List Stmt := bdyAt (KK w) a
@[irreducible] noncomputable def scp (w : World) (a : Addr) : Scope := (fdAt (KK w) a).scope
@[irreducible] noncomputable def fdOf (w : World) (a : Addr) : FuncData :=
  fnOf (fdAt (KK w) a).name (fdAt (KK w) a).qualname (fdAt (KK w) a).params (bdy w a) (scp w a) (fdAt (KK w) a).defaults (fdAt (KK w) a).kwdefaults (fdAt (KK w) a).doc (fdAt (KK w) a).pyModule (fdAt (KK w) a).annotations (fdAt (KK w) a).code (fdAt (KK w) a).closureTuple

def kOfLoad {α : Type} : Sem α → Obj → Sem α
  | .load _ _ k => k
  | _ => fun _ => .unsupported ""
theorem BindsTo.of_load {s : Shared} {fd : FuncData} {args : Args} {binds : List (Str × Value)} {D : Addr} {o : Obj} (hl : s.heap.get? D = some o) (e : bindArgs fd args = Sem.load D none (kOfLoad (bindArgs fd args))) (e2 : kOfLoad (bindArgs fd args) o = pure binds) : BindsTo s fd args binds := by
  intro M A E Q q
  rw [e]
  have : Sem.load D none (kOfLoad (bindArgs fd args)) = (load D >>= kOfLoad (bindArgs fd args)) := rfl
  rw [this]
  exact wpAny_bind (wpAny_load hl (e2 ▸ wpAny_pure q))

inductive EnIs (K : Frag) (news : List (Addr × Obj)) : List (Str × Value) → En → Prop
  | nil : EnIs K news [] []
  | cons {x : Str} {v : Value} {d : V} {l : List (Str × Value)} {e : En} : Rep K news v d → EnIs K news l e → EnIs K news ((x, v) :: l) ((x, d) :: e)
theorem EnIs.rep {K : Frag} {news : List (Addr × Obj)} {l : List (Str × Value)} {e : En} (h : EnIs K news l e) : EnRep K news (fun y => l.lookup y) e := by
  induction h with
  | nil => intro x v q; cases q
  | cons r _ ih =>
    rename_i z u d l e
    intro x v q
    rw [List.lookup_cons] at q
    dsimp only
    rw [List.lookup_cons]
    split at q
    · cases q
      exact ⟨_, rfl, r⟩
    · exact ih x v q

noncomputable def okFn (w : World) (a : Addr) : Bool := codeIn (KK w) (fdAt (KK w) a).code (fdAt (KK w) a).qualname && !(scp w a).isCoroutine && !(scp w a).isGenerator && (scp w a).kind == .function && (scp w a).names.all fun x => x.2 != .cell
theorem callS_at {w : World} {k : Nat} {a : Addr} {args : List V} {r : V} {en : En} (ho : (KK w).lookup a = some ⟨.type "function", none, .func (fdOf w a), #[]⟩) (ok : okFn w a = true)
    (hb : ∀ (news : List (Addr × Obj)) (vs : List Value) (s : Shared), Reps (KK w) news vs args → (KK w).In s.heap →
      ∃ binds, BindsTo s (fdOf w a) ⟨vs, []⟩ binds ∧ (binds.all fun x => decide ((scp w a).names.lookup x.1 = some .local)) = true ∧ EnIs (KK w) news binds.reverse en)
    (D : Does PG w (KK w) k (scp w a) en (execs (bdy w a)) (.ret r)) : CallS PG w (KK w) (k + 1) a args r := by
  unfold okFn at ok
  simp only [Bool.and_eq_true, Bool.not_eq_true', beq_iff_eq] at ok
  obtain ⟨⟨⟨⟨h1, h2⟩, h3⟩, h4⟩, h5⟩ := ok
  unfold fdOf at ho hb
  refine callS_of ho h1 (fun news vs s R X => ?_) D h2 h3 h4 (fun x hx => by simpa using List.all_eq_true.mp h5 x hx)
  obtain ⟨binds, b1, b2, b3⟩ := hb news vs s R X
  exact ⟨binds, b1, locs b2, b3.rep⟩

def tab : Tab where
  G := [(Str.ofString "MPZ_ZERO", .int 0),
    (Str.ofString "MPZ_ONE", .int 1),
    (Str.ofString "trailing", .ref 21),
    (Str.ofString "round_nearest", .str (Str.ofString "n")),
    (Str.ofString "round_floor", .str (Str.ofString "f")),
    (Str.ofString "round_ceiling", .str (Str.ofString "c")),
    (Str.ofString "round_up", .str (Str.ofString "u")),
    (Str.ofString "round_down", .str (Str.ofString "d")),
    (Str.ofString "round_fast", .str (Str.ofString "d")),
    (Str.ofString "fzero", .tup [.int 0, .int 0, .int 0, .int 0]),
    (Str.ofString "fone", .tup [.int 0, .int 1, .int 0, .int 1]),
    (Str.ofString "fnan", .tup [.int 0, .int 0, .int (-123), .int (-1)]),
    (Str.ofString "finf", .tup [.int 0, .int 0, .int (-456), .int (-2)]),
    (Str.ofString "fninf", .tup [.int 1, .int 0, .int (-789), .int (-3)]),
    (Str.ofString "shifts_down", .ref 27),
    (Str.ofString "_normalize", .ref 38),
    (Str.ofString "normalize", .ref 45),
    (Str.ofString "from_man_exp", .ref 53),
    (Str.ofString "from_int", .ref 61),
    (Str.ofString "mpf_cmp", .ref 68),
    (Str.ofString "mpf_lt", .ref 75),
    (Str.ofString "mpf_pos", .ref 83),
    (Str.ofString "mpf_neg", .ref 91),
    (Str.ofString "mpf_abs", .ref 99),
    (Str.ofString "mpf_sign", .ref 106),
    (Str.ofString "mpf_add", .ref 114),
    (Str.ofString "mpf_sub", .ref 122),
    (Str.ofString "mpf_sum", .ref 130),
    (Str.ofString "mpf_mul", .ref 138),
    (Str.ofString "mpf_mul_int", .ref 146),
    (Str.ofString "mpf_shift", .ref 153),
    (Str.ofString "mpf_frexp", .ref 160),
    (Str.ofString "mpf_div", .ref 168),
    (Str.ofString "reciprocal_rnd", .ref 169),
    (Str.ofString "mpf_pow_int", .ref 177),
    (Str.ofString "mpf_perturb", .ref 184),
    (Str.ofString "_law_rung", .ref 191),
    (Str.ofString "_law_outward", .ref 198),
    (Str.ofString "_law_step", .ref 205),
    (Str.ofString "_law_higher", .ref 212),
    (Str.ofString "_law_roads", .ref 219)]
  F := [21, 38, 45, 53, 61, 68, 75, 83, 91, 99, 106, 114, 122, 130, 138, 146, 153, 160, 168, 177, 184, 191, 198, 205, 212, 219]
  D := [((27, Str.ofString "f"), .tup [.int 1, .int 0]), ((27, Str.ofString "c"), .tup [.int 0, .int 1]), ((27, Str.ofString "d"), .tup [.int 1, .int 1]), ((27, Str.ofString "u"), .tup [.int 0, .int 0])]

theorem lookup_all {α β : Type} [BEq α] [LawfulBEq α] {p : α → β → Prop} {l : List (α × β)} (h : ∀ q ∈ l, p q.1 q.2) {x : α} {v : β} (e : l.lookup x = some v) : p x v := by
  induction l with
  | nil => cases e
  | cons q r ih =>
    rw [List.lookup_cons] at e
    split at e
    · rename_i hq
      cases e
      rw [beq_iff_eq.mp hq]
      exact h q (.head _)
    · exact ih (fun q hq => h q (.tail _ hq)) e

theorem tabG {K : Frag} {x : Str} {v : V} {val : Value} (h : nsIn K mainGlobals x = some (some val)) (r : Rep K [] val v) : ∃ val, nsIn K mainGlobals x = some (some val) ∧ Rep K [] val v := ⟨val, h, r⟩
theorem tabD {w : World} {K : Frag} {a : Addr} {x : Str} {v : V} {es : Array DictEntry} {n : Nat} {val : Value} (hl : K.lookup a = some ⟨.type "dict", none, .dict es n, #[]⟩) (hk : KeysLit w.params es.toList) (h : nsIn K a x = some (some val)) (r : Rep K [] val v) :
    ∃ es n val, K.lookup a = some ⟨.type "dict", none, .dict es n, #[]⟩ ∧ KeysLit w.params es.toList ∧ nsIn K a x = some (some val) ∧ Rep K [] val v := ⟨es, n, val, hl, hk, h, r⟩
theorem tab_ok (w : World) : tab.Ok w (KK w) where
  g := fun x v e => lookup_all (p := fun x v => ∃ val, nsIn (KK w) mainGlobals x = some (some val) ∧ Rep (KK w) [] val v) (by
    unfold tab
    dsimp only
    refine List.forall_mem_cons.mpr ⟨tabG (val := Value.int 0 187) (by kernel_rfl!) (Rep.int), ?_⟩
    refine List.forall_mem_cons.mpr ⟨tabG (val := Value.int 1 189) (by kernel_rfl!) (Rep.int), ?_⟩
    refine List.forall_mem_cons.mpr ⟨tabG (val := Value.ref 21) (by kernel_rfl!) (Rep.ref), ?_⟩
    refine List.forall_mem_cons.mpr ⟨tabG (val := Value.str (Str.ofString "n") 202) (by kernel_rfl!) (Rep.str), ?_⟩
    refine List.forall_mem_cons.mpr ⟨tabG (val := Value.str (Str.ofString "f") 204) (by kernel_rfl!) (Rep.str), ?_⟩
    refine List.forall_mem_cons.mpr ⟨tabG (val := Value.str (Str.ofString "c") 206) (by kernel_rfl!) (Rep.str), ?_⟩
    refine List.forall_mem_cons.mpr ⟨tabG (val := Value.str (Str.ofString "u") 208) (by kernel_rfl!) (Rep.str), ?_⟩
    refine List.forall_mem_cons.mpr ⟨tabG (val := Value.str (Str.ofString "d") 210) (by kernel_rfl!) (Rep.str), ?_⟩
    refine List.forall_mem_cons.mpr ⟨tabG (val := Value.str (Str.ofString "d") 210) (by kernel_rfl!) (Rep.str), ?_⟩
    refine List.forall_mem_cons.mpr ⟨tabG (val := Value.ref 22) (by kernel_rfl!) (Rep.tup (o := ⟨.type "tuple", none, .seq #[.int 0 213, .int 0 187, .int 0 214, .int 0 215] 0, #[]⟩) (.inr (by kernel_rfl!)) rfl rfl (.cons .int (.cons .int (.cons .int (.cons .int (.nil)))))), ?_⟩
    refine List.forall_mem_cons.mpr ⟨tabG (val := Value.ref 23) (by kernel_rfl!) (Rep.tup (o := ⟨.type "tuple", none, .seq #[.int 0 217, .int 1 189, .int 0 218, .int 1 219] 0, #[]⟩) (.inr (by kernel_rfl!)) rfl rfl (.cons .int (.cons .int (.cons .int (.cons .int (.nil)))))), ?_⟩
    refine List.forall_mem_cons.mpr ⟨tabG (val := Value.ref 24) (by kernel_rfl!) (Rep.tup (o := ⟨.type "tuple", none, .seq #[.int 0 221, .int 0 187, .int (-123) 223, .int (-1) 225] 0, #[]⟩) (.inr (by kernel_rfl!)) rfl rfl (.cons .int (.cons .int (.cons .int (.cons .int (.nil)))))), ?_⟩
    refine List.forall_mem_cons.mpr ⟨tabG (val := Value.ref 25) (by kernel_rfl!) (Rep.tup (o := ⟨.type "tuple", none, .seq #[.int 0 227, .int 0 187, .int (-456) 229, .int (-2) 231] 0, #[]⟩) (.inr (by kernel_rfl!)) rfl rfl (.cons .int (.cons .int (.cons .int (.cons .int (.nil)))))), ?_⟩
    refine List.forall_mem_cons.mpr ⟨tabG (val := Value.ref 26) (by kernel_rfl!) (Rep.tup (o := ⟨.type "tuple", none, .seq #[.int 1 233, .int 0 187, .int (-789) 235, .int (-3) 237] 0, #[]⟩) (.inr (by kernel_rfl!)) rfl rfl (.cons .int (.cons .int (.cons .int (.cons .int (.nil)))))), ?_⟩
    refine List.forall_mem_cons.mpr ⟨tabG (val := Value.ref 27) (by kernel_rfl!) (Rep.ref), ?_⟩
    refine List.forall_mem_cons.mpr ⟨tabG (val := Value.ref 38) (by kernel_rfl!) (Rep.ref), ?_⟩
    refine List.forall_mem_cons.mpr ⟨tabG (val := Value.ref 45) (by kernel_rfl!) (Rep.ref), ?_⟩
    refine List.forall_mem_cons.mpr ⟨tabG (val := Value.ref 53) (by kernel_rfl!) (Rep.ref), ?_⟩
    refine List.forall_mem_cons.mpr ⟨tabG (val := Value.ref 61) (by kernel_rfl!) (Rep.ref), ?_⟩
    refine List.forall_mem_cons.mpr ⟨tabG (val := Value.ref 68) (by kernel_rfl!) (Rep.ref), ?_⟩
    refine List.forall_mem_cons.mpr ⟨tabG (val := Value.ref 75) (by kernel_rfl!) (Rep.ref), ?_⟩
    refine List.forall_mem_cons.mpr ⟨tabG (val := Value.ref 83) (by kernel_rfl!) (Rep.ref), ?_⟩
    refine List.forall_mem_cons.mpr ⟨tabG (val := Value.ref 91) (by kernel_rfl!) (Rep.ref), ?_⟩
    refine List.forall_mem_cons.mpr ⟨tabG (val := Value.ref 99) (by kernel_rfl!) (Rep.ref), ?_⟩
    refine List.forall_mem_cons.mpr ⟨tabG (val := Value.ref 106) (by kernel_rfl!) (Rep.ref), ?_⟩
    refine List.forall_mem_cons.mpr ⟨tabG (val := Value.ref 114) (by kernel_rfl!) (Rep.ref), ?_⟩
    refine List.forall_mem_cons.mpr ⟨tabG (val := Value.ref 122) (by kernel_rfl!) (Rep.ref), ?_⟩
    refine List.forall_mem_cons.mpr ⟨tabG (val := Value.ref 130) (by kernel_rfl!) (Rep.ref), ?_⟩
    refine List.forall_mem_cons.mpr ⟨tabG (val := Value.ref 138) (by kernel_rfl!) (Rep.ref), ?_⟩
    refine List.forall_mem_cons.mpr ⟨tabG (val := Value.ref 146) (by kernel_rfl!) (Rep.ref), ?_⟩
    refine List.forall_mem_cons.mpr ⟨tabG (val := Value.ref 153) (by kernel_rfl!) (Rep.ref), ?_⟩
    refine List.forall_mem_cons.mpr ⟨tabG (val := Value.ref 160) (by kernel_rfl!) (Rep.ref), ?_⟩
    refine List.forall_mem_cons.mpr ⟨tabG (val := Value.ref 168) (by kernel_rfl!) (Rep.ref), ?_⟩
    refine List.forall_mem_cons.mpr ⟨tabG (val := Value.ref 169) (by kernel_rfl!) (Rep.ref), ?_⟩
    refine List.forall_mem_cons.mpr ⟨tabG (val := Value.ref 177) (by kernel_rfl!) (Rep.ref), ?_⟩
    refine List.forall_mem_cons.mpr ⟨tabG (val := Value.ref 184) (by kernel_rfl!) (Rep.ref), ?_⟩
    refine List.forall_mem_cons.mpr ⟨tabG (val := Value.ref 191) (by kernel_rfl!) (Rep.ref), ?_⟩
    refine List.forall_mem_cons.mpr ⟨tabG (val := Value.ref 198) (by kernel_rfl!) (Rep.ref), ?_⟩
    refine List.forall_mem_cons.mpr ⟨tabG (val := Value.ref 205) (by kernel_rfl!) (Rep.ref), ?_⟩
    refine List.forall_mem_cons.mpr ⟨tabG (val := Value.ref 212) (by kernel_rfl!) (Rep.ref), ?_⟩
    refine List.forall_mem_cons.mpr ⟨tabG (val := Value.ref 219) (by kernel_rfl!) (Rep.ref), ?_⟩
    exact fun _ h => (nomatch h)) e
  f := by
    intro a h
    have h' : a ∈ tab.F := List.contains_iff_mem.mp h
    revert a
    intro a _ h'
    have all : ∀ a ∈ tab.F, keepIn (KK w) (.ref a) = true := by
      unfold tab
      dsimp only
      refine List.forall_mem_cons.mpr ⟨by kernel_rfl!, ?_⟩
      refine List.forall_mem_cons.mpr ⟨by kernel_rfl!, ?_⟩
      refine List.forall_mem_cons.mpr ⟨by kernel_rfl!, ?_⟩
      refine List.forall_mem_cons.mpr ⟨by kernel_rfl!, ?_⟩
      refine List.forall_mem_cons.mpr ⟨by kernel_rfl!, ?_⟩
      refine List.forall_mem_cons.mpr ⟨by kernel_rfl!, ?_⟩
      refine List.forall_mem_cons.mpr ⟨by kernel_rfl!, ?_⟩
      refine List.forall_mem_cons.mpr ⟨by kernel_rfl!, ?_⟩
      refine List.forall_mem_cons.mpr ⟨by kernel_rfl!, ?_⟩
      refine List.forall_mem_cons.mpr ⟨by kernel_rfl!, ?_⟩
      refine List.forall_mem_cons.mpr ⟨by kernel_rfl!, ?_⟩
      refine List.forall_mem_cons.mpr ⟨by kernel_rfl!, ?_⟩
      refine List.forall_mem_cons.mpr ⟨by kernel_rfl!, ?_⟩
      refine List.forall_mem_cons.mpr ⟨by kernel_rfl!, ?_⟩
      refine List.forall_mem_cons.mpr ⟨by kernel_rfl!, ?_⟩
      refine List.forall_mem_cons.mpr ⟨by kernel_rfl!, ?_⟩
      refine List.forall_mem_cons.mpr ⟨by kernel_rfl!, ?_⟩
      refine List.forall_mem_cons.mpr ⟨by kernel_rfl!, ?_⟩
      refine List.forall_mem_cons.mpr ⟨by kernel_rfl!, ?_⟩
      refine List.forall_mem_cons.mpr ⟨by kernel_rfl!, ?_⟩
      refine List.forall_mem_cons.mpr ⟨by kernel_rfl!, ?_⟩
      refine List.forall_mem_cons.mpr ⟨by kernel_rfl!, ?_⟩
      refine List.forall_mem_cons.mpr ⟨by kernel_rfl!, ?_⟩
      refine List.forall_mem_cons.mpr ⟨by kernel_rfl!, ?_⟩
      refine List.forall_mem_cons.mpr ⟨by kernel_rfl!, ?_⟩
      refine List.forall_mem_cons.mpr ⟨by kernel_rfl!, ?_⟩
      exact fun _ h => (nomatch h)
    exact all a h'
  d := fun a x v e => lookup_all (p := fun (q : Addr × Str) v => ∃ es n val, (KK w).lookup q.1 = some ⟨.type "dict", none, .dict es n, #[]⟩ ∧ KeysLit w.params es.toList ∧ nsIn (KK w) q.1 q.2 = some (some val) ∧ Rep (KK w) [] val v) (x := (a, x)) (by
    unfold tab
    dsimp only
    refine List.forall_mem_cons.mpr ⟨tabD (es := #[⟨PyData.keyHash w.params "f", .str "f" 204, .ref 28⟩, ⟨PyData.keyHash w.params "c", .str "c" 206, .ref 29⟩, ⟨PyData.keyHash w.params "d", .str "d" 210, .ref 30⟩, ⟨PyData.keyHash w.params "u", .str "u" 208, .ref 31⟩]) (n := 4) (val := Value.ref 28) (by kernel_rfl!) ⟨⟨_, _, rfl, rfl⟩, ⟨_, _, rfl, rfl⟩, ⟨_, _, rfl, rfl⟩, ⟨_, _, rfl, rfl⟩, trivial⟩ (by kernel_rfl!) (Rep.tup (o := ⟨.type "tuple", none, .seq #[.int 1 239, .int 0 240] 0, #[]⟩) (.inr (by kernel_rfl!)) rfl rfl (.cons .int (.cons .int (.nil)))), ?_⟩
    refine List.forall_mem_cons.mpr ⟨tabD (es := #[⟨PyData.keyHash w.params "f", .str "f" 204, .ref 28⟩, ⟨PyData.keyHash w.params "c", .str "c" 206, .ref 29⟩, ⟨PyData.keyHash w.params "d", .str "d" 210, .ref 30⟩, ⟨PyData.keyHash w.params "u", .str "u" 208, .ref 31⟩]) (n := 4) (val := Value.ref 29) (by kernel_rfl!) ⟨⟨_, _, rfl, rfl⟩, ⟨_, _, rfl, rfl⟩, ⟨_, _, rfl, rfl⟩, ⟨_, _, rfl, rfl⟩, trivial⟩ (by kernel_rfl!) (Rep.tup (o := ⟨.type "tuple", none, .seq #[.int 0 241, .int 1 242] 0, #[]⟩) (.inr (by kernel_rfl!)) rfl rfl (.cons .int (.cons .int (.nil)))), ?_⟩
    refine List.forall_mem_cons.mpr ⟨tabD (es := #[⟨PyData.keyHash w.params "f", .str "f" 204, .ref 28⟩, ⟨PyData.keyHash w.params "c", .str "c" 206, .ref 29⟩, ⟨PyData.keyHash w.params "d", .str "d" 210, .ref 30⟩, ⟨PyData.keyHash w.params "u", .str "u" 208, .ref 31⟩]) (n := 4) (val := Value.ref 30) (by kernel_rfl!) ⟨⟨_, _, rfl, rfl⟩, ⟨_, _, rfl, rfl⟩, ⟨_, _, rfl, rfl⟩, ⟨_, _, rfl, rfl⟩, trivial⟩ (by kernel_rfl!) (Rep.tup (o := ⟨.type "tuple", none, .seq #[.int 1 243, .int 1 244] 0, #[]⟩) (.inr (by kernel_rfl!)) rfl rfl (.cons .int (.cons .int (.nil)))), ?_⟩
    refine List.forall_mem_cons.mpr ⟨tabD (es := #[⟨PyData.keyHash w.params "f", .str "f" 204, .ref 28⟩, ⟨PyData.keyHash w.params "c", .str "c" 206, .ref 29⟩, ⟨PyData.keyHash w.params "d", .str "d" 210, .ref 30⟩, ⟨PyData.keyHash w.params "u", .str "u" 208, .ref 31⟩]) (n := 4) (val := Value.ref 31) (by kernel_rfl!) ⟨⟨_, _, rfl, rfl⟩, ⟨_, _, rfl, rfl⟩, ⟨_, _, rfl, rfl⟩, ⟨_, _, rfl, rfl⟩, trivial⟩ (by kernel_rfl!) (Rep.tup (o := ⟨.type "tuple", none, .seq #[.int 0 245, .int 0 246] 0, #[]⟩) (.inr (by kernel_rfl!)) rfl rfl (.cons .int (.cons .int (.nil)))), ?_⟩
    exact fun _ h => (nomatch h)) e
  isi := by kernel_rfl!
  int := by kernel_rfl!

theorem ho_21 (w : World) : (KK w).lookup 21 = some ⟨.type "function", none, .func (fdOf w 21), #[]⟩ := by kernel_rfl!
theorem ho_38 (w : World) : (KK w).lookup 38 = some ⟨.type "function", none, .func (fdOf w 38), #[]⟩ := by kernel_rfl!
theorem ho_45 (w : World) : (KK w).lookup 45 = some ⟨.type "function", none, .func (fdOf w 45), #[]⟩ := by kernel_rfl!
theorem ho_53 (w : World) : (KK w).lookup 53 = some ⟨.type "function", none, .func (fdOf w 53), #[]⟩ := by kernel_rfl!
theorem ho_61 (w : World) : (KK w).lookup 61 = some ⟨.type "function", none, .func (fdOf w 61), #[]⟩ := by kernel_rfl!
theorem ho_68 (w : World) : (KK w).lookup 68 = some ⟨.type "function", none, .func (fdOf w 68), #[]⟩ := by kernel_rfl!
theorem ho_75 (w : World) : (KK w).lookup 75 = some ⟨.type "function", none, .func (fdOf w 75), #[]⟩ := by kernel_rfl!
theorem ho_83 (w : World) : (KK w).lookup 83 = some ⟨.type "function", none, .func (fdOf w 83), #[]⟩ := by kernel_rfl!
theorem ho_91 (w : World) : (KK w).lookup 91 = some ⟨.type "function", none, .func (fdOf w 91), #[]⟩ := by kernel_rfl!
theorem ho_99 (w : World) : (KK w).lookup 99 = some ⟨.type "function", none, .func (fdOf w 99), #[]⟩ := by kernel_rfl!
theorem ho_106 (w : World) : (KK w).lookup 106 = some ⟨.type "function", none, .func (fdOf w 106), #[]⟩ := by kernel_rfl!
theorem ho_114 (w : World) : (KK w).lookup 114 = some ⟨.type "function", none, .func (fdOf w 114), #[]⟩ := by kernel_rfl!
theorem ho_122 (w : World) : (KK w).lookup 122 = some ⟨.type "function", none, .func (fdOf w 122), #[]⟩ := by kernel_rfl!
theorem ho_130 (w : World) : (KK w).lookup 130 = some ⟨.type "function", none, .func (fdOf w 130), #[]⟩ := by kernel_rfl!
theorem ho_138 (w : World) : (KK w).lookup 138 = some ⟨.type "function", none, .func (fdOf w 138), #[]⟩ := by kernel_rfl!
theorem ho_146 (w : World) : (KK w).lookup 146 = some ⟨.type "function", none, .func (fdOf w 146), #[]⟩ := by kernel_rfl!
theorem ho_153 (w : World) : (KK w).lookup 153 = some ⟨.type "function", none, .func (fdOf w 153), #[]⟩ := by kernel_rfl!
theorem ho_160 (w : World) : (KK w).lookup 160 = some ⟨.type "function", none, .func (fdOf w 160), #[]⟩ := by kernel_rfl!
theorem ho_168 (w : World) : (KK w).lookup 168 = some ⟨.type "function", none, .func (fdOf w 168), #[]⟩ := by kernel_rfl!
theorem ho_177 (w : World) : (KK w).lookup 177 = some ⟨.type "function", none, .func (fdOf w 177), #[]⟩ := by kernel_rfl!
theorem ho_184 (w : World) : (KK w).lookup 184 = some ⟨.type "function", none, .func (fdOf w 184), #[]⟩ := by kernel_rfl!
theorem ho_191 (w : World) : (KK w).lookup 191 = some ⟨.type "function", none, .func (fdOf w 191), #[]⟩ := by kernel_rfl!
theorem ho_198 (w : World) : (KK w).lookup 198 = some ⟨.type "function", none, .func (fdOf w 198), #[]⟩ := by kernel_rfl!
theorem ho_205 (w : World) : (KK w).lookup 205 = some ⟨.type "function", none, .func (fdOf w 205), #[]⟩ := by kernel_rfl!
theorem ho_212 (w : World) : (KK w).lookup 212 = some ⟨.type "function", none, .func (fdOf w 212), #[]⟩ := by kernel_rfl!
theorem ho_219 (w : World) : (KK w).lookup 219 = some ⟨.type "function", none, .func (fdOf w 219), #[]⟩ := by kernel_rfl!

theorem in_trailing_1 {w : World} {k : Nat} {a0 : V} {r : V} (D : Does PG w (KK w) k (scp w 21) [(Str.ofString "n", a0)] (execs (bdy w 21)) (.ret r)) : CallS PG w (KK w) (k + 1) 21 [a0] r := by
  refine callS_at (ho_21 w) (by kernel_rfl!) (fun news vs s R X => ?_) D
  cases R with | cons r0 R =>
  cases R
  rename_i x0
  exact ⟨[(Str.ofString "n", x0)], BindsTo.of_eq (by kernel_rfl!), by kernel_rfl!, .cons r0 (.nil)⟩
theorem in_n_normalize_6 {w : World} {k : Nat} {a0 a1 a2 a3 a4 a5 : V} {r : V} (D : Does PG w (KK w) k (scp w 38) [(Str.ofString "rnd", a5), (Str.ofString "prec", a4), (Str.ofString "bc", a3), (Str.ofString "exp", a2), (Str.ofString "man", a1), (Str.ofString "sign", a0)] (execs (bdy w 38)) (.ret r)) : CallS PG w (KK w) (k + 1) 38 [a0, a1, a2, a3, a4, a5] r := by
  refine callS_at (ho_38 w) (by kernel_rfl!) (fun news vs s R X => ?_) D
  cases R with | cons r0 R =>
  cases R with | cons r1 R =>
  cases R with | cons r2 R =>
  cases R with | cons r3 R =>
  cases R with | cons r4 R =>
  cases R with | cons r5 R =>
  cases R
  rename_i x0 x1 x2 x3 x4 x5
  exact ⟨[(Str.ofString "sign", x0), (Str.ofString "man", x1), (Str.ofString "exp", x2), (Str.ofString "bc", x3), (Str.ofString "prec", x4), (Str.ofString "rnd", x5)], BindsTo.of_eq (by kernel_rfl!), by kernel_rfl!, .cons r5 (.cons r4 (.cons r3 (.cons r2 (.cons r1 (.cons r0 (.nil))))))⟩
theorem in_normalize_6 {w : World} {k : Nat} {a0 a1 a2 a3 a4 a5 : V} {r : V} (D : Does PG w (KK w) k (scp w 45) [(Str.ofString "rnd", a5), (Str.ofString "prec", a4), (Str.ofString "bc", a3), (Str.ofString "exp", a2), (Str.ofString "man", a1), (Str.ofString "sign", a0)] (execs (bdy w 45)) (.ret r)) : CallS PG w (KK w) (k + 1) 45 [a0, a1, a2, a3, a4, a5] r := by
  refine callS_at (ho_45 w) (by kernel_rfl!) (fun news vs s R X => ?_) D
  cases R with | cons r0 R =>
  cases R with | cons r1 R =>
  cases R with | cons r2 R =>
  cases R with | cons r3 R =>
  cases R with | cons r4 R =>
  cases R with | cons r5 R =>
  cases R
  rename_i x0 x1 x2 x3 x4 x5
  exact ⟨[(Str.ofString "sign", x0), (Str.ofString "man", x1), (Str.ofString "exp", x2), (Str.ofString "bc", x3), (Str.ofString "prec", x4), (Str.ofString "rnd", x5)], BindsTo.of_eq (by kernel_rfl!), by kernel_rfl!, .cons r5 (.cons r4 (.cons r3 (.cons r2 (.cons r1 (.cons r0 (.nil))))))⟩
theorem in_from_man_exp_2 {w : World} {k : Nat} {a0 a1 : V} {r : V} (D : Does PG w (KK w) k (scp w 53) [(Str.ofString "rnd", .str (Str.ofString "d")), (Str.ofString "prec", .int 0), (Str.ofString "exp", a1), (Str.ofString "man", a0)] (execs (bdy w 53)) (.ret r)) : CallS PG w (KK w) (k + 1) 53 [a0, a1] r := by
  refine callS_at (ho_53 w) (by kernel_rfl!) (fun news vs s R X => ?_) D
  cases R with | cons r0 R =>
  cases R with | cons r1 R =>
  cases R
  rename_i x0 x1
  exact ⟨[(Str.ofString "man", x0), (Str.ofString "exp", x1), (Str.ofString "prec", Value.int 0 278), (Str.ofString "rnd", Value.str (Str.ofString "d") 210)], BindsTo.of_load (o := ⟨.type "tuple", none, .seq #[.int 0 278, .str (Str.ofString "d") 210] 0, #[]⟩) (X 46 _ (by kernel_rfl!)) (by kernel_rfl!) (by kernel_rfl!), by kernel_rfl!, .cons .str (.cons .int (.cons r1 (.cons r0 (.nil))))⟩
theorem in_from_man_exp_4 {w : World} {k : Nat} {a0 a1 a2 a3 : V} {r : V} (D : Does PG w (KK w) k (scp w 53) [(Str.ofString "rnd", a3), (Str.ofString "prec", a2), (Str.ofString "exp", a1), (Str.ofString "man", a0)] (execs (bdy w 53)) (.ret r)) : CallS PG w (KK w) (k + 1) 53 [a0, a1, a2, a3] r := by
  refine callS_at (ho_53 w) (by kernel_rfl!) (fun news vs s R X => ?_) D
  cases R with | cons r0 R =>
  cases R with | cons r1 R =>
  cases R with | cons r2 R =>
  cases R with | cons r3 R =>
  cases R
  rename_i x0 x1 x2 x3
  exact ⟨[(Str.ofString "man", x0), (Str.ofString "exp", x1), (Str.ofString "prec", x2), (Str.ofString "rnd", x3)], BindsTo.of_load (o := ⟨.type "tuple", none, .seq #[.int 0 278, .str (Str.ofString "d") 210] 0, #[]⟩) (X 46 _ (by kernel_rfl!)) (by kernel_rfl!) (by kernel_rfl!), by kernel_rfl!, .cons r3 (.cons r2 (.cons r1 (.cons r0 (.nil))))⟩
theorem in_mpf_cmp_2 {w : World} {k : Nat} {a0 a1 : V} {r : V} (D : Does PG w (KK w) k (scp w 68) [(Str.ofString "t", a1), (Str.ofString "s", a0)] (execs (bdy w 68)) (.ret r)) : CallS PG w (KK w) (k + 1) 68 [a0, a1] r := by
  refine callS_at (ho_68 w) (by kernel_rfl!) (fun news vs s R X => ?_) D
  cases R with | cons r0 R =>
  cases R with | cons r1 R =>
  cases R
  rename_i x0 x1
  exact ⟨[(Str.ofString "s", x0), (Str.ofString "t", x1)], BindsTo.of_eq (by kernel_rfl!), by kernel_rfl!, .cons r1 (.cons r0 (.nil))⟩
theorem in_mpf_lt_2 {w : World} {k : Nat} {a0 a1 : V} {r : V} (D : Does PG w (KK w) k (scp w 75) [(Str.ofString "t", a1), (Str.ofString "s", a0)] (execs (bdy w 75)) (.ret r)) : CallS PG w (KK w) (k + 1) 75 [a0, a1] r := by
  refine callS_at (ho_75 w) (by kernel_rfl!) (fun news vs s R X => ?_) D
  cases R with | cons r0 R =>
  cases R with | cons r1 R =>
  cases R
  rename_i x0 x1
  exact ⟨[(Str.ofString "s", x0), (Str.ofString "t", x1)], BindsTo.of_eq (by kernel_rfl!), by kernel_rfl!, .cons r1 (.cons r0 (.nil))⟩
theorem in_mpf_pos_3 {w : World} {k : Nat} {a0 a1 a2 : V} {r : V} (D : Does PG w (KK w) k (scp w 83) [(Str.ofString "rnd", a2), (Str.ofString "prec", a1), (Str.ofString "s", a0)] (execs (bdy w 83)) (.ret r)) : CallS PG w (KK w) (k + 1) 83 [a0, a1, a2] r := by
  refine callS_at (ho_83 w) (by kernel_rfl!) (fun news vs s R X => ?_) D
  cases R with | cons r0 R =>
  cases R with | cons r1 R =>
  cases R with | cons r2 R =>
  cases R
  rename_i x0 x1 x2
  exact ⟨[(Str.ofString "s", x0), (Str.ofString "prec", x1), (Str.ofString "rnd", x2)], BindsTo.of_load (o := ⟨.type "tuple", none, .seq #[.int 0 329, .str (Str.ofString "d") 210] 0, #[]⟩) (X 76 _ (by kernel_rfl!)) (by kernel_rfl!) (by kernel_rfl!), by kernel_rfl!, .cons r2 (.cons r1 (.cons r0 (.nil)))⟩
theorem in_mpf_neg_1 {w : World} {k : Nat} {a0 : V} {r : V} (D : Does PG w (KK w) k (scp w 91) [(Str.ofString "rnd", .str (Str.ofString "d")), (Str.ofString "prec", .int 0), (Str.ofString "s", a0)] (execs (bdy w 91)) (.ret r)) : CallS PG w (KK w) (k + 1) 91 [a0] r := by
  refine callS_at (ho_91 w) (by kernel_rfl!) (fun news vs s R X => ?_) D
  cases R with | cons r0 R =>
  cases R
  rename_i x0
  exact ⟨[(Str.ofString "s", x0), (Str.ofString "prec", Value.int 0 343), (Str.ofString "rnd", Value.str (Str.ofString "d") 210)], BindsTo.of_load (o := ⟨.type "tuple", none, .seq #[.int 0 343, .str (Str.ofString "d") 210] 0, #[]⟩) (X 84 _ (by kernel_rfl!)) (by kernel_rfl!) (by kernel_rfl!), by kernel_rfl!, .cons .str (.cons .int (.cons r0 (.nil)))⟩
theorem in_mpf_neg_3 {w : World} {k : Nat} {a0 a1 a2 : V} {r : V} (D : Does PG w (KK w) k (scp w 91) [(Str.ofString "rnd", a2), (Str.ofString "prec", a1), (Str.ofString "s", a0)] (execs (bdy w 91)) (.ret r)) : CallS PG w (KK w) (k + 1) 91 [a0, a1, a2] r := by
  refine callS_at (ho_91 w) (by kernel_rfl!) (fun news vs s R X => ?_) D
  cases R with | cons r0 R =>
  cases R with | cons r1 R =>
  cases R with | cons r2 R =>
  cases R
  rename_i x0 x1 x2
  exact ⟨[(Str.ofString "s", x0), (Str.ofString "prec", x1), (Str.ofString "rnd", x2)], BindsTo.of_load (o := ⟨.type "tuple", none, .seq #[.int 0 343, .str (Str.ofString "d") 210] 0, #[]⟩) (X 84 _ (by kernel_rfl!)) (by kernel_rfl!) (by kernel_rfl!), by kernel_rfl!, .cons r2 (.cons r1 (.cons r0 (.nil)))⟩
theorem in_mpf_abs_1 {w : World} {k : Nat} {a0 : V} {r : V} (D : Does PG w (KK w) k (scp w 99) [(Str.ofString "rnd", .str (Str.ofString "d")), (Str.ofString "prec", .int 0), (Str.ofString "s", a0)] (execs (bdy w 99)) (.ret r)) : CallS PG w (KK w) (k + 1) 99 [a0] r := by
  refine callS_at (ho_99 w) (by kernel_rfl!) (fun news vs s R X => ?_) D
  cases R with | cons r0 R =>
  cases R
  rename_i x0
  exact ⟨[(Str.ofString "s", x0), (Str.ofString "prec", Value.int 0 357), (Str.ofString "rnd", Value.str (Str.ofString "d") 210)], BindsTo.of_load (o := ⟨.type "tuple", none, .seq #[.int 0 357, .str (Str.ofString "d") 210] 0, #[]⟩) (X 92 _ (by kernel_rfl!)) (by kernel_rfl!) (by kernel_rfl!), by kernel_rfl!, .cons .str (.cons .int (.cons r0 (.nil)))⟩
theorem in_mpf_add_2 {w : World} {k : Nat} {a0 a1 : V} {r : V} (D : Does PG w (KK w) k (scp w 114) [(Str.ofString "_sub", .int 0), (Str.ofString "rnd", .str (Str.ofString "d")), (Str.ofString "prec", .int 0), (Str.ofString "t", a1), (Str.ofString "s", a0)] (execs (bdy w 114)) (.ret r)) : CallS PG w (KK w) (k + 1) 114 [a0, a1] r := by
  refine callS_at (ho_114 w) (by kernel_rfl!) (fun news vs s R X => ?_) D
  cases R with | cons r0 R =>
  cases R with | cons r1 R =>
  cases R
  rename_i x0 x1
  exact ⟨[(Str.ofString "s", x0), (Str.ofString "t", x1), (Str.ofString "prec", Value.int 0 382), (Str.ofString "rnd", Value.str (Str.ofString "d") 210), (Str.ofString "_sub", Value.int 0 383)], BindsTo.of_load (o := ⟨.type "tuple", none, .seq #[.int 0 382, .str (Str.ofString "d") 210, .int 0 383] 0, #[]⟩) (X 107 _ (by kernel_rfl!)) (by kernel_rfl!) (by kernel_rfl!), by kernel_rfl!, .cons .int (.cons .str (.cons .int (.cons r1 (.cons r0 (.nil)))))⟩
theorem in_mpf_add_4 {w : World} {k : Nat} {a0 a1 a2 a3 : V} {r : V} (D : Does PG w (KK w) k (scp w 114) [(Str.ofString "_sub", .int 0), (Str.ofString "rnd", a3), (Str.ofString "prec", a2), (Str.ofString "t", a1), (Str.ofString "s", a0)] (execs (bdy w 114)) (.ret r)) : CallS PG w (KK w) (k + 1) 114 [a0, a1, a2, a3] r := by
  refine callS_at (ho_114 w) (by kernel_rfl!) (fun news vs s R X => ?_) D
  cases R with | cons r0 R =>
  cases R with | cons r1 R =>
  cases R with | cons r2 R =>
  cases R with | cons r3 R =>
  cases R
  rename_i x0 x1 x2 x3
  exact ⟨[(Str.ofString "s", x0), (Str.ofString "t", x1), (Str.ofString "prec", x2), (Str.ofString "rnd", x3), (Str.ofString "_sub", Value.int 0 383)], BindsTo.of_load (o := ⟨.type "tuple", none, .seq #[.int 0 382, .str (Str.ofString "d") 210, .int 0 383] 0, #[]⟩) (X 107 _ (by kernel_rfl!)) (by kernel_rfl!) (by kernel_rfl!), by kernel_rfl!, .cons .int (.cons r3 (.cons r2 (.cons r1 (.cons r0 (.nil)))))⟩
theorem in_mpf_add_5 {w : World} {k : Nat} {a0 a1 a2 a3 a4 : V} {r : V} (D : Does PG w (KK w) k (scp w 114) [(Str.ofString "_sub", a4), (Str.ofString "rnd", a3), (Str.ofString "prec", a2), (Str.ofString "t", a1), (Str.ofString "s", a0)] (execs (bdy w 114)) (.ret r)) : CallS PG w (KK w) (k + 1) 114 [a0, a1, a2, a3, a4] r := by
  refine callS_at (ho_114 w) (by kernel_rfl!) (fun news vs s R X => ?_) D
  cases R with | cons r0 R =>
  cases R with | cons r1 R =>
  cases R with | cons r2 R =>
  cases R with | cons r3 R =>
  cases R with | cons r4 R =>
  cases R
  rename_i x0 x1 x2 x3 x4
  exact ⟨[(Str.ofString "s", x0), (Str.ofString "t", x1), (Str.ofString "prec", x2), (Str.ofString "rnd", x3), (Str.ofString "_sub", x4)], BindsTo.of_load (o := ⟨.type "tuple", none, .seq #[.int 0 382, .str (Str.ofString "d") 210, .int 0 383] 0, #[]⟩) (X 107 _ (by kernel_rfl!)) (by kernel_rfl!) (by kernel_rfl!), by kernel_rfl!, .cons r4 (.cons r3 (.cons r2 (.cons r1 (.cons r0 (.nil)))))⟩
theorem in_mpf_sub_2 {w : World} {k : Nat} {a0 a1 : V} {r : V} (D : Does PG w (KK w) k (scp w 122) [(Str.ofString "rnd", .str (Str.ofString "d")), (Str.ofString "prec", .int 0), (Str.ofString "t", a1), (Str.ofString "s", a0)] (execs (bdy w 122)) (.ret r)) : CallS PG w (KK w) (k + 1) 122 [a0, a1] r := by
  refine callS_at (ho_122 w) (by kernel_rfl!) (fun news vs s R X => ?_) D
  cases R with | cons r0 R =>
  cases R with | cons r1 R =>
  cases R
  rename_i x0 x1
  exact ⟨[(Str.ofString "s", x0), (Str.ofString "t", x1), (Str.ofString "prec", Value.int 0 407), (Str.ofString "rnd", Value.str (Str.ofString "d") 210)], BindsTo.of_load (o := ⟨.type "tuple", none, .seq #[.int 0 407, .str (Str.ofString "d") 210] 0, #[]⟩) (X 115 _ (by kernel_rfl!)) (by kernel_rfl!) (by kernel_rfl!), by kernel_rfl!, .cons .str (.cons .int (.cons r1 (.cons r0 (.nil))))⟩
theorem in_mpf_sub_4 {w : World} {k : Nat} {a0 a1 a2 a3 : V} {r : V} (D : Does PG w (KK w) k (scp w 122) [(Str.ofString "rnd", a3), (Str.ofString "prec", a2), (Str.ofString "t", a1), (Str.ofString "s", a0)] (execs (bdy w 122)) (.ret r)) : CallS PG w (KK w) (k + 1) 122 [a0, a1, a2, a3] r := by
  refine callS_at (ho_122 w) (by kernel_rfl!) (fun news vs s R X => ?_) D
  cases R with | cons r0 R =>
  cases R with | cons r1 R =>
  cases R with | cons r2 R =>
  cases R with | cons r3 R =>
  cases R
  rename_i x0 x1 x2 x3
  exact ⟨[(Str.ofString "s", x0), (Str.ofString "t", x1), (Str.ofString "prec", x2), (Str.ofString "rnd", x3)], BindsTo.of_load (o := ⟨.type "tuple", none, .seq #[.int 0 407, .str (Str.ofString "d") 210] 0, #[]⟩) (X 115 _ (by kernel_rfl!)) (by kernel_rfl!) (by kernel_rfl!), by kernel_rfl!, .cons r3 (.cons r2 (.cons r1 (.cons r0 (.nil))))⟩
theorem in_mpf_sum_3 {w : World} {k : Nat} {a0 a1 a2 : V} {r : V} (D : Does PG w (KK w) k (scp w 130) [(Str.ofString "absolute", .bool false), (Str.ofString "rnd", a2), (Str.ofString "prec", a1), (Str.ofString "xs", a0)] (execs (bdy w 130)) (.ret r)) : CallS PG w (KK w) (k + 1) 130 [a0, a1, a2] r := by
  refine callS_at (ho_130 w) (by kernel_rfl!) (fun news vs s R X => ?_) D
  cases R with | cons r0 R =>
  cases R with | cons r1 R =>
  cases R with | cons r2 R =>
  cases R
  rename_i x0 x1 x2
  exact ⟨[(Str.ofString "xs", x0), (Str.ofString "prec", x1), (Str.ofString "rnd", x2), (Str.ofString "absolute", Value.bool false)], BindsTo.of_load (o := ⟨.type "tuple", none, .seq #[.int 0 418, .str (Str.ofString "d") 210, .bool false] 0, #[]⟩) (X 123 _ (by kernel_rfl!)) (by kernel_rfl!) (by kernel_rfl!), by kernel_rfl!, .cons .bool (.cons r2 (.cons r1 (.cons r0 (.nil))))⟩
theorem in_mpf_mul_2 {w : World} {k : Nat} {a0 a1 : V} {r : V} (D : Does PG w (KK w) k (scp w 138) [(Str.ofString "rnd", .str (Str.ofString "d")), (Str.ofString "prec", .int 0), (Str.ofString "t", a1), (Str.ofString "s", a0)] (execs (bdy w 138)) (.ret r)) : CallS PG w (KK w) (k + 1) 138 [a0, a1] r := by
  refine callS_at (ho_138 w) (by kernel_rfl!) (fun news vs s R X => ?_) D
  cases R with | cons r0 R =>
  cases R with | cons r1 R =>
  cases R
  rename_i x0 x1
  exact ⟨[(Str.ofString "s", x0), (Str.ofString "t", x1), (Str.ofString "prec", Value.int 0 439), (Str.ofString "rnd", Value.str (Str.ofString "d") 210)], BindsTo.of_load (o := ⟨.type "tuple", none, .seq #[.int 0 439, .str (Str.ofString "d") 210] 0, #[]⟩) (X 131 _ (by kernel_rfl!)) (by kernel_rfl!) (by kernel_rfl!), by kernel_rfl!, .cons .str (.cons .int (.cons r1 (.cons r0 (.nil))))⟩
theorem in_mpf_mul_4 {w : World} {k : Nat} {a0 a1 a2 a3 : V} {r : V} (D : Does PG w (KK w) k (scp w 138) [(Str.ofString "rnd", a3), (Str.ofString "prec", a2), (Str.ofString "t", a1), (Str.ofString "s", a0)] (execs (bdy w 138)) (.ret r)) : CallS PG w (KK w) (k + 1) 138 [a0, a1, a2, a3] r := by
  refine callS_at (ho_138 w) (by kernel_rfl!) (fun news vs s R X => ?_) D
  cases R with | cons r0 R =>
  cases R with | cons r1 R =>
  cases R with | cons r2 R =>
  cases R with | cons r3 R =>
  cases R
  rename_i x0 x1 x2 x3
  exact ⟨[(Str.ofString "s", x0), (Str.ofString "t", x1), (Str.ofString "prec", x2), (Str.ofString "rnd", x3)], BindsTo.of_load (o := ⟨.type "tuple", none, .seq #[.int 0 439, .str (Str.ofString "d") 210] 0, #[]⟩) (X 131 _ (by kernel_rfl!)) (by kernel_rfl!) (by kernel_rfl!), by kernel_rfl!, .cons r3 (.cons r2 (.cons r1 (.cons r0 (.nil))))⟩
theorem in_mpf_mul_int_4 {w : World} {k : Nat} {a0 a1 a2 a3 : V} {r : V} (D : Does PG w (KK w) k (scp w 146) [(Str.ofString "rnd", a3), (Str.ofString "prec", a2), (Str.ofString "n", a1), (Str.ofString "s", a0)] (execs (bdy w 146)) (.ret r)) : CallS PG w (KK w) (k + 1) 146 [a0, a1, a2, a3] r := by
  refine callS_at (ho_146 w) (by kernel_rfl!) (fun news vs s R X => ?_) D
  cases R with | cons r0 R =>
  cases R with | cons r1 R =>
  cases R with | cons r2 R =>
  cases R with | cons r3 R =>
  cases R
  rename_i x0 x1 x2 x3
  exact ⟨[(Str.ofString "s", x0), (Str.ofString "n", x1), (Str.ofString "prec", x2), (Str.ofString "rnd", x3)], BindsTo.of_load (o := ⟨.type "tuple", none, .seq #[.str (Str.ofString "d") 210] 0, #[]⟩) (X 139 _ (by kernel_rfl!)) (by kernel_rfl!) (by kernel_rfl!), by kernel_rfl!, .cons r3 (.cons r2 (.cons r1 (.cons r0 (.nil))))⟩
theorem in_mpf_shift_2 {w : World} {k : Nat} {a0 a1 : V} {r : V} (D : Does PG w (KK w) k (scp w 153) [(Str.ofString "n", a1), (Str.ofString "s", a0)] (execs (bdy w 153)) (.ret r)) : CallS PG w (KK w) (k + 1) 153 [a0, a1] r := by
  refine callS_at (ho_153 w) (by kernel_rfl!) (fun news vs s R X => ?_) D
  cases R with | cons r0 R =>
  cases R with | cons r1 R =>
  cases R
  rename_i x0 x1
  exact ⟨[(Str.ofString "s", x0), (Str.ofString "n", x1)], BindsTo.of_eq (by kernel_rfl!), by kernel_rfl!, .cons r1 (.cons r0 (.nil))⟩
theorem in_mpf_frexp_1 {w : World} {k : Nat} {a0 : V} {r : V} (D : Does PG w (KK w) k (scp w 160) [(Str.ofString "x", a0)] (execs (bdy w 160)) (.ret r)) : CallS PG w (KK w) (k + 1) 160 [a0] r := by
  refine callS_at (ho_160 w) (by kernel_rfl!) (fun news vs s R X => ?_) D
  cases R with | cons r0 R =>
  cases R
  rename_i x0
  exact ⟨[(Str.ofString "x", x0)], BindsTo.of_eq (by kernel_rfl!), by kernel_rfl!, .cons r0 (.nil)⟩
theorem in_mpf_div_4 {w : World} {k : Nat} {a0 a1 a2 a3 : V} {r : V} (D : Does PG w (KK w) k (scp w 168) [(Str.ofString "rnd", a3), (Str.ofString "prec", a2), (Str.ofString "t", a1), (Str.ofString "s", a0)] (execs (bdy w 168)) (.ret r)) : CallS PG w (KK w) (k + 1) 168 [a0, a1, a2, a3] r := by
  refine callS_at (ho_168 w) (by kernel_rfl!) (fun news vs s R X => ?_) D
  cases R with | cons r0 R =>
  cases R with | cons r1 R =>
  cases R with | cons r2 R =>
  cases R with | cons r3 R =>
  cases R
  rename_i x0 x1 x2 x3
  exact ⟨[(Str.ofString "s", x0), (Str.ofString "t", x1), (Str.ofString "prec", x2), (Str.ofString "rnd", x3)], BindsTo.of_load (o := ⟨.type "tuple", none, .seq #[.str (Str.ofString "d") 210] 0, #[]⟩) (X 161 _ (by kernel_rfl!)) (by kernel_rfl!) (by kernel_rfl!), by kernel_rfl!, .cons r3 (.cons r2 (.cons r1 (.cons r0 (.nil))))⟩
theorem in_mpf_pow_int_4 {w : World} {k : Nat} {a0 a1 a2 a3 : V} {r : V} (D : Does PG w (KK w) k (scp w 177) [(Str.ofString "rnd", a3), (Str.ofString "prec", a2), (Str.ofString "n", a1), (Str.ofString "s", a0)] (execs (bdy w 177)) (.ret r)) : CallS PG w (KK w) (k + 1) 177 [a0, a1, a2, a3] r := by
  refine callS_at (ho_177 w) (by kernel_rfl!) (fun news vs s R X => ?_) D
  cases R with | cons r0 R =>
  cases R with | cons r1 R =>
  cases R with | cons r2 R =>
  cases R with | cons r3 R =>
  cases R
  rename_i x0 x1 x2 x3
  exact ⟨[(Str.ofString "s", x0), (Str.ofString "n", x1), (Str.ofString "prec", x2), (Str.ofString "rnd", x3)], BindsTo.of_load (o := ⟨.type "tuple", none, .seq #[.str (Str.ofString "d") 210] 0, #[]⟩) (X 170 _ (by kernel_rfl!)) (by kernel_rfl!) (by kernel_rfl!), by kernel_rfl!, .cons r3 (.cons r2 (.cons r1 (.cons r0 (.nil))))⟩
theorem in_mpf_perturb_4 {w : World} {k : Nat} {a0 a1 a2 a3 : V} {r : V} (D : Does PG w (KK w) k (scp w 184) [(Str.ofString "rnd", a3), (Str.ofString "prec", a2), (Str.ofString "eps_sign", a1), (Str.ofString "x", a0)] (execs (bdy w 184)) (.ret r)) : CallS PG w (KK w) (k + 1) 184 [a0, a1, a2, a3] r := by
  refine callS_at (ho_184 w) (by kernel_rfl!) (fun news vs s R X => ?_) D
  cases R with | cons r0 R =>
  cases R with | cons r1 R =>
  cases R with | cons r2 R =>
  cases R with | cons r3 R =>
  cases R
  rename_i x0 x1 x2 x3
  exact ⟨[(Str.ofString "x", x0), (Str.ofString "eps_sign", x1), (Str.ofString "prec", x2), (Str.ofString "rnd", x3)], BindsTo.of_eq (by kernel_rfl!), by kernel_rfl!, .cons r3 (.cons r2 (.cons r1 (.cons r0 (.nil))))⟩
theorem in_law_rung_3 {w : World} {k : Nat} {a0 a1 a2 : V} {r : V} (D : Does PG w (KK w) k (scp w 191) [(Str.ofString "minus", a2), (Str.ofString "p", a1), (Str.ofString "rank", a0)] (execs (bdy w 191)) (.ret r)) : CallS PG w (KK w) (k + 1) 191 [a0, a1, a2] r := by
  refine callS_at (ho_191 w) (by kernel_rfl!) (fun news vs s R X => ?_) D
  cases R with | cons r0 R =>
  cases R with | cons r1 R =>
  cases R with | cons r2 R =>
  cases R
  rename_i x0 x1 x2
  exact ⟨[(Str.ofString "rank", x0), (Str.ofString "p", x1), (Str.ofString "minus", x2)], BindsTo.of_eq (by kernel_rfl!), by kernel_rfl!, .cons r2 (.cons r1 (.cons r0 (.nil)))⟩
theorem in_law_outward_2 {w : World} {k : Nat} {a0 a1 : V} {r : V} (D : Does PG w (KK w) k (scp w 198) [(Str.ofString "way", a1), (Str.ofString "minus", a0)] (execs (bdy w 198)) (.ret r)) : CallS PG w (KK w) (k + 1) 198 [a0, a1] r := by
  refine callS_at (ho_198 w) (by kernel_rfl!) (fun news vs s R X => ?_) D
  cases R with | cons r0 R =>
  cases R with | cons r1 R =>
  cases R
  rename_i x0 x1
  exact ⟨[(Str.ofString "minus", x0), (Str.ofString "way", x1)], BindsTo.of_eq (by kernel_rfl!), by kernel_rfl!, .cons r1 (.cons r0 (.nil))⟩
theorem in_law_step_3 {w : World} {k : Nat} {a0 a1 a2 : V} {r : V} (D : Does PG w (KK w) k (scp w 205) [(Str.ofString "way", a2), (Str.ofString "eps", a1), (Str.ofString "minus", a0)] (execs (bdy w 205)) (.ret r)) : CallS PG w (KK w) (k + 1) 205 [a0, a1, a2] r := by
  refine callS_at (ho_205 w) (by kernel_rfl!) (fun news vs s R X => ?_) D
  cases R with | cons r0 R =>
  cases R with | cons r1 R =>
  cases R with | cons r2 R =>
  cases R
  rename_i x0 x1 x2
  exact ⟨[(Str.ofString "minus", x0), (Str.ofString "eps", x1), (Str.ofString "way", x2)], BindsTo.of_eq (by kernel_rfl!), by kernel_rfl!, .cons r2 (.cons r1 (.cons r0 (.nil)))⟩
theorem in_law_higher_6 {w : World} {k : Nat} {a0 a1 a2 a3 a4 a5 : V} {r : V} (D : Does PG w (KK w) k (scp w 212) [(Str.ofString "way", a5), (Str.ofString "minus", a4), (Str.ofString "p", a3), (Str.ofString "rank", a2), (Str.ofString "b", a1), (Str.ofString "a", a0)] (execs (bdy w 212)) (.ret r)) : CallS PG w (KK w) (k + 1) 212 [a0, a1, a2, a3, a4, a5] r := by
  refine callS_at (ho_212 w) (by kernel_rfl!) (fun news vs s R X => ?_) D
  cases R with | cons r0 R =>
  cases R with | cons r1 R =>
  cases R with | cons r2 R =>
  cases R with | cons r3 R =>
  cases R with | cons r4 R =>
  cases R with | cons r5 R =>
  cases R
  rename_i x0 x1 x2 x3 x4 x5
  exact ⟨[(Str.ofString "a", x0), (Str.ofString "b", x1), (Str.ofString "rank", x2), (Str.ofString "p", x3), (Str.ofString "minus", x4), (Str.ofString "way", x5)], BindsTo.of_eq (by kernel_rfl!), by kernel_rfl!, .cons r5 (.cons r4 (.cons r3 (.cons r2 (.cons r1 (.cons r0 (.nil))))))⟩
theorem in_law_roads_3 {w : World} {k : Nat} {a0 a1 a2 : V} {r : V} (D : Does PG w (KK w) k (scp w 219) [(Str.ofString "way", a2), (Str.ofString "p", a1), (Str.ofString "y", a0)] (execs (bdy w 219)) (.ret r)) : CallS PG w (KK w) (k + 1) 219 [a0, a1, a2] r := by
  refine callS_at (ho_219 w) (by kernel_rfl!) (fun news vs s R X => ?_) D
  cases R with | cons r0 R =>
  cases R with | cons r1 R =>
  cases R with | cons r2 R =>
  cases R
  rename_i x0 x1 x2
  exact ⟨[(Str.ofString "y", x0), (Str.ofString "p", x1), (Str.ofString "way", x2)], BindsTo.of_eq (by kernel_rfl!), by kernel_rfl!, .cons r2 (.cons r1 (.cons r0 (.nil)))⟩

abbrev Dz (w : World) (k : Nat) (a : Addr) (en : En) (ss : List Stmt) (fl : Fl) : Prop := Does PG w (KK w) k (scp w a) en (execs ss) fl
abbrev Ez (w : World) (k : Nat) (a : Addr) (en : En) (s : Stmt) (en2 : En) : Prop := Does PG w (KK w) k (scp w a) en (exec s) (.next en2)
abbrev Cz (w : World) (k : Nat) (a : Addr) (args : List V) (r : V) : Prop := CallS PG w (KK w) k a args r
noncomputable abbrev cx (w : World) (k : Nat) (a : Addr) : Cx := ⟨scp w a, CallS PG w (KK w) k, tab, fun en ss fl => Does PG w (KK w) k (scp w a) en (execs ss) fl, fun en s en2 => Does PG w (KK w) k (scp w a) en (exec s) (.next en2)⟩
theorem run {w : World} {k : Nat} {a : Addr} {en : En} {ss : List Stmt} (tk : List Tk) {fl : Fl} {ps : List Prop} (h : evS 60 0 (cx w k a) en tk ss = some (fl, [], ps)) (hp : All ps) : Dz w k a en ss fl := evS_ok (tab_ok w) 60 0 en tk ss fl [] ps h hp
end Mine
end
section
set_option Elab.async false
set_option maxRecDepth 100000
set_option autoImplicit false
set_option linter.unusedVariables false
open PySem PySem.W PySem.Calls PyProof.Rows PySem.Spec
namespace Mine
@[irreducible] noncomputable def sumBody (w : World) : List Stmt := match ((bdy w 130).drop 4).headD default with
  | .For _ _ b _ _ => b
  | _ => []
theorem r_trailing {w : World} {k : Nat} {n : Int} (h : All [(n != (0 : Int)) = true]) : Dz w k 21 [(Str.ofString "n", V.int n)] (bdy w 21) (Fl.ret (V.int (↑(Builtin.Int.intBits (Builtin.bitAnd n (-n))) - (1 : Int)))) := run [Tk.t] (by kernel_rfl!) h
theorem r_nz_le {w : World} {k : Nat} {sign man exp bc prec : Int} {rnd : Str} {r : V} (h : All [(man != (0 : Int)) = true, decide ((0 : Int) < bc - prec) = false, Dz w k (38 : Addr) [(Str.ofString "rnd", V.str rnd), (Str.ofString "prec", V.int prec), (Str.ofString "bc", V.int bc), (Str.ofString "exp", V.int exp), (Str.ofString "man", V.int man), (Str.ofString "sign", V.int sign), (Str.ofString "n", V.int (bc - prec))] (List.drop 3 (bdy w 38)) (Fl.ret r)]) : Dz w k 38 [(Str.ofString "rnd", V.str rnd), (Str.ofString "prec", V.int prec), (Str.ofString "bc", V.int bc), (Str.ofString "exp", V.int exp), (Str.ofString "man", V.int man), (Str.ofString "sign", V.int sign)] (bdy w 38) (Fl.ret r) := run [Tk.t, Tk.f, Tk.c 0 (Fl.ret r)] (by kernel_rfl!) h
theorem r_nz_n_dn {w : World} {k : Nat} {sign man exp bc prec : Int} {r : V} (h : All [(man != (0 : Int)) = true, decide ((0 : Int) < bc - prec) = true, (Str.ofString "n" == Str.ofString "n") = true, (0 : Int) ≤ bc - prec - (1 : Int), (Builtin.bitAnd (Int.fdiv man ((2 : Int) ^ Int.toNat (bc - prec - (1 : Int)))) (1 : Int) != (0 : Int)) = false, (0 : Int) ≤ (1 : Int), Dz w k (38 : Addr) [(Str.ofString "rnd", V.str (Str.ofString "n")), (Str.ofString "prec", V.int prec), (Str.ofString "bc", V.int prec), (Str.ofString "exp", V.int (exp + (bc - prec))), (Str.ofString "man", V.int (Int.fdiv (Int.fdiv man ((2 : Int) ^ Int.toNat (bc - prec - (1 : Int)))) ((2 : Int) ^ Int.toNat (1 : Int)))), (Str.ofString "sign", V.int sign), (Str.ofString "n", V.int (bc - prec)), (Str.ofString "t", V.int (Int.fdiv man ((2 : Int) ^ Int.toNat (bc - prec - (1 : Int)))))] (List.drop 3 (bdy w 38)) (Fl.ret r)]) : Dz w k 38 [(Str.ofString "rnd", V.str "n"), (Str.ofString "prec", V.int prec), (Str.ofString "bc", V.int bc), (Str.ofString "exp", V.int exp), (Str.ofString "man", V.int man), (Str.ofString "sign", V.int sign)] (bdy w 38) (Fl.ret r) := run [Tk.t, Tk.t, Tk.t, Tk.f, Tk.c 0 (Fl.ret r)] (by kernel_rfl!) h
theorem r_nz_n_up1 {w : World} {k : Nat} {sign man exp bc prec : Int} {r : V} (h : All [(man != (0 : Int)) = true, decide ((0 : Int) < bc - prec) = true, (Str.ofString "n" == Str.ofString "n") = true, (0 : Int) ≤ bc - prec - (1 : Int), (Builtin.bitAnd (Int.fdiv man ((2 : Int) ^ Int.toNat (bc - prec - (1 : Int)))) (1 : Int) != (0 : Int)) = true, (Builtin.bitAnd (Int.fdiv man ((2 : Int) ^ Int.toNat (bc - prec - (1 : Int)))) (2 : Int) != (0 : Int)) = true, (0 : Int) ≤ (1 : Int), Dz w k (38 : Addr) [(Str.ofString "rnd", V.str (Str.ofString "n")), (Str.ofString "prec", V.int prec), (Str.ofString "bc", V.int prec), (Str.ofString "exp", V.int (exp + (bc - prec))), (Str.ofString "man", V.int (Int.fdiv (Int.fdiv man ((2 : Int) ^ Int.toNat (bc - prec - (1 : Int)))) ((2 : Int) ^ Int.toNat (1 : Int)) + (1 : Int))), (Str.ofString "sign", V.int sign), (Str.ofString "n", V.int (bc - prec)), (Str.ofString "t", V.int (Int.fdiv man ((2 : Int) ^ Int.toNat (bc - prec - (1 : Int)))))] (List.drop 3 (bdy w 38)) (Fl.ret r)]) : Dz w k 38 [(Str.ofString "rnd", V.str "n"), (Str.ofString "prec", V.int prec), (Str.ofString "bc", V.int bc), (Str.ofString "exp", V.int exp), (Str.ofString "man", V.int man), (Str.ofString "sign", V.int sign)] (bdy w 38) (Fl.ret r) := run [Tk.t, Tk.t, Tk.t, Tk.t, Tk.t, Tk.c 0 (Fl.ret r)] (by kernel_rfl!) h
theorem r_nz_n_up2 {w : World} {k : Nat} {sign man exp bc prec : Int} {r : V} (h : All [(man != (0 : Int)) = true, decide ((0 : Int) < bc - prec) = true, (Str.ofString "n" == Str.ofString "n") = true, (0 : Int) ≤ bc - prec - (1 : Int), (Builtin.bitAnd (Int.fdiv man ((2 : Int) ^ Int.toNat (bc - prec - (1 : Int)))) (1 : Int) != (0 : Int)) = true, (Builtin.bitAnd (Int.fdiv man ((2 : Int) ^ Int.toNat (bc - prec - (1 : Int)))) (2 : Int) != (0 : Int)) = false, ShOk (1 : Int) (bc - prec - (1 : Int)), (Builtin.bitAnd man ((1 : Int) * (2 : Int) ^ Int.toNat (bc - prec - (1 : Int)) - (1 : Int)) != (0 : Int)) = true, (0 : Int) ≤ (1 : Int), Dz w k (38 : Addr) [(Str.ofString "rnd", V.str (Str.ofString "n")), (Str.ofString "prec", V.int prec), (Str.ofString "bc", V.int prec), (Str.ofString "exp", V.int (exp + (bc - prec))), (Str.ofString "man", V.int (Int.fdiv (Int.fdiv man ((2 : Int) ^ Int.toNat (bc - prec - (1 : Int)))) ((2 : Int) ^ Int.toNat (1 : Int)) + (1 : Int))), (Str.ofString "sign", V.int sign), (Str.ofString "n", V.int (bc - prec)), (Str.ofString "t", V.int (Int.fdiv man ((2 : Int) ^ Int.toNat (bc - prec - (1 : Int)))))] (List.drop 3 (bdy w 38)) (Fl.ret r)]) : Dz w k 38 [(Str.ofString "rnd", V.str "n"), (Str.ofString "prec", V.int prec), (Str.ofString "bc", V.int bc), (Str.ofString "exp", V.int exp), (Str.ofString "man", V.int man), (Str.ofString "sign", V.int sign)] (bdy w 38) (Fl.ret r) := run [Tk.t, Tk.t, Tk.t, Tk.t, Tk.f, Tk.t, Tk.c 0 (Fl.ret r)] (by kernel_rfl!) h
theorem r_nz_n_tie {w : World} {k : Nat} {sign man exp bc prec : Int} {r : V} (h : All [(man != (0 : Int)) = true, decide ((0 : Int) < bc - prec) = true, (Str.ofString "n" == Str.ofString "n") = true, (0 : Int) ≤ bc - prec - (1 : Int), (Builtin.bitAnd (Int.fdiv man ((2 : Int) ^ Int.toNat (bc - prec - (1 : Int)))) (1 : Int) != (0 : Int)) = true, (Builtin.bitAnd (Int.fdiv man ((2 : Int) ^ Int.toNat (bc - prec - (1 : Int)))) (2 : Int) != (0 : Int)) = false, ShOk (1 : Int) (bc - prec - (1 : Int)), (Builtin.bitAnd man ((1 : Int) * (2 : Int) ^ Int.toNat (bc - prec - (1 : Int)) - (1 : Int)) != (0 : Int)) = false, (0 : Int) ≤ (1 : Int), Dz w k (38 : Addr) [(Str.ofString "rnd", V.str (Str.ofString "n")), (Str.ofString "prec", V.int prec), (Str.ofString "bc", V.int prec), (Str.ofString "exp", V.int (exp + (bc - prec))), (Str.ofString "man", V.int (Int.fdiv (Int.fdiv man ((2 : Int) ^ Int.toNat (bc - prec - (1 : Int)))) ((2 : Int) ^ Int.toNat (1 : Int)))), (Str.ofString "sign", V.int sign), (Str.ofString "n", V.int (bc - prec)), (Str.ofString "t", V.int (Int.fdiv man ((2 : Int) ^ Int.toNat (bc - prec - (1 : Int)))))] (List.drop 3 (bdy w 38)) (Fl.ret r)]) : Dz w k 38 [(Str.ofString "rnd", V.str "n"), (Str.ofString "prec", V.int prec), (Str.ofString "bc", V.int bc), (Str.ofString "exp", V.int exp), (Str.ofString "man", V.int man), (Str.ofString "sign", V.int sign)] (bdy w 38) (Fl.ret r) := run [Tk.t, Tk.t, Tk.t, Tk.t, Tk.f, Tk.f, Tk.c 0 (Fl.ret r)] (by kernel_rfl!) h
theorem r_nz_f0 {w : World} {k : Nat} {man exp bc prec : Int} {r : V} (h : All [(man != (0 : Int)) = true, decide ((0 : Int) < bc - prec) = true, (Str.ofString "f" == Str.ofString "n") = false, ((1 : Int) != (0 : Int)) = true, (0 : Int) ≤ bc - prec, Dz w k (38 : Addr) [(Str.ofString "rnd", V.str (Str.ofString "f")), (Str.ofString "prec", V.int prec), (Str.ofString "bc", V.int prec), (Str.ofString "exp", V.int (exp + (bc - prec))), (Str.ofString "man", V.int (Int.fdiv man ((2 : Int) ^ Int.toNat (bc - prec)))), (Str.ofString "sign", V.int (0 : Int)), (Str.ofString "n", V.int (bc - prec))] (List.drop 3 (bdy w 38)) (Fl.ret r)]) : Dz w k 38 [(Str.ofString "rnd", V.str "f"), (Str.ofString "prec", V.int prec), (Str.ofString "bc", V.int bc), (Str.ofString "exp", V.int exp), (Str.ofString "man", V.int man), (Str.ofString "sign", V.int 0)] (bdy w 38) (Fl.ret r) := run [Tk.t, Tk.t, Tk.f, Tk.t, Tk.c 0 (Fl.ret r)] (by kernel_rfl!) h
theorem r_nz_f1 {w : World} {k : Nat} {man exp bc prec : Int} {r : V} (h : All [(man != (0 : Int)) = true, decide ((0 : Int) < bc - prec) = true, (Str.ofString "f" == Str.ofString "n") = false, ((0 : Int) != (0 : Int)) = false, (0 : Int) ≤ bc - prec, Dz w k (38 : Addr) [(Str.ofString "rnd", V.str (Str.ofString "f")), (Str.ofString "prec", V.int prec), (Str.ofString "bc", V.int prec), (Str.ofString "exp", V.int (exp + (bc - prec))), (Str.ofString "man", V.int (-Int.fdiv (-man) ((2 : Int) ^ Int.toNat (bc - prec)))), (Str.ofString "sign", V.int (1 : Int)), (Str.ofString "n", V.int (bc - prec))] (List.drop 3 (bdy w 38)) (Fl.ret r)]) : Dz w k 38 [(Str.ofString "rnd", V.str "f"), (Str.ofString "prec", V.int prec), (Str.ofString "bc", V.int bc), (Str.ofString "exp", V.int exp), (Str.ofString "man", V.int man), (Str.ofString "sign", V.int 1)] (bdy w 38) (Fl.ret r) := run [Tk.t, Tk.t, Tk.f, Tk.f, Tk.c 0 (Fl.ret r)] (by kernel_rfl!) h
theorem r_nz_c0 {w : World} {k : Nat} {man exp bc prec : Int} {r : V} (h : All [(man != (0 : Int)) = true, decide ((0 : Int) < bc - prec) = true, (Str.ofString "c" == Str.ofString "n") = false, ((0 : Int) != (0 : Int)) = false, (0 : Int) ≤ bc - prec, Dz w k (38 : Addr) [(Str.ofString "rnd", V.str (Str.ofString "c")), (Str.ofString "prec", V.int prec), (Str.ofString "bc", V.int prec), (Str.ofString "exp", V.int (exp + (bc - prec))), (Str.ofString "man", V.int (-Int.fdiv (-man) ((2 : Int) ^ Int.toNat (bc - prec)))), (Str.ofString "sign", V.int (0 : Int)), (Str.ofString "n", V.int (bc - prec))] (List.drop 3 (bdy w 38)) (Fl.ret r)]) : Dz w k 38 [(Str.ofString "rnd", V.str "c"), (Str.ofString "prec", V.int prec), (Str.ofString "bc", V.int bc), (Str.ofString "exp", V.int exp), (Str.ofString "man", V.int man), (Str.ofString "sign", V.int 0)] (bdy w 38) (Fl.ret r) := run [Tk.t, Tk.t, Tk.f, Tk.f, Tk.c 0 (Fl.ret r)] (by kernel_rfl!) h
theorem r_nz_c1 {w : World} {k : Nat} {man exp bc prec : Int} {r : V} (h : All [(man != (0 : Int)) = true, decide ((0 : Int) < bc - prec) = true, (Str.ofString "c" == Str.ofString "n") = false, ((1 : Int) != (0 : Int)) = true, (0 : Int) ≤ bc - prec, Dz w k (38 : Addr) [(Str.ofString "rnd", V.str (Str.ofString "c")), (Str.ofString "prec", V.int prec), (Str.ofString "bc", V.int prec), (Str.ofString "exp", V.int (exp + (bc - prec))), (Str.ofString "man", V.int (Int.fdiv man ((2 : Int) ^ Int.toNat (bc - prec)))), (Str.ofString "sign", V.int (1 : Int)), (Str.ofString "n", V.int (bc - prec))] (List.drop 3 (bdy w 38)) (Fl.ret r)]) : Dz w k 38 [(Str.ofString "rnd", V.str "c"), (Str.ofString "prec", V.int prec), (Str.ofString "bc", V.int bc), (Str.ofString "exp", V.int exp), (Str.ofString "man", V.int man), (Str.ofString "sign", V.int 1)] (bdy w 38) (Fl.ret r) := run [Tk.t, Tk.t, Tk.f, Tk.t, Tk.c 0 (Fl.ret r)] (by kernel_rfl!) h
theorem r_nz_d0 {w : World} {k : Nat} {man exp bc prec : Int} {r : V} (h : All [(man != (0 : Int)) = true, decide ((0 : Int) < bc - prec) = true, (Str.ofString "d" == Str.ofString "n") = false, ((1 : Int) != (0 : Int)) = true, (0 : Int) ≤ bc - prec, Dz w k (38 : Addr) [(Str.ofString "rnd", V.str (Str.ofString "d")), (Str.ofString "prec", V.int prec), (Str.ofString "bc", V.int prec), (Str.ofString "exp", V.int (exp + (bc - prec))), (Str.ofString "man", V.int (Int.fdiv man ((2 : Int) ^ Int.toNat (bc - prec)))), (Str.ofString "sign", V.int (0 : Int)), (Str.ofString "n", V.int (bc - prec))] (List.drop 3 (bdy w 38)) (Fl.ret r)]) : Dz w k 38 [(Str.ofString "rnd", V.str "d"), (Str.ofString "prec", V.int prec), (Str.ofString "bc", V.int bc), (Str.ofString "exp", V.int exp), (Str.ofString "man", V.int man), (Str.ofString "sign", V.int 0)] (bdy w 38) (Fl.ret r) := run [Tk.t, Tk.t, Tk.f, Tk.t, Tk.c 0 (Fl.ret r)] (by kernel_rfl!) h
theorem r_nz_d1 {w : World} {k : Nat} {man exp bc prec : Int} {r : V} (h : All [(man != (0 : Int)) = true, decide ((0 : Int) < bc - prec) = true, (Str.ofString "d" == Str.ofString "n") = false, ((1 : Int) != (0 : Int)) = true, (0 : Int) ≤ bc - prec, Dz w k (38 : Addr) [(Str.ofString "rnd", V.str (Str.ofString "d")), (Str.ofString "prec", V.int prec), (Str.ofString "bc", V.int prec), (Str.ofString "exp", V.int (exp + (bc - prec))), (Str.ofString "man", V.int (Int.fdiv man ((2 : Int) ^ Int.toNat (bc - prec)))), (Str.ofString "sign", V.int (1 : Int)), (Str.ofString "n", V.int (bc - prec))] (List.drop 3 (bdy w 38)) (Fl.ret r)]) : Dz w k 38 [(Str.ofString "rnd", V.str "d"), (Str.ofString "prec", V.int prec), (Str.ofString "bc", V.int bc), (Str.ofString "exp", V.int exp), (Str.ofString "man", V.int man), (Str.ofString "sign", V.int 1)] (bdy w 38) (Fl.ret r) := run [Tk.t, Tk.t, Tk.f, Tk.t, Tk.c 0 (Fl.ret r)] (by kernel_rfl!) h
theorem r_nz_u0 {w : World} {k : Nat} {man exp bc prec : Int} {r : V} (h : All [(man != (0 : Int)) = true, decide ((0 : Int) < bc - prec) = true, (Str.ofString "u" == Str.ofString "n") = false, ((0 : Int) != (0 : Int)) = false, (0 : Int) ≤ bc - prec, Dz w k (38 : Addr) [(Str.ofString "rnd", V.str (Str.ofString "u")), (Str.ofString "prec", V.int prec), (Str.ofString "bc", V.int prec), (Str.ofString "exp", V.int (exp + (bc - prec))), (Str.ofString "man", V.int (-Int.fdiv (-man) ((2 : Int) ^ Int.toNat (bc - prec)))), (Str.ofString "sign", V.int (0 : Int)), (Str.ofString "n", V.int (bc - prec))] (List.drop 3 (bdy w 38)) (Fl.ret r)]) : Dz w k 38 [(Str.ofString "rnd", V.str "u"), (Str.ofString "prec", V.int prec), (Str.ofString "bc", V.int bc), (Str.ofString "exp", V.int exp), (Str.ofString "man", V.int man), (Str.ofString "sign", V.int 0)] (bdy w 38) (Fl.ret r) := run [Tk.t, Tk.t, Tk.f, Tk.f, Tk.c 0 (Fl.ret r)] (by kernel_rfl!) h
theorem r_nz_u1 {w : World} {k : Nat} {man exp bc prec : Int} {r : V} (h : All [(man != (0 : Int)) = true, decide ((0 : Int) < bc - prec) = true, (Str.ofString "u" == Str.ofString "n") = false, ((0 : Int) != (0 : Int)) = false, (0 : Int) ≤ bc - prec, Dz w k (38 : Addr) [(Str.ofString "rnd", V.str (Str.ofString "u")), (Str.ofString "prec", V.int prec), (Str.ofString "bc", V.int prec), (Str.ofString "exp", V.int (exp + (bc - prec))), (Str.ofString "man", V.int (-Int.fdiv (-man) ((2 : Int) ^ Int.toNat (bc - prec)))), (Str.ofString "sign", V.int (1 : Int)), (Str.ofString "n", V.int (bc - prec))] (List.drop 3 (bdy w 38)) (Fl.ret r)]) : Dz w k 38 [(Str.ofString "rnd", V.str "u"), (Str.ofString "prec", V.int prec), (Str.ofString "bc", V.int bc), (Str.ofString "exp", V.int exp), (Str.ofString "man", V.int man), (Str.ofString "sign", V.int 1)] (bdy w 38) (Fl.ret r) := run [Tk.t, Tk.t, Tk.f, Tk.f, Tk.c 0 (Fl.ret r)] (by kernel_rfl!) h
theorem r_nzt_odd {w : World} {k : Nat} {sign man exp bc t : Int} (h : All [(Builtin.bitAnd man (1 : Int) != (0 : Int)) = true, (man == (1 : Int)) = false]) : Dz w k 38 [(Str.ofString "bc", V.int bc), (Str.ofString "exp", V.int exp), (Str.ofString "man", V.int man), (Str.ofString "sign", V.int sign)] (List.drop 3 (bdy w 38)) (Fl.ret (V.tup [V.int sign, V.int man, V.int exp, V.int bc])) := run [Tk.t, Tk.f] (by kernel_rfl!) h
theorem r_nzt_odd1 {w : World} {k : Nat} {sign man exp bc t : Int} (h : All [(Builtin.bitAnd man (1 : Int) != (0 : Int)) = true, (man == (1 : Int)) = true]) : Dz w k 38 [(Str.ofString "bc", V.int bc), (Str.ofString "exp", V.int exp), (Str.ofString "man", V.int man), (Str.ofString "sign", V.int sign)] (List.drop 3 (bdy w 38)) (Fl.ret (V.tup [V.int sign, V.int man, V.int exp, V.int (1 : Int)])) := run [Tk.t, Tk.t] (by kernel_rfl!) h
theorem r_nzt_even {w : World} {k : Nat} {sign man exp bc t : Int} (h : All [(Builtin.bitAnd man (1 : Int) != (0 : Int)) = false, Cz w k (nat_lit 21) [V.int man] (V.int t), (0 : Int) ≤ t, (Int.fdiv man ((2 : Int) ^ Int.toNat t) == (1 : Int)) = false]) : Dz w k 38 [(Str.ofString "bc", V.int bc), (Str.ofString "exp", V.int exp), (Str.ofString "man", V.int man), (Str.ofString "sign", V.int sign)] (List.drop 3 (bdy w 38)) (Fl.ret (V.tup [V.int sign, V.int (Int.fdiv man ((2 : Int) ^ Int.toNat t)), V.int (exp + t), V.int (bc - t)])) := run [Tk.f, Tk.r (V.int t), Tk.f] (by kernel_rfl!) h
theorem r_nzt_even1 {w : World} {k : Nat} {sign man exp bc t : Int} (h : All [(Builtin.bitAnd man (1 : Int) != (0 : Int)) = false, Cz w k (nat_lit 21) [V.int man] (V.int t), (0 : Int) ≤ t, (Int.fdiv man ((2 : Int) ^ Int.toNat t) == (1 : Int)) = true]) : Dz w k 38 [(Str.ofString "bc", V.int bc), (Str.ofString "exp", V.int exp), (Str.ofString "man", V.int man), (Str.ofString "sign", V.int sign)] (List.drop 3 (bdy w 38)) (Fl.ret (V.tup [V.int sign, V.int (Int.fdiv man ((2 : Int) ^ Int.toNat t)), V.int (exp + t), V.int (1 : Int)])) := run [Tk.f, Tk.r (V.int t), Tk.t] (by kernel_rfl!) h
theorem r_normalize {w : World} {k : Nat} {sign man exp bc prec : Int} {rnd : Str} {r : V} (h : All [(bc == ↑(Builtin.Int.intBits man)) = true, decide ((0 : Int) ≤ man) = true, Cz w k (nat_lit 38) [V.int sign, V.int man, V.int exp, V.int bc, V.int prec, V.str rnd] r]) : Dz w k 45 [(Str.ofString "rnd", V.str rnd), (Str.ofString "prec", V.int prec), (Str.ofString "bc", V.int bc), (Str.ofString "exp", V.int exp), (Str.ofString "man", V.int man), (Str.ofString "sign", V.int sign)] (bdy w 45) (Fl.ret r) := run [Tk.t, Tk.t, Tk.r (r)] (by kernel_rfl!) h
theorem r_fme_odd {w : World} {k : Nat} {man exp t : Int} {rnd : Str} (h : All [true = true, decide (man < (0 : Int)) = false, ((0 : Int) != (0 : Int)) = false, (man != (0 : Int)) = true, (Builtin.bitAnd man (1 : Int) != (0 : Int)) = true]) : Dz w k 53 [(Str.ofString "rnd", V.str rnd), (Str.ofString "prec", V.int 0), (Str.ofString "exp", V.int exp), (Str.ofString "man", V.int man)] (bdy w 53) (Fl.ret (V.tup [V.int (0 : Int), V.int man, V.int exp, V.int ↑(Builtin.Int.intBits man)])) := run [Tk.t, Tk.f, Tk.f, Tk.t, Tk.t] (by kernel_rfl!) h
theorem r_fme_two {w : World} {k : Nat} {man exp t : Int} {rnd : Str} (h : All [true = true, decide (man < (0 : Int)) = false, ((0 : Int) != (0 : Int)) = false, (man != (0 : Int)) = true, (Builtin.bitAnd man (1 : Int) != (0 : Int)) = false, (Builtin.bitAnd man (2 : Int) != (0 : Int)) = true, (0 : Int) ≤ (1 : Int)]) : Dz w k 53 [(Str.ofString "rnd", V.str rnd), (Str.ofString "prec", V.int 0), (Str.ofString "exp", V.int exp), (Str.ofString "man", V.int man)] (bdy w 53) (Fl.ret (V.tup [V.int (0 : Int), V.int (Int.fdiv man ((2 : Int) ^ Int.toNat (1 : Int))), V.int (exp + (1 : Int)), V.int (↑(Builtin.Int.intBits man) - (1 : Int))])) := run [Tk.t, Tk.f, Tk.f, Tk.t, Tk.f, Tk.t] (by kernel_rfl!) h
theorem r_fme_more {w : World} {k : Nat} {man exp t : Int} {rnd : Str} (h : All [true = true, decide (man < (0 : Int)) = false, ((0 : Int) != (0 : Int)) = false, (man != (0 : Int)) = true, (Builtin.bitAnd man (1 : Int) != (0 : Int)) = false, (Builtin.bitAnd man (2 : Int) != (0 : Int)) = false, Cz w k (nat_lit 21) [V.int man] (V.int t), (0 : Int) ≤ t]) : Dz w k 53 [(Str.ofString "rnd", V.str rnd), (Str.ofString "prec", V.int 0), (Str.ofString "exp", V.int exp), (Str.ofString "man", V.int man)] (bdy w 53) (Fl.ret (V.tup [V.int (0 : Int), V.int (Int.fdiv man ((2 : Int) ^ Int.toNat t)), V.int (exp + t), V.int (↑(Builtin.Int.intBits man) - t)])) := run [Tk.t, Tk.f, Tk.f, Tk.t, Tk.f, Tk.f, Tk.r (V.int t)] (by kernel_rfl!) h
theorem r_fme_pos {w : World} {k : Nat} {man exp prec : Int} {rnd : Str} {r : V} (h : All [true = true, decide (man < (0 : Int)) = false, (prec != (0 : Int)) = true, Cz w k (nat_lit 45) [V.int (0 : Int), V.int man, V.int exp, V.int ↑(Builtin.Int.intBits man), V.int prec, V.str rnd] r]) : Dz w k 53 [(Str.ofString "rnd", V.str rnd), (Str.ofString "prec", V.int prec), (Str.ofString "exp", V.int exp), (Str.ofString "man", V.int man)] (bdy w 53) (Fl.ret r) := run [Tk.t, Tk.f, Tk.t, Tk.r (r)] (by kernel_rfl!) h
theorem r_fme_neg {w : World} {k : Nat} {man exp prec : Int} {rnd : Str} {r : V} (h : All [true = true, decide (man < (0 : Int)) = true, (prec != (0 : Int)) = true, Cz w k (nat_lit 45) [V.int (1 : Int), V.int (-man), V.int exp, V.int ↑(Builtin.Int.intBits (-man)), V.int prec, V.str rnd] r]) : Dz w k 53 [(Str.ofString "rnd", V.str rnd), (Str.ofString "prec", V.int prec), (Str.ofString "exp", V.int exp), (Str.ofString "man", V.int man)] (bdy w 53) (Fl.ret r) := run [Tk.t, Tk.t, Tk.t, Tk.r (r)] (by kernel_rfl!) h
theorem r_pos {w : World} {k : Nat} {ss so sx sb prec : Int} {rnd : Str} {r : V} (h : All [(prec != (0 : Int)) = true, (so != (0 : Int)) = true, Cz w k (nat_lit 45) [V.int ss, V.int so, V.int sx, V.int sb, V.int prec, V.str rnd] r]) : Dz w k 83 [(Str.ofString "rnd", V.str rnd), (Str.ofString "prec", V.int prec), (Str.ofString "s", V.tup [V.int ss, V.int so, V.int sx, V.int sb])] (bdy w 83) (Fl.ret r) := run [Tk.t, Tk.t, Tk.r (r)] (by kernel_rfl!) h
theorem r_neg0 {w : World} {k : Nat} {ss so sx sb : Int} {rnd : Str} (h : All [(so != (0 : Int)) = true, ((0 : Int) != (0 : Int)) = false]) : Dz w k 91 [(Str.ofString "rnd", V.str rnd), (Str.ofString "prec", V.int 0), (Str.ofString "s", V.tup [V.int ss, V.int so, V.int sx, V.int sb])] (bdy w 91) (Fl.ret (V.tup [V.int ((1 : Int) - ss), V.int so, V.int sx, V.int sb])) := run [Tk.t, Tk.f] (by kernel_rfl!) h
theorem r_neg {w : World} {k : Nat} {ss so sx sb prec : Int} {rnd : Str} {r : V} (h : All [(so != (0 : Int)) = true, (prec != (0 : Int)) = true, Cz w k (nat_lit 45) [V.int ((1 : Int) - ss), V.int so, V.int sx, V.int sb, V.int prec, V.str rnd] r]) : Dz w k 91 [(Str.ofString "rnd", V.str rnd), (Str.ofString "prec", V.int prec), (Str.ofString "s", V.tup [V.int ss, V.int so, V.int sx, V.int sb])] (bdy w 91) (Fl.ret r) := run [Tk.t, Tk.t, Tk.r (r)] (by kernel_rfl!) h
theorem r_negz {w : World} {k : Nat} {rnd : Str} (h : All [((0 : Int) != (0 : Int)) = false, ((0 : Int) != (0 : Int)) = false]) : Dz w k 91 [(Str.ofString "rnd", V.str rnd), (Str.ofString "prec", V.int 0), (Str.ofString "s", V.tup [V.int 0, V.int 0, V.int 0, V.int 0])] (bdy w 91) (Fl.ret (V.tup [V.int (0 : Int), V.int (0 : Int), V.int (0 : Int), V.int (0 : Int)])) := run [Tk.f, Tk.f] (by kernel_rfl!) h
theorem r_abs_m {w : World} {k : Nat} {ss so sx sb : Int} {rnd : Str} (h : All [(so != (0 : Int)) = true, ((0 : Int) != (0 : Int)) = false, (ss != (0 : Int)) = true]) : Dz w k 99 [(Str.ofString "rnd", V.str rnd), (Str.ofString "prec", V.int 0), (Str.ofString "s", V.tup [V.int ss, V.int so, V.int sx, V.int sb])] (bdy w 99) (Fl.ret (V.tup [V.int (0 : Int), V.int so, V.int sx, V.int sb])) := run [Tk.t, Tk.f, Tk.t] (by kernel_rfl!) h
theorem r_abs_p {w : World} {k : Nat} {ss so sx sb : Int} {rnd : Str} (h : All [(so != (0 : Int)) = true, ((0 : Int) != (0 : Int)) = false, (ss != (0 : Int)) = false]) : Dz w k 99 [(Str.ofString "rnd", V.str rnd), (Str.ofString "prec", V.int 0), (Str.ofString "s", V.tup [V.int ss, V.int so, V.int sx, V.int sb])] (bdy w 99) (Fl.ret (V.tup [V.int ss, V.int so, V.int sx, V.int sb])) := run [Tk.t, Tk.f, Tk.f] (by kernel_rfl!) h
theorem r_add_g_s_p {w : World} {k : Nat} {ss so sx sb ts to tx tb prec sub : Int} {rnd : Str} {r : V} (h : All [(so != (0 : Int)) = true, (to != (0 : Int)) = true, (sx - tx != (0 : Int)) = true, decide ((0 : Int) < sx - tx) = true, decide ((100 : Int) < sx - tx) = false, (ss == Builtin.bitXor ts sub) = true, ShOk so (sx - tx), (prec != (0 : Int)) = true, Cz w k (nat_lit 45) [V.int ss, V.int (to + so * (2 : Int) ^ Int.toNat (sx - tx)), V.int tx, V.int ↑(Builtin.Int.intBits (to + so * (2 : Int) ^ Int.toNat (sx - tx))), V.int prec, V.str rnd] r]) : Dz w k 114 [(Str.ofString "_sub", V.int sub), (Str.ofString "rnd", V.str rnd), (Str.ofString "prec", V.int prec), (Str.ofString "t", V.tup [V.int ts, V.int to, V.int tx, V.int tb]), (Str.ofString "s", V.tup [V.int ss, V.int so, V.int sx, V.int sb])] (bdy w 114) (Fl.ret r) := run [Tk.t, Tk.t, Tk.t, Tk.t, Tk.f, Tk.t, Tk.t, Tk.r (r)] (by kernel_rfl!) h
theorem r_add_g_s_z {w : World} {k : Nat} {ss so sx sb ts to tx tb prec sub : Int} {rnd : Str} {r : V} (h : All [(so != (0 : Int)) = true, (to != (0 : Int)) = true, (sx - tx != (0 : Int)) = true, decide ((0 : Int) < sx - tx) = true, decide ((100 : Int) < sx - tx) = false, (ss == Builtin.bitXor ts sub) = true, ShOk so (sx - tx), (prec != (0 : Int)) = false, Cz w k (nat_lit 45) [V.int ss, V.int (to + so * (2 : Int) ^ Int.toNat (sx - tx)), V.int tx, V.int ↑(Builtin.Int.intBits (to + so * (2 : Int) ^ Int.toNat (sx - tx))), V.int ↑(Builtin.Int.intBits (to + so * (2 : Int) ^ Int.toNat (sx - tx))), V.str rnd] r]) : Dz w k 114 [(Str.ofString "_sub", V.int sub), (Str.ofString "rnd", V.str rnd), (Str.ofString "prec", V.int prec), (Str.ofString "t", V.tup [V.int ts, V.int to, V.int tx, V.int tb]), (Str.ofString "s", V.tup [V.int ss, V.int so, V.int sx, V.int sb])] (bdy w 114) (Fl.ret r) := run [Tk.t, Tk.t, Tk.t, Tk.t, Tk.f, Tk.t, Tk.f, Tk.r (r)] (by kernel_rfl!) h
theorem r_add_g_tt_p {w : World} {k : Nat} {ss so sx sb ts to tx tb prec sub : Int} {rnd : Str} {r : V} (h : All [(so != (0 : Int)) = true, (to != (0 : Int)) = true, (sx - tx != (0 : Int)) = true, decide ((0 : Int) < sx - tx) = true, decide ((100 : Int) < sx - tx) = false, (ss == Builtin.bitXor ts sub) = false, (ss != (0 : Int)) = true, ShOk so (sx - tx), decide ((0 : Int) ≤ to - so * (2 : Int) ^ Int.toNat (sx - tx)) = true, (prec != (0 : Int)) = true, Cz w k (nat_lit 45) [V.int (0 : Int), V.int (to - so * (2 : Int) ^ Int.toNat (sx - tx)), V.int tx, V.int ↑(Builtin.Int.intBits (to - so * (2 : Int) ^ Int.toNat (sx - tx))), V.int prec, V.str rnd] r]) : Dz w k 114 [(Str.ofString "_sub", V.int sub), (Str.ofString "rnd", V.str rnd), (Str.ofString "prec", V.int prec), (Str.ofString "t", V.tup [V.int ts, V.int to, V.int tx, V.int tb]), (Str.ofString "s", V.tup [V.int ss, V.int so, V.int sx, V.int sb])] (bdy w 114) (Fl.ret r) := run [Tk.t, Tk.t, Tk.t, Tk.t, Tk.f, Tk.f, Tk.t, Tk.t, Tk.t, Tk.r (r)] (by kernel_rfl!) h
theorem r_add_g_tt_z {w : World} {k : Nat} {ss so sx sb ts to tx tb prec sub : Int} {rnd : Str} {r : V} (h : All [(so != (0 : Int)) = true, (to != (0 : Int)) = true, (sx - tx != (0 : Int)) = true, decide ((0 : Int) < sx - tx) = true, decide ((100 : Int) < sx - tx) = false, (ss == Builtin.bitXor ts sub) = false, (ss != (0 : Int)) = true, ShOk so (sx - tx), decide ((0 : Int) ≤ to - so * (2 : Int) ^ Int.toNat (sx - tx)) = true, (prec != (0 : Int)) = false, Cz w k (nat_lit 45) [V.int (0 : Int), V.int (to - so * (2 : Int) ^ Int.toNat (sx - tx)), V.int tx, V.int ↑(Builtin.Int.intBits (to - so * (2 : Int) ^ Int.toNat (sx - tx))), V.int ↑(Builtin.Int.intBits (to - so * (2 : Int) ^ Int.toNat (sx - tx))), V.str rnd] r]) : Dz w k 114 [(Str.ofString "_sub", V.int sub), (Str.ofString "rnd", V.str rnd), (Str.ofString "prec", V.int prec), (Str.ofString "t", V.tup [V.int ts, V.int to, V.int tx, V.int tb]), (Str.ofString "s", V.tup [V.int ss, V.int so, V.int sx, V.int sb])] (bdy w 114) (Fl.ret r) := run [Tk.t, Tk.t, Tk.t, Tk.t, Tk.f, Tk.f, Tk.t, Tk.t, Tk.f, Tk.r (r)] (by kernel_rfl!) h
theorem r_add_g_tf_p {w : World} {k : Nat} {ss so sx sb ts to tx tb prec sub : Int} {rnd : Str} {r : V} (h : All [(so != (0 : Int)) = true, (to != (0 : Int)) = true, (sx - tx != (0 : Int)) = true, decide ((0 : Int) < sx - tx) = true, decide ((100 : Int) < sx - tx) = false, (ss == Builtin.bitXor ts sub) = false, (ss != (0 : Int)) = true, ShOk so (sx - tx), decide ((0 : Int) ≤ to - so * (2 : Int) ^ Int.toNat (sx - tx)) = false, (prec != (0 : Int)) = true, Cz w k (nat_lit 45) [V.int (1 : Int), V.int (-(to - so * (2 : Int) ^ Int.toNat (sx - tx))), V.int tx, V.int ↑(Builtin.Int.intBits (-(to - so * (2 : Int) ^ Int.toNat (sx - tx)))), V.int prec, V.str rnd] r]) : Dz w k 114 [(Str.ofString "_sub", V.int sub), (Str.ofString "rnd", V.str rnd), (Str.ofString "prec", V.int prec), (Str.ofString "t", V.tup [V.int ts, V.int to, V.int tx, V.int tb]), (Str.ofString "s", V.tup [V.int ss, V.int so, V.int sx, V.int sb])] (bdy w 114) (Fl.ret r) := run [Tk.t, Tk.t, Tk.t, Tk.t, Tk.f, Tk.f, Tk.t, Tk.f, Tk.t, Tk.r (r)] (by kernel_rfl!) h
theorem r_add_g_tf_z {w : World} {k : Nat} {ss so sx sb ts to tx tb prec sub : Int} {rnd : Str} {r : V} (h : All [(so != (0 : Int)) = true, (to != (0 : Int)) = true, (sx - tx != (0 : Int)) = true, decide ((0 : Int) < sx - tx) = true, decide ((100 : Int) < sx - tx) = false, (ss == Builtin.bitXor ts sub) = false, (ss != (0 : Int)) = true, ShOk so (sx - tx), decide ((0 : Int) ≤ to - so * (2 : Int) ^ Int.toNat (sx - tx)) = false, (prec != (0 : Int)) = false, Cz w k (nat_lit 45) [V.int (1 : Int), V.int (-(to - so * (2 : Int) ^ Int.toNat (sx - tx))), V.int tx, V.int ↑(Builtin.Int.intBits (-(to - so * (2 : Int) ^ Int.toNat (sx - tx)))), V.int ↑(Builtin.Int.intBits (-(to - so * (2 : Int) ^ Int.toNat (sx - tx)))), V.str rnd] r]) : Dz w k 114 [(Str.ofString "_sub", V.int sub), (Str.ofString "rnd", V.str rnd), (Str.ofString "prec", V.int prec), (Str.ofString "t", V.tup [V.int ts, V.int to, V.int tx, V.int tb]), (Str.ofString "s", V.tup [V.int ss, V.int so, V.int sx, V.int sb])] (bdy w 114) (Fl.ret r) := run [Tk.t, Tk.t, Tk.t, Tk.t, Tk.f, Tk.f, Tk.t, Tk.f, Tk.f, Tk.r (r)] (by kernel_rfl!) h
theorem r_add_g_ft_p {w : World} {k : Nat} {ss so sx sb ts to tx tb prec sub : Int} {rnd : Str} {r : V} (h : All [(so != (0 : Int)) = true, (to != (0 : Int)) = true, (sx - tx != (0 : Int)) = true, decide ((0 : Int) < sx - tx) = true, decide ((100 : Int) < sx - tx) = false, (ss == Builtin.bitXor ts sub) = false, (ss != (0 : Int)) = false, ShOk so (sx - tx), decide ((0 : Int) ≤ so * (2 : Int) ^ Int.toNat (sx - tx) - to) = true, (prec != (0 : Int)) = true, Cz w k (nat_lit 45) [V.int (0 : Int), V.int (so * (2 : Int) ^ Int.toNat (sx - tx) - to), V.int tx, V.int ↑(Builtin.Int.intBits (so * (2 : Int) ^ Int.toNat (sx - tx) - to)), V.int prec, V.str rnd] r]) : Dz w k 114 [(Str.ofString "_sub", V.int sub), (Str.ofString "rnd", V.str rnd), (Str.ofString "prec", V.int prec), (Str.ofString "t", V.tup [V.int ts, V.int to, V.int tx, V.int tb]), (Str.ofString "s", V.tup [V.int ss, V.int so, V.int sx, V.int sb])] (bdy w 114) (Fl.ret r) := run [Tk.t, Tk.t, Tk.t, Tk.t, Tk.f, Tk.f, Tk.f, Tk.t, Tk.t, Tk.r (r)] (by kernel_rfl!) h
theorem r_add_g_ft_z {w : World} {k : Nat} {ss so sx sb ts to tx tb prec sub : Int} {rnd : Str} {r : V} (h : All [(so != (0 : Int)) = true, (to != (0 : Int)) = true, (sx - tx != (0 : Int)) = true, decide ((0 : Int) < sx - tx) = true, decide ((100 : Int) < sx - tx) = false, (ss == Builtin.bitXor ts sub) = false, (ss != (0 : Int)) = false, ShOk so (sx - tx), decide ((0 : Int) ≤ so * (2 : Int) ^ Int.toNat (sx - tx) - to) = true, (prec != (0 : Int)) = false, Cz w k (nat_lit 45) [V.int (0 : Int), V.int (so * (2 : Int) ^ Int.toNat (sx - tx) - to), V.int tx, V.int ↑(Builtin.Int.intBits (so * (2 : Int) ^ Int.toNat (sx - tx) - to)), V.int ↑(Builtin.Int.intBits (so * (2 : Int) ^ Int.toNat (sx - tx) - to)), V.str rnd] r]) : Dz w k 114 [(Str.ofString "_sub", V.int sub), (Str.ofString "rnd", V.str rnd), (Str.ofString "prec", V.int prec), (Str.ofString "t", V.tup [V.int ts, V.int to, V.int tx, V.int tb]), (Str.ofString "s", V.tup [V.int ss, V.int so, V.int sx, V.int sb])] (bdy w 114) (Fl.ret r) := run [Tk.t, Tk.t, Tk.t, Tk.t, Tk.f, Tk.f, Tk.f, Tk.t, Tk.f, Tk.r (r)] (by kernel_rfl!) h
theorem r_add_g_ff_p {w : World} {k : Nat} {ss so sx sb ts to tx tb prec sub : Int} {rnd : Str} {r : V} (h : All [(so != (0 : Int)) = true, (to != (0 : Int)) = true, (sx - tx != (0 : Int)) = true, decide ((0 : Int) < sx - tx) = true, decide ((100 : Int) < sx - tx) = false, (ss == Builtin.bitXor ts sub) = false, (ss != (0 : Int)) = false, ShOk so (sx - tx), decide ((0 : Int) ≤ so * (2 : Int) ^ Int.toNat (sx - tx) - to) = false, (prec != (0 : Int)) = true, Cz w k (nat_lit 45) [V.int (1 : Int), V.int (-(so * (2 : Int) ^ Int.toNat (sx - tx) - to)), V.int tx, V.int ↑(Builtin.Int.intBits (-(so * (2 : Int) ^ Int.toNat (sx - tx) - to))), V.int prec, V.str rnd] r]) : Dz w k 114 [(Str.ofString "_sub", V.int sub), (Str.ofString "rnd", V.str rnd), (Str.ofString "prec", V.int prec), (Str.ofString "t", V.tup [V.int ts, V.int to, V.int tx, V.int tb]), (Str.ofString "s", V.tup [V.int ss, V.int so, V.int sx, V.int sb])] (bdy w 114) (Fl.ret r) := run [Tk.t, Tk.t, Tk.t, Tk.t, Tk.f, Tk.f, Tk.f, Tk.f, Tk.t, Tk.r (r)] (by kernel_rfl!) h
theorem r_add_g_ff_z {w : World} {k : Nat} {ss so sx sb ts to tx tb prec sub : Int} {rnd : Str} {r : V} (h : All [(so != (0 : Int)) = true, (to != (0 : Int)) = true, (sx - tx != (0 : Int)) = true, decide ((0 : Int) < sx - tx) = true, decide ((100 : Int) < sx - tx) = false, (ss == Builtin.bitXor ts sub) = false, (ss != (0 : Int)) = false, ShOk so (sx - tx), decide ((0 : Int) ≤ so * (2 : Int) ^ Int.toNat (sx - tx) - to) = false, (prec != (0 : Int)) = false, Cz w k (nat_lit 45) [V.int (1 : Int), V.int (-(so * (2 : Int) ^ Int.toNat (sx - tx) - to)), V.int tx, V.int ↑(Builtin.Int.intBits (-(so * (2 : Int) ^ Int.toNat (sx - tx) - to))), V.int ↑(Builtin.Int.intBits (-(so * (2 : Int) ^ Int.toNat (sx - tx) - to))), V.str rnd] r]) : Dz w k 114 [(Str.ofString "_sub", V.int sub), (Str.ofString "rnd", V.str rnd), (Str.ofString "prec", V.int prec), (Str.ofString "t", V.tup [V.int ts, V.int to, V.int tx, V.int tb]), (Str.ofString "s", V.tup [V.int ss, V.int so, V.int sx, V.int sb])] (bdy w 114) (Fl.ret r) := run [Tk.t, Tk.t, Tk.t, Tk.t, Tk.f, Tk.f, Tk.f, Tk.f, Tk.f, Tk.r (r)] (by kernel_rfl!) h
theorem r_add_l_s_p {w : World} {k : Nat} {ss so sx sb ts to tx tb prec sub : Int} {rnd : Str} {r : V} (h : All [(so != (0 : Int)) = true, (to != (0 : Int)) = true, (sx - tx != (0 : Int)) = true, decide ((0 : Int) < sx - tx) = false, decide (sx - tx < (0 : Int)) = true, decide (sx - tx < (-100 : Int)) = false, (ss == Builtin.bitXor ts sub) = true, ShOk to (-(sx - tx)), (prec != (0 : Int)) = true, Cz w k (nat_lit 45) [V.int ss, V.int (so + to * (2 : Int) ^ Int.toNat (-(sx - tx))), V.int sx, V.int ↑(Builtin.Int.intBits (so + to * (2 : Int) ^ Int.toNat (-(sx - tx)))), V.int prec, V.str rnd] r]) : Dz w k 114 [(Str.ofString "_sub", V.int sub), (Str.ofString "rnd", V.str rnd), (Str.ofString "prec", V.int prec), (Str.ofString "t", V.tup [V.int ts, V.int to, V.int tx, V.int tb]), (Str.ofString "s", V.tup [V.int ss, V.int so, V.int sx, V.int sb])] (bdy w 114) (Fl.ret r) := run [Tk.t, Tk.t, Tk.t, Tk.f, Tk.t, Tk.f, Tk.t, Tk.t, Tk.r (r)] (by kernel_rfl!) h
theorem r_add_l_s_z {w : World} {k : Nat} {ss so sx sb ts to tx tb prec sub : Int} {rnd : Str} {r : V} (h : All [(so != (0 : Int)) = true, (to != (0 : Int)) = true, (sx - tx != (0 : Int)) = true, decide ((0 : Int) < sx - tx) = false, decide (sx - tx < (0 : Int)) = true, decide (sx - tx < (-100 : Int)) = false, (ss == Builtin.bitXor ts sub) = true, ShOk to (-(sx - tx)), (prec != (0 : Int)) = false, Cz w k (nat_lit 45) [V.int ss, V.int (so + to * (2 : Int) ^ Int.toNat (-(sx - tx))), V.int sx, V.int ↑(Builtin.Int.intBits (so + to * (2 : Int) ^ Int.toNat (-(sx - tx)))), V.int ↑(Builtin.Int.intBits (so + to * (2 : Int) ^ Int.toNat (-(sx - tx)))), V.str rnd] r]) : Dz w k 114 [(Str.ofString "_sub", V.int sub), (Str.ofString "rnd", V.str rnd), (Str.ofString "prec", V.int prec), (Str.ofString "t", V.tup [V.int ts, V.int to, V.int tx, V.int tb]), (Str.ofString "s", V.tup [V.int ss, V.int so, V.int sx, V.int sb])] (bdy w 114) (Fl.ret r) := run [Tk.t, Tk.t, Tk.t, Tk.f, Tk.t, Tk.f, Tk.t, Tk.f, Tk.r (r)] (by kernel_rfl!) h
theorem r_add_l_tt_p {w : World} {k : Nat} {ss so sx sb ts to tx tb prec sub : Int} {rnd : Str} {r : V} (h : All [(so != (0 : Int)) = true, (to != (0 : Int)) = true, (sx - tx != (0 : Int)) = true, decide ((0 : Int) < sx - tx) = false, decide (sx - tx < (0 : Int)) = true, decide (sx - tx < (-100 : Int)) = false, (ss == Builtin.bitXor ts sub) = false, (Builtin.bitXor ts sub != (0 : Int)) = true, ShOk to (-(sx - tx)), decide ((0 : Int) ≤ so - to * (2 : Int) ^ Int.toNat (-(sx - tx))) = true, (prec != (0 : Int)) = true, Cz w k (nat_lit 45) [V.int (0 : Int), V.int (so - to * (2 : Int) ^ Int.toNat (-(sx - tx))), V.int sx, V.int ↑(Builtin.Int.intBits (so - to * (2 : Int) ^ Int.toNat (-(sx - tx)))), V.int prec, V.str rnd] r]) : Dz w k 114 [(Str.ofString "_sub", V.int sub), (Str.ofString "rnd", V.str rnd), (Str.ofString "prec", V.int prec), (Str.ofString "t", V.tup [V.int ts, V.int to, V.int tx, V.int tb]), (Str.ofString "s", V.tup [V.int ss, V.int so, V.int sx, V.int sb])] (bdy w 114) (Fl.ret r) := run [Tk.t, Tk.t, Tk.t, Tk.f, Tk.t, Tk.f, Tk.f, Tk.t, Tk.t, Tk.t, Tk.r (r)] (by kernel_rfl!) h
theorem r_add_l_tt_z {w : World} {k : Nat} {ss so sx sb ts to tx tb prec sub : Int} {rnd : Str} {r : V} (h : All [(so != (0 : Int)) = true, (to != (0 : Int)) = true, (sx - tx != (0 : Int)) = true, decide ((0 : Int) < sx - tx) = false, decide (sx - tx < (0 : Int)) = true, decide (sx - tx < (-100 : Int)) = false, (ss == Builtin.bitXor ts sub) = false, (Builtin.bitXor ts sub != (0 : Int)) = true, ShOk to (-(sx - tx)), decide ((0 : Int) ≤ so - to * (2 : Int) ^ Int.toNat (-(sx - tx))) = true, (prec != (0 : Int)) = false, Cz w k (nat_lit 45) [V.int (0 : Int), V.int (so - to * (2 : Int) ^ Int.toNat (-(sx - tx))), V.int sx, V.int ↑(Builtin.Int.intBits (so - to * (2 : Int) ^ Int.toNat (-(sx - tx)))), V.int ↑(Builtin.Int.intBits (so - to * (2 : Int) ^ Int.toNat (-(sx - tx)))), V.str rnd] r]) : Dz w k 114 [(Str.ofString "_sub", V.int sub), (Str.ofString "rnd", V.str rnd), (Str.ofString "prec", V.int prec), (Str.ofString "t", V.tup [V.int ts, V.int to, V.int tx, V.int tb]), (Str.ofString "s", V.tup [V.int ss, V.int so, V.int sx, V.int sb])] (bdy w 114) (Fl.ret r) := run [Tk.t, Tk.t, Tk.t, Tk.f, Tk.t, Tk.f, Tk.f, Tk.t, Tk.t, Tk.f, Tk.r (r)] (by kernel_rfl!) h
theorem r_add_l_tf_p {w : World} {k : Nat} {ss so sx sb ts to tx tb prec sub : Int} {rnd : Str} {r : V} (h : All [(so != (0 : Int)) = true, (to != (0 : Int)) = true, (sx - tx != (0 : Int)) = true, decide ((0 : Int) < sx - tx) = false, decide (sx - tx < (0 : Int)) = true, decide (sx - tx < (-100 : Int)) = false, (ss == Builtin.bitXor ts sub) = false, (Builtin.bitXor ts sub != (0 : Int)) = true, ShOk to (-(sx - tx)), decide ((0 : Int) ≤ so - to * (2 : Int) ^ Int.toNat (-(sx - tx))) = false, (prec != (0 : Int)) = true, Cz w k (nat_lit 45) [V.int (1 : Int), V.int (-(so - to * (2 : Int) ^ Int.toNat (-(sx - tx)))), V.int sx, V.int ↑(Builtin.Int.intBits (-(so - to * (2 : Int) ^ Int.toNat (-(sx - tx))))), V.int prec, V.str rnd] r]) : Dz w k 114 [(Str.ofString "_sub", V.int sub), (Str.ofString "rnd", V.str rnd), (Str.ofString "prec", V.int prec), (Str.ofString "t", V.tup [V.int ts, V.int to, V.int tx, V.int tb]), (Str.ofString "s", V.tup [V.int ss, V.int so, V.int sx, V.int sb])] (bdy w 114) (Fl.ret r) := run [Tk.t, Tk.t, Tk.t, Tk.f, Tk.t, Tk.f, Tk.f, Tk.t, Tk.f, Tk.t, Tk.r (r)] (by kernel_rfl!) h
theorem r_add_l_tf_z {w : World} {k : Nat} {ss so sx sb ts to tx tb prec sub : Int} {rnd : Str} {r : V} (h : All [(so != (0 : Int)) = true, (to != (0 : Int)) = true, (sx - tx != (0 : Int)) = true, decide ((0 : Int) < sx - tx) = false, decide (sx - tx < (0 : Int)) = true, decide (sx - tx < (-100 : Int)) = false, (ss == Builtin.bitXor ts sub) = false, (Builtin.bitXor ts sub != (0 : Int)) = true, ShOk to (-(sx - tx)), decide ((0 : Int) ≤ so - to * (2 : Int) ^ Int.toNat (-(sx - tx))) = false, (prec != (0 : Int)) = false, Cz w k (nat_lit 45) [V.int (1 : Int), V.int (-(so - to * (2 : Int) ^ Int.toNat (-(sx - tx)))), V.int sx, V.int ↑(Builtin.Int.intBits (-(so - to * (2 : Int) ^ Int.toNat (-(sx - tx))))), V.int ↑(Builtin.Int.intBits (-(so - to * (2 : Int) ^ Int.toNat (-(sx - tx))))), V.str rnd] r]) : Dz w k 114 [(Str.ofString "_sub", V.int sub), (Str.ofString "rnd", V.str rnd), (Str.ofString "prec", V.int prec), (Str.ofString "t", V.tup [V.int ts, V.int to, V.int tx, V.int tb]), (Str.ofString "s", V.tup [V.int ss, V.int so, V.int sx, V.int sb])] (bdy w 114) (Fl.ret r) := run [Tk.t, Tk.t, Tk.t, Tk.f, Tk.t, Tk.f, Tk.f, Tk.t, Tk.f, Tk.f, Tk.r (r)] (by kernel_rfl!) h
theorem r_add_l_ft_p {w : World} {k : Nat} {ss so sx sb ts to tx tb prec sub : Int} {rnd : Str} {r : V} (h : All [(so != (0 : Int)) = true, (to != (0 : Int)) = true, (sx - tx != (0 : Int)) = true, decide ((0 : Int) < sx - tx) = false, decide (sx - tx < (0 : Int)) = true, decide (sx - tx < (-100 : Int)) = false, (ss == Builtin.bitXor ts sub) = false, (Builtin.bitXor ts sub != (0 : Int)) = false, ShOk to (-(sx - tx)), decide ((0 : Int) ≤ to * (2 : Int) ^ Int.toNat (-(sx - tx)) - so) = true, (prec != (0 : Int)) = true, Cz w k (nat_lit 45) [V.int (0 : Int), V.int (to * (2 : Int) ^ Int.toNat (-(sx - tx)) - so), V.int sx, V.int ↑(Builtin.Int.intBits (to * (2 : Int) ^ Int.toNat (-(sx - tx)) - so)), V.int prec, V.str rnd] r]) : Dz w k 114 [(Str.ofString "_sub", V.int sub), (Str.ofString "rnd", V.str rnd), (Str.ofString "prec", V.int prec), (Str.ofString "t", V.tup [V.int ts, V.int to, V.int tx, V.int tb]), (Str.ofString "s", V.tup [V.int ss, V.int so, V.int sx, V.int sb])] (bdy w 114) (Fl.ret r) := run [Tk.t, Tk.t, Tk.t, Tk.f, Tk.t, Tk.f, Tk.f, Tk.f, Tk.t, Tk.t, Tk.r (r)] (by kernel_rfl!) h
theorem r_add_l_ft_z {w : World} {k : Nat} {ss so sx sb ts to tx tb prec sub : Int} {rnd : Str} {r : V} (h : All [(so != (0 : Int)) = true, (to != (0 : Int)) = true, (sx - tx != (0 : Int)) = true, decide ((0 : Int) < sx - tx) = false, decide (sx - tx < (0 : Int)) = true, decide (sx - tx < (-100 : Int)) = false, (ss == Builtin.bitXor ts sub) = false, (Builtin.bitXor ts sub != (0 : Int)) = false, ShOk to (-(sx - tx)), decide ((0 : Int) ≤ to * (2 : Int) ^ Int.toNat (-(sx - tx)) - so) = true, (prec != (0 : Int)) = false, Cz w k (nat_lit 45) [V.int (0 : Int), V.int (to * (2 : Int) ^ Int.toNat (-(sx - tx)) - so), V.int sx, V.int ↑(Builtin.Int.intBits (to * (2 : Int) ^ Int.toNat (-(sx - tx)) - so)), V.int ↑(Builtin.Int.intBits (to * (2 : Int) ^ Int.toNat (-(sx - tx)) - so)), V.str rnd] r]) : Dz w k 114 [(Str.ofString "_sub", V.int sub), (Str.ofString "rnd", V.str rnd), (Str.ofString "prec", V.int prec), (Str.ofString "t", V.tup [V.int ts, V.int to, V.int tx, V.int tb]), (Str.ofString "s", V.tup [V.int ss, V.int so, V.int sx, V.int sb])] (bdy w 114) (Fl.ret r) := run [Tk.t, Tk.t, Tk.t, Tk.f, Tk.t, Tk.f, Tk.f, Tk.f, Tk.t, Tk.f, Tk.r (r)] (by kernel_rfl!) h
theorem r_add_l_ff_p {w : World} {k : Nat} {ss so sx sb ts to tx tb prec sub : Int} {rnd : Str} {r : V} (h : All [(so != (0 : Int)) = true, (to != (0 : Int)) = true, (sx - tx != (0 : Int)) = true, decide ((0 : Int) < sx - tx) = false, decide (sx - tx < (0 : Int)) = true, decide (sx - tx < (-100 : Int)) = false, (ss == Builtin.bitXor ts sub) = false, (Builtin.bitXor ts sub != (0 : Int)) = false, ShOk to (-(sx - tx)), decide ((0 : Int) ≤ to * (2 : Int) ^ Int.toNat (-(sx - tx)) - so) = false, (prec != (0 : Int)) = true, Cz w k (nat_lit 45) [V.int (1 : Int), V.int (-(to * (2 : Int) ^ Int.toNat (-(sx - tx)) - so)), V.int sx, V.int ↑(Builtin.Int.intBits (-(to * (2 : Int) ^ Int.toNat (-(sx - tx)) - so))), V.int prec, V.str rnd] r]) : Dz w k 114 [(Str.ofString "_sub", V.int sub), (Str.ofString "rnd", V.str rnd), (Str.ofString "prec", V.int prec), (Str.ofString "t", V.tup [V.int ts, V.int to, V.int tx, V.int tb]), (Str.ofString "s", V.tup [V.int ss, V.int so, V.int sx, V.int sb])] (bdy w 114) (Fl.ret r) := run [Tk.t, Tk.t, Tk.t, Tk.f, Tk.t, Tk.f, Tk.f, Tk.f, Tk.f, Tk.t, Tk.r (r)] (by kernel_rfl!) h
theorem r_add_l_ff_z {w : World} {k : Nat} {ss so sx sb ts to tx tb prec sub : Int} {rnd : Str} {r : V} (h : All [(so != (0 : Int)) = true, (to != (0 : Int)) = true, (sx - tx != (0 : Int)) = true, decide ((0 : Int) < sx - tx) = false, decide (sx - tx < (0 : Int)) = true, decide (sx - tx < (-100 : Int)) = false, (ss == Builtin.bitXor ts sub) = false, (Builtin.bitXor ts sub != (0 : Int)) = false, ShOk to (-(sx - tx)), decide ((0 : Int) ≤ to * (2 : Int) ^ Int.toNat (-(sx - tx)) - so) = false, (prec != (0 : Int)) = false, Cz w k (nat_lit 45) [V.int (1 : Int), V.int (-(to * (2 : Int) ^ Int.toNat (-(sx - tx)) - so)), V.int sx, V.int ↑(Builtin.Int.intBits (-(to * (2 : Int) ^ Int.toNat (-(sx - tx)) - so))), V.int ↑(Builtin.Int.intBits (-(to * (2 : Int) ^ Int.toNat (-(sx - tx)) - so))), V.str rnd] r]) : Dz w k 114 [(Str.ofString "_sub", V.int sub), (Str.ofString "rnd", V.str rnd), (Str.ofString "prec", V.int prec), (Str.ofString "t", V.tup [V.int ts, V.int to, V.int tx, V.int tb]), (Str.ofString "s", V.tup [V.int ss, V.int so, V.int sx, V.int sb])] (bdy w 114) (Fl.ret r) := run [Tk.t, Tk.t, Tk.t, Tk.f, Tk.t, Tk.f, Tk.f, Tk.f, Tk.f, Tk.f, Tk.r (r)] (by kernel_rfl!) h
theorem r_add_e_s_p {w : World} {k : Nat} {ss so sx sb ts to tx tb prec sub : Int} {rnd : Str} {r : V} (h : All [(so != (0 : Int)) = true, (to != (0 : Int)) = true, (sx - tx != (0 : Int)) = false, (ss == Builtin.bitXor ts sub) = true, (prec != (0 : Int)) = true, Cz w k (nat_lit 45) [V.int ss, V.int (to + so), V.int tx, V.int ↑(Builtin.Int.intBits (to + so)), V.int prec, V.str rnd] r]) : Dz w k 114 [(Str.ofString "_sub", V.int sub), (Str.ofString "rnd", V.str rnd), (Str.ofString "prec", V.int prec), (Str.ofString "t", V.tup [V.int ts, V.int to, V.int tx, V.int tb]), (Str.ofString "s", V.tup [V.int ss, V.int so, V.int sx, V.int sb])] (bdy w 114) (Fl.ret r) := run [Tk.t, Tk.t, Tk.f, Tk.t, Tk.t, Tk.r (r)] (by kernel_rfl!) h
theorem r_add_e_s_z {w : World} {k : Nat} {ss so sx sb ts to tx tb prec sub : Int} {rnd : Str} {r : V} (h : All [(so != (0 : Int)) = true, (to != (0 : Int)) = true, (sx - tx != (0 : Int)) = false, (ss == Builtin.bitXor ts sub) = true, (prec != (0 : Int)) = false, Cz w k (nat_lit 45) [V.int ss, V.int (to + so), V.int tx, V.int ↑(Builtin.Int.intBits (to + so)), V.int ↑(Builtin.Int.intBits (to + so)), V.str rnd] r]) : Dz w k 114 [(Str.ofString "_sub", V.int sub), (Str.ofString "rnd", V.str rnd), (Str.ofString "prec", V.int prec), (Str.ofString "t", V.tup [V.int ts, V.int to, V.int tx, V.int tb]), (Str.ofString "s", V.tup [V.int ss, V.int so, V.int sx, V.int sb])] (bdy w 114) (Fl.ret r) := run [Tk.t, Tk.t, Tk.f, Tk.t, Tk.f, Tk.r (r)] (by kernel_rfl!) h
theorem r_add_e_tt_p {w : World} {k : Nat} {ss so sx sb ts to tx tb prec sub : Int} {rnd : Str} {r : V} (h : All [(so != (0 : Int)) = true, (to != (0 : Int)) = true, (sx - tx != (0 : Int)) = false, (ss == Builtin.bitXor ts sub) = false, (ss != (0 : Int)) = true, decide ((0 : Int) ≤ to - so) = true, (prec != (0 : Int)) = true, Cz w k (nat_lit 45) [V.int (0 : Int), V.int (to - so), V.int tx, V.int ↑(Builtin.Int.intBits (to - so)), V.int prec, V.str rnd] r]) : Dz w k 114 [(Str.ofString "_sub", V.int sub), (Str.ofString "rnd", V.str rnd), (Str.ofString "prec", V.int prec), (Str.ofString "t", V.tup [V.int ts, V.int to, V.int tx, V.int tb]), (Str.ofString "s", V.tup [V.int ss, V.int so, V.int sx, V.int sb])] (bdy w 114) (Fl.ret r) := run [Tk.t, Tk.t, Tk.f, Tk.f, Tk.t, Tk.t, Tk.t, Tk.r (r)] (by kernel_rfl!) h
theorem r_add_e_tt_z {w : World} {k : Nat} {ss so sx sb ts to tx tb prec sub : Int} {rnd : Str} {r : V} (h : All [(so != (0 : Int)) = true, (to != (0 : Int)) = true, (sx - tx != (0 : Int)) = false, (ss == Builtin.bitXor ts sub) = false, (ss != (0 : Int)) = true, decide ((0 : Int) ≤ to - so) = true, (prec != (0 : Int)) = false, Cz w k (nat_lit 45) [V.int (0 : Int), V.int (to - so), V.int tx, V.int ↑(Builtin.Int.intBits (to - so)), V.int ↑(Builtin.Int.intBits (to - so)), V.str rnd] r]) : Dz w k 114 [(Str.ofString "_sub", V.int sub), (Str.ofString "rnd", V.str rnd), (Str.ofString "prec", V.int prec), (Str.ofString "t", V.tup [V.int ts, V.int to, V.int tx, V.int tb]), (Str.ofString "s", V.tup [V.int ss, V.int so, V.int sx, V.int sb])] (bdy w 114) (Fl.ret r) := run [Tk.t, Tk.t, Tk.f, Tk.f, Tk.t, Tk.t, Tk.f, Tk.r (r)] (by kernel_rfl!) h
theorem r_add_e_tf_p {w : World} {k : Nat} {ss so sx sb ts to tx tb prec sub : Int} {rnd : Str} {r : V} (h : All [(so != (0 : Int)) = true, (to != (0 : Int)) = true, (sx - tx != (0 : Int)) = false, (ss == Builtin.bitXor ts sub) = false, (ss != (0 : Int)) = true, decide ((0 : Int) ≤ to - so) = false, (prec != (0 : Int)) = true, Cz w k (nat_lit 45) [V.int (1 : Int), V.int (-(to - so)), V.int tx, V.int ↑(Builtin.Int.intBits (-(to - so))), V.int prec, V.str rnd] r]) : Dz w k 114 [(Str.ofString "_sub", V.int sub), (Str.ofString "rnd", V.str rnd), (Str.ofString "prec", V.int prec), (Str.ofString "t", V.tup [V.int ts, V.int to, V.int tx, V.int tb]), (Str.ofString "s", V.tup [V.int ss, V.int so, V.int sx, V.int sb])] (bdy w 114) (Fl.ret r) := run [Tk.t, Tk.t, Tk.f, Tk.f, Tk.t, Tk.f, Tk.t, Tk.r (r)] (by kernel_rfl!) h
theorem r_add_e_tf_z {w : World} {k : Nat} {ss so sx sb ts to tx tb prec sub : Int} {rnd : Str} {r : V} (h : All [(so != (0 : Int)) = true, (to != (0 : Int)) = true, (sx - tx != (0 : Int)) = false, (ss == Builtin.bitXor ts sub) = false, (ss != (0 : Int)) = true, decide ((0 : Int) ≤ to - so) = false, (prec != (0 : Int)) = false, Cz w k (nat_lit 45) [V.int (1 : Int), V.int (-(to - so)), V.int tx, V.int ↑(Builtin.Int.intBits (-(to - so))), V.int ↑(Builtin.Int.intBits (-(to - so))), V.str rnd] r]) : Dz w k 114 [(Str.ofString "_sub", V.int sub), (Str.ofString "rnd", V.str rnd), (Str.ofString "prec", V.int prec), (Str.ofString "t", V.tup [V.int ts, V.int to, V.int tx, V.int tb]), (Str.ofString "s", V.tup [V.int ss, V.int so, V.int sx, V.int sb])] (bdy w 114) (Fl.ret r) := run [Tk.t, Tk.t, Tk.f, Tk.f, Tk.t, Tk.f, Tk.f, Tk.r (r)] (by kernel_rfl!) h
theorem r_add_e_ft_p {w : World} {k : Nat} {ss so sx sb ts to tx tb prec sub : Int} {rnd : Str} {r : V} (h : All [(so != (0 : Int)) = true, (to != (0 : Int)) = true, (sx - tx != (0 : Int)) = false, (ss == Builtin.bitXor ts sub) = false, (ss != (0 : Int)) = false, decide ((0 : Int) ≤ so - to) = true, (prec != (0 : Int)) = true, Cz w k (nat_lit 45) [V.int (0 : Int), V.int (so - to), V.int tx, V.int ↑(Builtin.Int.intBits (so - to)), V.int prec, V.str rnd] r]) : Dz w k 114 [(Str.ofString "_sub", V.int sub), (Str.ofString "rnd", V.str rnd), (Str.ofString "prec", V.int prec), (Str.ofString "t", V.tup [V.int ts, V.int to, V.int tx, V.int tb]), (Str.ofString "s", V.tup [V.int ss, V.int so, V.int sx, V.int sb])] (bdy w 114) (Fl.ret r) := run [Tk.t, Tk.t, Tk.f, Tk.f, Tk.f, Tk.t, Tk.t, Tk.r (r)] (by kernel_rfl!) h
theorem r_add_e_ft_z {w : World} {k : Nat} {ss so sx sb ts to tx tb prec sub : Int} {rnd : Str} {r : V} (h : All [(so != (0 : Int)) = true, (to != (0 : Int)) = true, (sx - tx != (0 : Int)) = false, (ss == Builtin.bitXor ts sub) = false, (ss != (0 : Int)) = false, decide ((0 : Int) ≤ so - to) = true, (prec != (0 : Int)) = false, Cz w k (nat_lit 45) [V.int (0 : Int), V.int (so - to), V.int tx, V.int ↑(Builtin.Int.intBits (so - to)), V.int ↑(Builtin.Int.intBits (so - to)), V.str rnd] r]) : Dz w k 114 [(Str.ofString "_sub", V.int sub), (Str.ofString "rnd", V.str rnd), (Str.ofString "prec", V.int prec), (Str.ofString "t", V.tup [V.int ts, V.int to, V.int tx, V.int tb]), (Str.ofString "s", V.tup [V.int ss, V.int so, V.int sx, V.int sb])] (bdy w 114) (Fl.ret r) := run [Tk.t, Tk.t, Tk.f, Tk.f, Tk.f, Tk.t, Tk.f, Tk.r (r)] (by kernel_rfl!) h
theorem r_add_e_ff_p {w : World} {k : Nat} {ss so sx sb ts to tx tb prec sub : Int} {rnd : Str} {r : V} (h : All [(so != (0 : Int)) = true, (to != (0 : Int)) = true, (sx - tx != (0 : Int)) = false, (ss == Builtin.bitXor ts sub) = false, (ss != (0 : Int)) = false, decide ((0 : Int) ≤ so - to) = false, (prec != (0 : Int)) = true, Cz w k (nat_lit 45) [V.int (1 : Int), V.int (-(so - to)), V.int tx, V.int ↑(Builtin.Int.intBits (-(so - to))), V.int prec, V.str rnd] r]) : Dz w k 114 [(Str.ofString "_sub", V.int sub), (Str.ofString "rnd", V.str rnd), (Str.ofString "prec", V.int prec), (Str.ofString "t", V.tup [V.int ts, V.int to, V.int tx, V.int tb]), (Str.ofString "s", V.tup [V.int ss, V.int so, V.int sx, V.int sb])] (bdy w 114) (Fl.ret r) := run [Tk.t, Tk.t, Tk.f, Tk.f, Tk.f, Tk.f, Tk.t, Tk.r (r)] (by kernel_rfl!) h
theorem r_add_e_ff_z {w : World} {k : Nat} {ss so sx sb ts to tx tb prec sub : Int} {rnd : Str} {r : V} (h : All [(so != (0 : Int)) = true, (to != (0 : Int)) = true, (sx - tx != (0 : Int)) = false, (ss == Builtin.bitXor ts sub) = false, (ss != (0 : Int)) = false, decide ((0 : Int) ≤ so - to) = false, (prec != (0 : Int)) = false, Cz w k (nat_lit 45) [V.int (1 : Int), V.int (-(so - to)), V.int tx, V.int ↑(Builtin.Int.intBits (-(so - to))), V.int ↑(Builtin.Int.intBits (-(so - to))), V.str rnd] r]) : Dz w k 114 [(Str.ofString "_sub", V.int sub), (Str.ofString "rnd", V.str rnd), (Str.ofString "prec", V.int prec), (Str.ofString "t", V.tup [V.int ts, V.int to, V.int tx, V.int tb]), (Str.ofString "s", V.tup [V.int ss, V.int so, V.int sx, V.int sb])] (bdy w 114) (Fl.ret r) := run [Tk.t, Tk.t, Tk.f, Tk.f, Tk.f, Tk.f, Tk.f, Tk.r (r)] (by kernel_rfl!) h
theorem r_add_sz {w : World} {k : Nat} {ss so sx sb prec sub : Int} {rnd : Str} {r z : V} (h : All [(so != (0 : Int)) = true, ((0 : Int) != (0 : Int)) = false, (sub != (0 : Int)) = false, (so != (0 : Int)) = true, ((0 : Int) != (0 : Int)) = false, (so != (0 : Int)) = true, (prec != (0 : Int)) = true, Cz w k (nat_lit 45) [V.int ss, V.int so, V.int sx, V.int sb, V.int prec, V.str rnd] r]) : Dz w k 114 [(Str.ofString "_sub", V.int sub), (Str.ofString "rnd", V.str rnd), (Str.ofString "prec", V.int prec), (Str.ofString "t", V.tup [V.int 0, V.int 0, V.int 0, V.int 0]), (Str.ofString "s", V.tup [V.int ss, V.int so, V.int sx, V.int sb])] (bdy w 114) (Fl.ret r) := run [Tk.t, Tk.f, Tk.f, Tk.t, Tk.f, Tk.t, Tk.t, Tk.r (r)] (by kernel_rfl!) h
theorem r_add_sz1 {w : World} {k : Nat} {ss so sx sb prec sub : Int} {rnd : Str} {r z : V} (h : All [(so != (0 : Int)) = true, ((0 : Int) != (0 : Int)) = false, (sub != (0 : Int)) = true, Cz w k (nat_lit 91) [V.tup [V.int (0 : Int), V.int (0 : Int), V.int (0 : Int), V.int (0 : Int)]] z, (so != (0 : Int)) = true, ((0 : Int) != (0 : Int)) = false, (so != (0 : Int)) = true, (prec != (0 : Int)) = true, Cz w k (nat_lit 45) [V.int ss, V.int so, V.int sx, V.int sb, V.int prec, V.str rnd] r]) : Dz w k 114 [(Str.ofString "_sub", V.int sub), (Str.ofString "rnd", V.str rnd), (Str.ofString "prec", V.int prec), (Str.ofString "t", V.tup [V.int 0, V.int 0, V.int 0, V.int 0]), (Str.ofString "s", V.tup [V.int ss, V.int so, V.int sx, V.int sb])] (bdy w 114) (Fl.ret r) := run [Tk.t, Tk.f, Tk.t, Tk.r (z), Tk.t, Tk.f, Tk.t, Tk.t, Tk.r (r)] (by kernel_rfl!) h
theorem r_add_zs {w : World} {k : Nat} {ss so sx sb prec sub : Int} {rnd : Str} {r z : V} (h : All [((0 : Int) != (0 : Int)) = false, (sub != (0 : Int)) = false, ((0 : Int) != (0 : Int)) = false, ((0 : Int) != (0 : Int)) = false, (so != (0 : Int)) = true, (prec != (0 : Int)) = true, Cz w k (nat_lit 45) [V.int (Builtin.bitXor ss sub), V.int so, V.int sx, V.int sb, V.int prec, V.str rnd] r]) : Dz w k 114 [(Str.ofString "_sub", V.int sub), (Str.ofString "rnd", V.str rnd), (Str.ofString "prec", V.int prec), (Str.ofString "t", V.tup [V.int ss, V.int so, V.int sx, V.int sb]), (Str.ofString "s", V.tup [V.int 0, V.int 0, V.int 0, V.int 0])] (bdy w 114) (Fl.ret r) := run [Tk.f, Tk.f, Tk.f, Tk.f, Tk.t, Tk.t, Tk.r (r)] (by kernel_rfl!) h
theorem r_add_zs1 {w : World} {k : Nat} {ss so sx sb prec sub : Int} {rnd : Str} {r z : V} (h : All [((0 : Int) != (0 : Int)) = false, (sub != (0 : Int)) = true, Cz w k (nat_lit 91) [V.tup [V.int ss, V.int so, V.int sx, V.int sb]] z, ((0 : Int) != (0 : Int)) = false, ((0 : Int) != (0 : Int)) = false, (so != (0 : Int)) = true, (prec != (0 : Int)) = true, Cz w k (nat_lit 45) [V.int (Builtin.bitXor ss sub), V.int so, V.int sx, V.int sb, V.int prec, V.str rnd] r]) : Dz w k 114 [(Str.ofString "_sub", V.int sub), (Str.ofString "rnd", V.str rnd), (Str.ofString "prec", V.int prec), (Str.ofString "t", V.tup [V.int ss, V.int so, V.int sx, V.int sb]), (Str.ofString "s", V.tup [V.int 0, V.int 0, V.int 0, V.int 0])] (bdy w 114) (Fl.ret r) := run [Tk.f, Tk.t, Tk.r (z), Tk.f, Tk.f, Tk.t, Tk.t, Tk.r (r)] (by kernel_rfl!) h
theorem r_sub {w : World} {k : Nat} {s t r : V} {prec : Int} {rnd : Str} (h : All [Cz w k (nat_lit 114) [s, t, V.int prec, V.str rnd, V.int (1 : Int)] r]) : Dz w k 122 [(Str.ofString "rnd", V.str rnd), (Str.ofString "prec", V.int prec), (Str.ofString "t", t), (Str.ofString "s", s)] (bdy w 122) (Fl.ret r) := run [Tk.r (r)] (by kernel_rfl!) h
theorem r_sum {w : World} {k : Nat} {xs xo xx xb prec mm ee : Int} {rnd : Str} {r : V} (h : All [IntMulOk prec (2 : Int), (prec * (2 : Int) != (0 : Int)) = true, Ez w k (130 : Addr) [(Str.ofString "absolute", V.bool false), (Str.ofString "rnd", V.str rnd), (Str.ofString "prec", V.int prec), (Str.ofString "xs", V.lst [V.tup [V.int xs, V.int xo, V.int xx, V.int xb]]), (Str.ofString "man", V.int (0 : Int)), (Str.ofString "exp", V.int (0 : Int)), (Str.ofString "max_extra_prec", V.int (prec * (2 : Int))), (Str.ofString "special", V.none)] (((bdy w 130).drop 4).headD default) [(Str.ofString "absolute", V.bool false), (Str.ofString "rnd", V.str rnd), (Str.ofString "prec", V.int prec), (Str.ofString "xs", V.lst [V.tup [V.int xs, V.int xo, V.int xx, V.int xb]]), (Str.ofString "man", V.int mm), (Str.ofString "exp", V.int ee), (Str.ofString "max_extra_prec", V.int (prec * (2 : Int))), (Str.ofString "special", V.none)], false = false, Cz w k (nat_lit 53) [V.int mm, V.int ee, V.int prec, V.str rnd] r]) : Dz w k 130 [(Str.ofString "absolute", V.bool false), (Str.ofString "rnd", V.str rnd), (Str.ofString "prec", V.int prec), (Str.ofString "xs", V.lst [V.tup [V.int xs, V.int xo, V.int xx, V.int xb]])] (bdy w 130) (Fl.ret r) := run [Tk.t, Tk.s 0 [(Str.ofString "absolute", V.bool false), (Str.ofString "rnd", V.str rnd), (Str.ofString "prec", V.int prec), (Str.ofString "xs", V.lst [V.tup [V.int xs, V.int xo, V.int xx, V.int xb]]), (Str.ofString "man", V.int mm), (Str.ofString "exp", V.int ee), (Str.ofString "max_extra_prec", V.int ((prec * 2))), (Str.ofString "special", V.none)], Tk.f, Tk.r (r)] (by kernel_rfl!) h
theorem r_sumb_ma {w : World} {k : Nat} {xs xo xx xb prec mx : Int} {rnd : Str} (h : All [(xo != (0 : Int)) = true, (xs != (0 : Int)) = true, false = false, decide ((0 : Int) ≤ xx) = true, decide (mx < xx - (0 : Int)) = true, ((0 : Int) != (0 : Int)) = false]) : Dz w k 130 [(Str.ofString "absolute", V.bool false), (Str.ofString "rnd", V.str rnd), (Str.ofString "prec", V.int prec), (Str.ofString "man", V.int 0), (Str.ofString "exp", V.int 0), (Str.ofString "max_extra_prec", V.int mx), (Str.ofString "special", V.none), (Str.ofString "x", V.tup [V.int xs, V.int xo, V.int xx, V.int xb])] (sumBody w) (Fl.next [(Str.ofString "absolute", V.bool false), (Str.ofString "rnd", V.str rnd), (Str.ofString "prec", V.int prec), (Str.ofString "man", V.int (-xo)), (Str.ofString "exp", V.int xx), (Str.ofString "max_extra_prec", V.int mx), (Str.ofString "special", V.none), (Str.ofString "x", V.tup [V.int xs, V.int xo, V.int xx, V.int xb]), (Str.ofString "xsign", V.int xs), (Str.ofString "xman", V.int (-xo)), (Str.ofString "xexp", V.int xx), (Str.ofString "xbc", V.int xb), (Str.ofString "delta", V.int (xx - (0 : Int)))]) := run [Tk.t, Tk.t, Tk.f, Tk.t, Tk.t, Tk.f] (by kernel_rfl!) h
theorem r_sumb_mb {w : World} {k : Nat} {xs xo xx xb prec mx : Int} {rnd : Str} (h : All [(xo != (0 : Int)) = true, (xs != (0 : Int)) = true, false = false, decide ((0 : Int) ≤ xx) = true, decide (mx < xx - (0 : Int)) = false, ShOk (-xo) (xx - (0 : Int))]) : Dz w k 130 [(Str.ofString "absolute", V.bool false), (Str.ofString "rnd", V.str rnd), (Str.ofString "prec", V.int prec), (Str.ofString "man", V.int 0), (Str.ofString "exp", V.int 0), (Str.ofString "max_extra_prec", V.int mx), (Str.ofString "special", V.none), (Str.ofString "x", V.tup [V.int xs, V.int xo, V.int xx, V.int xb])] (sumBody w) (Fl.next [(Str.ofString "absolute", V.bool false), (Str.ofString "rnd", V.str rnd), (Str.ofString "prec", V.int prec), (Str.ofString "man", V.int ((0 : Int) + -xo * (2 : Int) ^ Int.toNat (xx - (0 : Int)))), (Str.ofString "exp", V.int (0 : Int)), (Str.ofString "max_extra_prec", V.int mx), (Str.ofString "special", V.none), (Str.ofString "x", V.tup [V.int xs, V.int xo, V.int xx, V.int xb]), (Str.ofString "xsign", V.int xs), (Str.ofString "xman", V.int (-xo)), (Str.ofString "xexp", V.int xx), (Str.ofString "xbc", V.int xb), (Str.ofString "delta", V.int (xx - (0 : Int)))]) := run [Tk.t, Tk.t, Tk.f, Tk.t, Tk.f] (by kernel_rfl!) h
theorem r_sumb_mc {w : World} {k : Nat} {xs xo xx xb prec mx : Int} {rnd : Str} (h : All [(xo != (0 : Int)) = true, (xs != (0 : Int)) = true, false = false, decide ((0 : Int) ≤ xx) = false, decide (mx < -(xx - (0 : Int)) - xb) = true, ((0 : Int) != (0 : Int)) = false]) : Dz w k 130 [(Str.ofString "absolute", V.bool false), (Str.ofString "rnd", V.str rnd), (Str.ofString "prec", V.int prec), (Str.ofString "man", V.int 0), (Str.ofString "exp", V.int 0), (Str.ofString "max_extra_prec", V.int mx), (Str.ofString "special", V.none), (Str.ofString "x", V.tup [V.int xs, V.int xo, V.int xx, V.int xb])] (sumBody w) (Fl.next [(Str.ofString "absolute", V.bool false), (Str.ofString "rnd", V.str rnd), (Str.ofString "prec", V.int prec), (Str.ofString "man", V.int (-xo)), (Str.ofString "exp", V.int xx), (Str.ofString "max_extra_prec", V.int mx), (Str.ofString "special", V.none), (Str.ofString "x", V.tup [V.int xs, V.int xo, V.int xx, V.int xb]), (Str.ofString "xsign", V.int xs), (Str.ofString "xman", V.int (-xo)), (Str.ofString "xexp", V.int xx), (Str.ofString "xbc", V.int xb), (Str.ofString "delta", V.int (-(xx - (0 : Int))))]) := run [Tk.t, Tk.t, Tk.f, Tk.f, Tk.t, Tk.f] (by kernel_rfl!) h
theorem r_sumb_md {w : World} {k : Nat} {xs xo xx xb prec mx : Int} {rnd : Str} (h : All [(xo != (0 : Int)) = true, (xs != (0 : Int)) = true, false = false, decide ((0 : Int) ≤ xx) = false, decide (mx < -(xx - (0 : Int)) - xb) = false, ShOk (0 : Int) (-(xx - (0 : Int)))]) : Dz w k 130 [(Str.ofString "absolute", V.bool false), (Str.ofString "rnd", V.str rnd), (Str.ofString "prec", V.int prec), (Str.ofString "man", V.int 0), (Str.ofString "exp", V.int 0), (Str.ofString "max_extra_prec", V.int mx), (Str.ofString "special", V.none), (Str.ofString "x", V.tup [V.int xs, V.int xo, V.int xx, V.int xb])] (sumBody w) (Fl.next [(Str.ofString "absolute", V.bool false), (Str.ofString "rnd", V.str rnd), (Str.ofString "prec", V.int prec), (Str.ofString "man", V.int ((0 : Int) * (2 : Int) ^ Int.toNat (-(xx - (0 : Int))) + -xo)), (Str.ofString "exp", V.int xx), (Str.ofString "max_extra_prec", V.int mx), (Str.ofString "special", V.none), (Str.ofString "x", V.tup [V.int xs, V.int xo, V.int xx, V.int xb]), (Str.ofString "xsign", V.int xs), (Str.ofString "xman", V.int (-xo)), (Str.ofString "xexp", V.int xx), (Str.ofString "xbc", V.int xb), (Str.ofString "delta", V.int (-(xx - (0 : Int))))]) := run [Tk.t, Tk.t, Tk.f, Tk.f, Tk.f] (by kernel_rfl!) h
theorem r_sumb_pa {w : World} {k : Nat} {xs xo xx xb prec mx : Int} {rnd : Str} (h : All [(xo != (0 : Int)) = true, (xs != (0 : Int)) = false, decide ((0 : Int) ≤ xx) = true, decide (mx < xx - (0 : Int)) = true, ((0 : Int) != (0 : Int)) = false]) : Dz w k 130 [(Str.ofString "absolute", V.bool false), (Str.ofString "rnd", V.str rnd), (Str.ofString "prec", V.int prec), (Str.ofString "man", V.int 0), (Str.ofString "exp", V.int 0), (Str.ofString "max_extra_prec", V.int mx), (Str.ofString "special", V.none), (Str.ofString "x", V.tup [V.int xs, V.int xo, V.int xx, V.int xb])] (sumBody w) (Fl.next [(Str.ofString "absolute", V.bool false), (Str.ofString "rnd", V.str rnd), (Str.ofString "prec", V.int prec), (Str.ofString "man", V.int xo), (Str.ofString "exp", V.int xx), (Str.ofString "max_extra_prec", V.int mx), (Str.ofString "special", V.none), (Str.ofString "x", V.tup [V.int xs, V.int xo, V.int xx, V.int xb]), (Str.ofString "xsign", V.int xs), (Str.ofString "xman", V.int xo), (Str.ofString "xexp", V.int xx), (Str.ofString "xbc", V.int xb), (Str.ofString "delta", V.int (xx - (0 : Int)))]) := run [Tk.t, Tk.f, Tk.t, Tk.t, Tk.f] (by kernel_rfl!) h
theorem r_sumb_pb {w : World} {k : Nat} {xs xo xx xb prec mx : Int} {rnd : Str} (h : All [(xo != (0 : Int)) = true, (xs != (0 : Int)) = false, decide ((0 : Int) ≤ xx) = true, decide (mx < xx - (0 : Int)) = false, ShOk xo (xx - (0 : Int))]) : Dz w k 130 [(Str.ofString "absolute", V.bool false), (Str.ofString "rnd", V.str rnd), (Str.ofString "prec", V.int prec), (Str.ofString "man", V.int 0), (Str.ofString "exp", V.int 0), (Str.ofString "max_extra_prec", V.int mx), (Str.ofString "special", V.none), (Str.ofString "x", V.tup [V.int xs, V.int xo, V.int xx, V.int xb])] (sumBody w) (Fl.next [(Str.ofString "absolute", V.bool false), (Str.ofString "rnd", V.str rnd), (Str.ofString "prec", V.int prec), (Str.ofString "man", V.int ((0 : Int) + xo * (2 : Int) ^ Int.toNat (xx - (0 : Int)))), (Str.ofString "exp", V.int (0 : Int)), (Str.ofString "max_extra_prec", V.int mx), (Str.ofString "special", V.none), (Str.ofString "x", V.tup [V.int xs, V.int xo, V.int xx, V.int xb]), (Str.ofString "xsign", V.int xs), (Str.ofString "xman", V.int xo), (Str.ofString "xexp", V.int xx), (Str.ofString "xbc", V.int xb), (Str.ofString "delta", V.int (xx - (0 : Int)))]) := run [Tk.t, Tk.f, Tk.t, Tk.f] (by kernel_rfl!) h
theorem r_sumb_pc {w : World} {k : Nat} {xs xo xx xb prec mx : Int} {rnd : Str} (h : All [(xo != (0 : Int)) = true, (xs != (0 : Int)) = false, decide ((0 : Int) ≤ xx) = false, decide (mx < -(xx - (0 : Int)) - xb) = true, ((0 : Int) != (0 : Int)) = false]) : Dz w k 130 [(Str.ofString "absolute", V.bool false), (Str.ofString "rnd", V.str rnd), (Str.ofString "prec", V.int prec), (Str.ofString "man", V.int 0), (Str.ofString "exp", V.int 0), (Str.ofString "max_extra_prec", V.int mx), (Str.ofString "special", V.none), (Str.ofString "x", V.tup [V.int xs, V.int xo, V.int xx, V.int xb])] (sumBody w) (Fl.next [(Str.ofString "absolute", V.bool false), (Str.ofString "rnd", V.str rnd), (Str.ofString "prec", V.int prec), (Str.ofString "man", V.int xo), (Str.ofString "exp", V.int xx), (Str.ofString "max_extra_prec", V.int mx), (Str.ofString "special", V.none), (Str.ofString "x", V.tup [V.int xs, V.int xo, V.int xx, V.int xb]), (Str.ofString "xsign", V.int xs), (Str.ofString "xman", V.int xo), (Str.ofString "xexp", V.int xx), (Str.ofString "xbc", V.int xb), (Str.ofString "delta", V.int (-(xx - (0 : Int))))]) := run [Tk.t, Tk.f, Tk.f, Tk.t, Tk.f] (by kernel_rfl!) h
theorem r_sumb_pd {w : World} {k : Nat} {xs xo xx xb prec mx : Int} {rnd : Str} (h : All [(xo != (0 : Int)) = true, (xs != (0 : Int)) = false, decide ((0 : Int) ≤ xx) = false, decide (mx < -(xx - (0 : Int)) - xb) = false, ShOk (0 : Int) (-(xx - (0 : Int)))]) : Dz w k 130 [(Str.ofString "absolute", V.bool false), (Str.ofString "rnd", V.str rnd), (Str.ofString "prec", V.int prec), (Str.ofString "man", V.int 0), (Str.ofString "exp", V.int 0), (Str.ofString "max_extra_prec", V.int mx), (Str.ofString "special", V.none), (Str.ofString "x", V.tup [V.int xs, V.int xo, V.int xx, V.int xb])] (sumBody w) (Fl.next [(Str.ofString "absolute", V.bool false), (Str.ofString "rnd", V.str rnd), (Str.ofString "prec", V.int prec), (Str.ofString "man", V.int ((0 : Int) * (2 : Int) ^ Int.toNat (-(xx - (0 : Int))) + xo)), (Str.ofString "exp", V.int xx), (Str.ofString "max_extra_prec", V.int mx), (Str.ofString "special", V.none), (Str.ofString "x", V.tup [V.int xs, V.int xo, V.int xx, V.int xb]), (Str.ofString "xsign", V.int xs), (Str.ofString "xman", V.int xo), (Str.ofString "xexp", V.int xx), (Str.ofString "xbc", V.int xb), (Str.ofString "delta", V.int (-(xx - (0 : Int))))]) := run [Tk.t, Tk.f, Tk.f, Tk.f] (by kernel_rfl!) h
theorem r_mul_z {w : World} {k : Nat} {ss so sx sb ts to tx tb prec : Int} {rnd : Str} {r : V} (h : All [IntMulOk so to, (so * to != (0 : Int)) = true, (prec != (0 : Int)) = false]) : Dz w k 138 [(Str.ofString "rnd", V.str rnd), (Str.ofString "prec", V.int prec), (Str.ofString "t", V.tup [V.int ts, V.int to, V.int tx, V.int tb]), (Str.ofString "s", V.tup [V.int ss, V.int so, V.int sx, V.int sb])] (bdy w 138) (Fl.ret (V.tup [V.int (Builtin.bitXor ss ts), V.int (so * to), V.int (sx + tx), V.int ↑(Builtin.Int.intBits (so * to))])) := run [Tk.t, Tk.f] (by kernel_rfl!) h
theorem r_mul_p {w : World} {k : Nat} {ss so sx sb ts to tx tb prec : Int} {rnd : Str} {r : V} (h : All [IntMulOk so to, (so * to != (0 : Int)) = true, (prec != (0 : Int)) = true, Cz w k (nat_lit 45) [V.int (Builtin.bitXor ss ts), V.int (so * to), V.int (sx + tx), V.int ↑(Builtin.Int.intBits (so * to)), V.int prec, V.str rnd] r]) : Dz w k 138 [(Str.ofString "rnd", V.str rnd), (Str.ofString "prec", V.int prec), (Str.ofString "t", V.tup [V.int ts, V.int to, V.int tx, V.int tb]), (Str.ofString "s", V.tup [V.int ss, V.int so, V.int sx, V.int sb])] (bdy w 138) (Fl.ret r) := run [Tk.t, Tk.t, Tk.r (r)] (by kernel_rfl!) h
theorem r_muli {w : World} {k : Nat} {ss so sx sb prec n : Int} {rnd : Str} {r : V} (h : All [(so != (0 : Int)) = true, (n != (0 : Int)) = true, decide (n < (0 : Int)) = false, IntMulOk so n, (0 : Int) ≤ sb + (↑(Builtin.Int.intBits n) - (1 : Int)), Cz w k (nat_lit 45) [V.int ss, V.int (so * n), V.int sx, V.int (sb + (↑(Builtin.Int.intBits n) - (1 : Int)) + Int.fdiv (so * n) ((2 : Int) ^ Int.toNat (sb + (↑(Builtin.Int.intBits n) - (1 : Int))))), V.int prec, V.str rnd] r]) : Dz w k 146 [(Str.ofString "rnd", V.str rnd), (Str.ofString "prec", V.int prec), (Str.ofString "n", V.int n), (Str.ofString "s", V.tup [V.int ss, V.int so, V.int sx, V.int sb])] (bdy w 146) (Fl.ret r) := run [Tk.t, Tk.t, Tk.f, Tk.r (r)] (by kernel_rfl!) h
theorem r_shift {w : World} {k : Nat} {ss so sx sb n : Int} (h : All [(so != (0 : Int)) = true]) : Dz w k 153 [(Str.ofString "n", V.int n), (Str.ofString "s", V.tup [V.int ss, V.int so, V.int sx, V.int sb])] (bdy w 153) (Fl.ret (V.tup [V.int ss, V.int so, V.int (sx + n), V.int sb])) := run [Tk.t] (by kernel_rfl!) h
theorem r_frexp {w : World} {k : Nat} {ss so sx sb : Int} {r : V} (h : All [(so != (0 : Int)) = true, Cz w k (nat_lit 153) [V.tup [V.int ss, V.int so, V.int sx, V.int sb], V.int (-sb - sx)] r]) : Dz w k 160 [(Str.ofString "x", V.tup [V.int ss, V.int so, V.int sx, V.int sb])] (bdy w 160) (Fl.ret (V.tup [r, V.int (sb + sx)])) := run [Tk.t, Tk.r (r)] (by kernel_rfl!) h
theorem r_div {w : World} {k : Nat} {ss so sx sb ts to tx tb prec : Int} {rnd : Str} {r : V} (h : All [(so != (0 : Int)) = true, (to != (0 : Int)) = true, (to == (1 : Int)) = true, Cz w k (nat_lit 45) [V.int (Builtin.bitXor ss ts), V.int so, V.int (sx - tx), V.int sb, V.int prec, V.str rnd] r]) : Dz w k 168 [(Str.ofString "rnd", V.str rnd), (Str.ofString "prec", V.int prec), (Str.ofString "t", V.tup [V.int ts, V.int to, V.int tx, V.int tb]), (Str.ofString "s", V.tup [V.int ss, V.int so, V.int sx, V.int sb])] (bdy w 168) (Fl.ret r) := run [Tk.t, Tk.t, Tk.t, Tk.r (r)] (by kernel_rfl!) h
theorem r_powi {w : World} {k : Nat} {ss so sx sb prec n : Int} {rnd : Str} {r : V} (h : All [(so != (0 : Int)) = true, (n == (0 : Int)) = false, (n == (1 : Int)) = true, Cz w k (nat_lit 83) [V.tup [V.int ss, V.int so, V.int sx, V.int sb], V.int prec, V.str rnd] r]) : Dz w k 177 [(Str.ofString "rnd", V.str rnd), (Str.ofString "prec", V.int prec), (Str.ofString "n", V.int n), (Str.ofString "s", V.tup [V.int ss, V.int so, V.int sx, V.int sb])] (bdy w 177) (Fl.ret r) := run [Tk.t, Tk.f, Tk.t, Tk.r (r)] (by kernel_rfl!) h
theorem r_pert_n {w : World} {k : Nat} {ss so sx sb eps prec : Int} {rnd : Str} {r : V} (h : All [(rnd == Str.ofString "n") = true, Cz w k (nat_lit 83) [V.tup [V.int ss, V.int so, V.int sx, V.int sb], V.int prec, V.str rnd] r]) : Dz w k 184 [(Str.ofString "rnd", V.str rnd), (Str.ofString "prec", V.int prec), (Str.ofString "eps_sign", V.int eps), (Str.ofString "x", V.tup [V.int ss, V.int so, V.int sx, V.int sb])] (bdy w 184) (Fl.ret r) := run [Tk.t, Tk.r (r)] (by kernel_rfl!) h
theorem r_pert_ma {w : World} {k : Nat} {ss so sx sb eps prec : Int} {rnd : Str} {r : V} (h : All [(rnd == Str.ofString "n") = false, (ss != (0 : Int)) = true, (Builtin.bitXor (if (List.any [Str.ofString "d", Str.ofString "c"] fun x => x == rnd) = true then (1 : Int) else (0 : Int)) eps != (0 : Int)) = true, Cz w k (nat_lit 114) [V.tup [V.int ss, V.int so, V.int sx, V.int sb], V.tup [V.int eps, V.int (1 : Int), V.int (sx + sb - prec - (1 : Int)), V.int (1 : Int)], V.int prec, V.str rnd] r]) : Dz w k 184 [(Str.ofString "rnd", V.str rnd), (Str.ofString "prec", V.int prec), (Str.ofString "eps_sign", V.int eps), (Str.ofString "x", V.tup [V.int ss, V.int so, V.int sx, V.int sb])] (bdy w 184) (Fl.ret r) := run [Tk.f, Tk.t, Tk.t, Tk.r (r)] (by kernel_rfl!) h
theorem r_pert_mb {w : World} {k : Nat} {ss so sx sb eps prec : Int} {rnd : Str} {r : V} (h : All [(rnd == Str.ofString "n") = false, (ss != (0 : Int)) = true, (Builtin.bitXor (if (List.any [Str.ofString "d", Str.ofString "c"] fun x => x == rnd) = true then (1 : Int) else (0 : Int)) eps != (0 : Int)) = false, Cz w k (nat_lit 83) [V.tup [V.int ss, V.int so, V.int sx, V.int sb], V.int prec, V.str rnd] r]) : Dz w k 184 [(Str.ofString "rnd", V.str rnd), (Str.ofString "prec", V.int prec), (Str.ofString "eps_sign", V.int eps), (Str.ofString "x", V.tup [V.int ss, V.int so, V.int sx, V.int sb])] (bdy w 184) (Fl.ret r) := run [Tk.f, Tk.t, Tk.f, Tk.r (r)] (by kernel_rfl!) h
theorem r_pert_pa {w : World} {k : Nat} {ss so sx sb eps prec : Int} {rnd : Str} {r : V} (h : All [(rnd == Str.ofString "n") = false, (ss != (0 : Int)) = false, (Builtin.bitXor (if (List.any [Str.ofString "u", Str.ofString "c"] fun x => x == rnd) = true then (1 : Int) else (0 : Int)) eps != (0 : Int)) = true, Cz w k (nat_lit 114) [V.tup [V.int ss, V.int so, V.int sx, V.int sb], V.tup [V.int eps, V.int (1 : Int), V.int (sx + sb - prec - (1 : Int)), V.int (1 : Int)], V.int prec, V.str rnd] r]) : Dz w k 184 [(Str.ofString "rnd", V.str rnd), (Str.ofString "prec", V.int prec), (Str.ofString "eps_sign", V.int eps), (Str.ofString "x", V.tup [V.int ss, V.int so, V.int sx, V.int sb])] (bdy w 184) (Fl.ret r) := run [Tk.f, Tk.f, Tk.t, Tk.r (r)] (by kernel_rfl!) h
theorem r_pert_pb {w : World} {k : Nat} {ss so sx sb eps prec : Int} {rnd : Str} {r : V} (h : All [(rnd == Str.ofString "n") = false, (ss != (0 : Int)) = false, (Builtin.bitXor (if (List.any [Str.ofString "u", Str.ofString "c"] fun x => x == rnd) = true then (1 : Int) else (0 : Int)) eps != (0 : Int)) = false, Cz w k (nat_lit 83) [V.tup [V.int ss, V.int so, V.int sx, V.int sb], V.int prec, V.str rnd] r]) : Dz w k 184 [(Str.ofString "rnd", V.str rnd), (Str.ofString "prec", V.int prec), (Str.ofString "eps_sign", V.int eps), (Str.ofString "x", V.tup [V.int ss, V.int so, V.int sx, V.int sb])] (bdy w 184) (Fl.ret r) := run [Tk.f, Tk.f, Tk.f, Tk.r (r)] (by kernel_rfl!) h
theorem r_cmp_eq {w : World} {k : Nat} {ss so sx sb ts to tx tb : Int} {r : V} (h : All [(so != (0 : Int)) = true, (to != (0 : Int)) = true, (ss != ts) = false, (sx == tx) = true, (so == to) = true]) : Dz w k 68 [(Str.ofString "t", V.tup [V.int ts, V.int to, V.int tx, V.int tb]), (Str.ofString "s", V.tup [V.int ss, V.int so, V.int sx, V.int sb])] (bdy w 68) (Fl.ret (V.int (0 : Int))) := run [Tk.t, Tk.t, Tk.f, Tk.t, Tk.t] (by kernel_rfl!) h
theorem r_cmp_egm {w : World} {k : Nat} {ss so sx sb ts to tx tb : Int} {r : V} (h : All [(so != (0 : Int)) = true, (to != (0 : Int)) = true, (ss != ts) = false, (sx == tx) = true, (so == to) = false, decide (to < so) = true, (ss != (0 : Int)) = true]) : Dz w k 68 [(Str.ofString "t", V.tup [V.int ts, V.int to, V.int tx, V.int tb]), (Str.ofString "s", V.tup [V.int ss, V.int so, V.int sx, V.int sb])] (bdy w 68) (Fl.ret (V.int (-1 : Int))) := run [Tk.t, Tk.t, Tk.f, Tk.t, Tk.f, Tk.t, Tk.t] (by kernel_rfl!) h
theorem r_cmp_egp {w : World} {k : Nat} {ss so sx sb ts to tx tb : Int} {r : V} (h : All [(so != (0 : Int)) = true, (to != (0 : Int)) = true, (ss != ts) = false, (sx == tx) = true, (so == to) = false, decide (to < so) = true, (ss != (0 : Int)) = false]) : Dz w k 68 [(Str.ofString "t", V.tup [V.int ts, V.int to, V.int tx, V.int tb]), (Str.ofString "s", V.tup [V.int ss, V.int so, V.int sx, V.int sb])] (bdy w 68) (Fl.ret (V.int (1 : Int))) := run [Tk.t, Tk.t, Tk.f, Tk.t, Tk.f, Tk.t, Tk.f] (by kernel_rfl!) h
theorem r_cmp_elm {w : World} {k : Nat} {ss so sx sb ts to tx tb : Int} {r : V} (h : All [(so != (0 : Int)) = true, (to != (0 : Int)) = true, (ss != ts) = false, (sx == tx) = true, (so == to) = false, decide (to < so) = false, (ss != (0 : Int)) = true]) : Dz w k 68 [(Str.ofString "t", V.tup [V.int ts, V.int to, V.int tx, V.int tb]), (Str.ofString "s", V.tup [V.int ss, V.int so, V.int sx, V.int sb])] (bdy w 68) (Fl.ret (V.int (1 : Int))) := run [Tk.t, Tk.t, Tk.f, Tk.t, Tk.f, Tk.f, Tk.t] (by kernel_rfl!) h
theorem r_cmp_elp {w : World} {k : Nat} {ss so sx sb ts to tx tb : Int} {r : V} (h : All [(so != (0 : Int)) = true, (to != (0 : Int)) = true, (ss != ts) = false, (sx == tx) = true, (so == to) = false, decide (to < so) = false, (ss != (0 : Int)) = false]) : Dz w k 68 [(Str.ofString "t", V.tup [V.int ts, V.int to, V.int tx, V.int tb]), (Str.ofString "s", V.tup [V.int ss, V.int so, V.int sx, V.int sb])] (bdy w 68) (Fl.ret (V.int (-1 : Int))) := run [Tk.t, Tk.t, Tk.f, Tk.t, Tk.f, Tk.f, Tk.f] (by kernel_rfl!) h
theorem r_cmp_ltm {w : World} {k : Nat} {ss so sx sb ts to tx tb : Int} {r : V} (h : All [(so != (0 : Int)) = true, (to != (0 : Int)) = true, (ss != ts) = false, (sx == tx) = false, (ss != (0 : Int)) = true, decide (sb + sx < tb + tx) = true]) : Dz w k 68 [(Str.ofString "t", V.tup [V.int ts, V.int to, V.int tx, V.int tb]), (Str.ofString "s", V.tup [V.int ss, V.int so, V.int sx, V.int sb])] (bdy w 68) (Fl.ret (V.int (1 : Int))) := run [Tk.t, Tk.t, Tk.f, Tk.f, Tk.t, Tk.t] (by kernel_rfl!) h
theorem r_cmp_gtm {w : World} {k : Nat} {ss so sx sb ts to tx tb : Int} {r : V} (h : All [(so != (0 : Int)) = true, (to != (0 : Int)) = true, (ss != ts) = false, (sx == tx) = false, (ss != (0 : Int)) = true, decide (sb + sx < tb + tx) = false, decide (tb + tx < sb + sx) = true]) : Dz w k 68 [(Str.ofString "t", V.tup [V.int ts, V.int to, V.int tx, V.int tb]), (Str.ofString "s", V.tup [V.int ss, V.int so, V.int sx, V.int sb])] (bdy w 68) (Fl.ret (V.int (-1 : Int))) := run [Tk.t, Tk.t, Tk.f, Tk.f, Tk.t, Tk.f, Tk.t] (by kernel_rfl!) h
theorem r_cmp_dmn {w : World} {k : Nat} {ss so sx sb ts to tx tb : Int} {r : V} {ds dm de db : Int} (h : All [(so != (0 : Int)) = true, (to != (0 : Int)) = true, (ss != ts) = false, (sx == tx) = false, (ss != (0 : Int)) = true, decide (sb + sx < tb + tx) = false, decide (tb + tx < sb + sx) = false, Cz w k (nat_lit 122) [V.tup [V.int ss, V.int so, V.int sx, V.int sb], V.tup [V.int ts, V.int to, V.int tx, V.int tb], V.int (5 : Int), V.str (Str.ofString "f")] (V.tup [V.int ds, V.int dm, V.int de, V.int db]), (ds != (0 : Int)) = true]) : Dz w k 68 [(Str.ofString "t", V.tup [V.int ts, V.int to, V.int tx, V.int tb]), (Str.ofString "s", V.tup [V.int ss, V.int so, V.int sx, V.int sb])] (bdy w 68) (Fl.ret (V.int (-1 : Int))) := run [Tk.t, Tk.t, Tk.f, Tk.f, Tk.t, Tk.f, Tk.f, Tk.r (V.tup [V.int ds, V.int dm, V.int de, V.int db]), Tk.t] (by kernel_rfl!) h
theorem r_cmp_dmq {w : World} {k : Nat} {ss so sx sb ts to tx tb : Int} {r : V} {ds dm de db : Int} (h : All [(so != (0 : Int)) = true, (to != (0 : Int)) = true, (ss != ts) = false, (sx == tx) = false, (ss != (0 : Int)) = true, decide (sb + sx < tb + tx) = false, decide (tb + tx < sb + sx) = false, Cz w k (nat_lit 122) [V.tup [V.int ss, V.int so, V.int sx, V.int sb], V.tup [V.int ts, V.int to, V.int tx, V.int tb], V.int (5 : Int), V.str (Str.ofString "f")] (V.tup [V.int ds, V.int dm, V.int de, V.int db]), (ds != (0 : Int)) = false]) : Dz w k 68 [(Str.ofString "t", V.tup [V.int ts, V.int to, V.int tx, V.int tb]), (Str.ofString "s", V.tup [V.int ss, V.int so, V.int sx, V.int sb])] (bdy w 68) (Fl.ret (V.int (1 : Int))) := run [Tk.t, Tk.t, Tk.f, Tk.f, Tk.t, Tk.f, Tk.f, Tk.r (V.tup [V.int ds, V.int dm, V.int de, V.int db]), Tk.f] (by kernel_rfl!) h
theorem r_cmp_ltp {w : World} {k : Nat} {ss so sx sb ts to tx tb : Int} {r : V} (h : All [(so != (0 : Int)) = true, (to != (0 : Int)) = true, (ss != ts) = false, (sx == tx) = false, (ss != (0 : Int)) = false, decide (sb + sx < tb + tx) = true]) : Dz w k 68 [(Str.ofString "t", V.tup [V.int ts, V.int to, V.int tx, V.int tb]), (Str.ofString "s", V.tup [V.int ss, V.int so, V.int sx, V.int sb])] (bdy w 68) (Fl.ret (V.int (-1 : Int))) := run [Tk.t, Tk.t, Tk.f, Tk.f, Tk.f, Tk.t] (by kernel_rfl!) h
theorem r_cmp_gtp {w : World} {k : Nat} {ss so sx sb ts to tx tb : Int} {r : V} (h : All [(so != (0 : Int)) = true, (to != (0 : Int)) = true, (ss != ts) = false, (sx == tx) = false, (ss != (0 : Int)) = false, decide (sb + sx < tb + tx) = false, decide (tb + tx < sb + sx) = true]) : Dz w k 68 [(Str.ofString "t", V.tup [V.int ts, V.int to, V.int tx, V.int tb]), (Str.ofString "s", V.tup [V.int ss, V.int so, V.int sx, V.int sb])] (bdy w 68) (Fl.ret (V.int (1 : Int))) := run [Tk.t, Tk.t, Tk.f, Tk.f, Tk.f, Tk.f, Tk.t] (by kernel_rfl!) h
theorem r_cmp_dpn {w : World} {k : Nat} {ss so sx sb ts to tx tb : Int} {r : V} {ds dm de db : Int} (h : All [(so != (0 : Int)) = true, (to != (0 : Int)) = true, (ss != ts) = false, (sx == tx) = false, (ss != (0 : Int)) = false, decide (sb + sx < tb + tx) = false, decide (tb + tx < sb + sx) = false, Cz w k (nat_lit 122) [V.tup [V.int ss, V.int so, V.int sx, V.int sb], V.tup [V.int ts, V.int to, V.int tx, V.int tb], V.int (5 : Int), V.str (Str.ofString "f")] (V.tup [V.int ds, V.int dm, V.int de, V.int db]), (ds != (0 : Int)) = true]) : Dz w k 68 [(Str.ofString "t", V.tup [V.int ts, V.int to, V.int tx, V.int tb]), (Str.ofString "s", V.tup [V.int ss, V.int so, V.int sx, V.int sb])] (bdy w 68) (Fl.ret (V.int (-1 : Int))) := run [Tk.t, Tk.t, Tk.f, Tk.f, Tk.f, Tk.f, Tk.f, Tk.r (V.tup [V.int ds, V.int dm, V.int de, V.int db]), Tk.t] (by kernel_rfl!) h
theorem r_cmp_dpq {w : World} {k : Nat} {ss so sx sb ts to tx tb : Int} {r : V} {ds dm de db : Int} (h : All [(so != (0 : Int)) = true, (to != (0 : Int)) = true, (ss != ts) = false, (sx == tx) = false, (ss != (0 : Int)) = false, decide (sb + sx < tb + tx) = false, decide (tb + tx < sb + sx) = false, Cz w k (nat_lit 122) [V.tup [V.int ss, V.int so, V.int sx, V.int sb], V.tup [V.int ts, V.int to, V.int tx, V.int tb], V.int (5 : Int), V.str (Str.ofString "f")] (V.tup [V.int ds, V.int dm, V.int de, V.int db]), (ds != (0 : Int)) = false]) : Dz w k 68 [(Str.ofString "t", V.tup [V.int ts, V.int to, V.int tx, V.int tb]), (Str.ofString "s", V.tup [V.int ss, V.int so, V.int sx, V.int sb])] (bdy w 68) (Fl.ret (V.int (1 : Int))) := run [Tk.t, Tk.t, Tk.f, Tk.f, Tk.f, Tk.f, Tk.f, Tk.r (V.tup [V.int ds, V.int dm, V.int de, V.int db]), Tk.f] (by kernel_rfl!) h
theorem r_lt {w : World} {k : Nat} {ss so sx sb ts to tx tb c : Int} (h : All [Mine.same (V.tup [V.int ss, V.int so, V.int sx, V.int sb]) (V.tup [V.int (0 : Int), V.int (0 : Int), V.int (-123 : Int), V.int (-1 : Int)]) = false, Mine.same (V.tup [V.int ts, V.int to, V.int tx, V.int tb]) (V.tup [V.int (0 : Int), V.int (0 : Int), V.int (-123 : Int), V.int (-1 : Int)]) = false, Cz w k (nat_lit 68) [V.tup [V.int ss, V.int so, V.int sx, V.int sb], V.tup [V.int ts, V.int to, V.int tx, V.int tb]] (V.int c)]) : Dz w k 75 [(Str.ofString "t", V.tup [V.int ts, V.int to, V.int tx, V.int tb]), (Str.ofString "s", V.tup [V.int ss, V.int so, V.int sx, V.int sb])] (bdy w 75) (Fl.ret (V.bool (decide (c < (0 : Int))))) := run [Tk.f, Tk.f, Tk.r (V.int c)] (by kernel_rfl!) h
theorem r_rung {w : World} {k : Nat} {minus p rank sp x o : Int} (h : All [ShOk (1 : Int) (p - (1 : Int)), (1 : Int) * (2 : Int) ^ Int.toNat (p - (1 : Int)) ≠ (0 : Int), DvOk ((1 : Int) * (2 : Int) ^ Int.toNat (p - (1 : Int))), Ez w k (191 : Addr) [(Str.ofString "minus", V.int minus), (Str.ofString "p", V.int p), (Str.ofString "rank", V.int rank), (Str.ofString "span", V.int ((1 : Int) * (2 : Int) ^ Int.toNat (p - (1 : Int)))), (Str.ofString "e", V.int (Int.fdiv rank ((1 : Int) * (2 : Int) ^ Int.toNat (p - (1 : Int))))), (Str.ofString "m", V.int ((1 : Int) * (2 : Int) ^ Int.toNat (p - (1 : Int)) + Int.fmod rank ((1 : Int) * (2 : Int) ^ Int.toNat (p - (1 : Int)))))] (((bdy w 191).drop 2).headD default) [(Str.ofString "minus", V.int minus), (Str.ofString "p", V.int p), (Str.ofString "rank", V.int rank), (Str.ofString "span", V.int sp), (Str.ofString "e", V.int x), (Str.ofString "m", V.int o)]]) : Dz w k 191 [(Str.ofString "minus", V.int minus), (Str.ofString "p", V.int p), (Str.ofString "rank", V.int rank)] (bdy w 191) (Fl.ret (V.tup [V.int minus, V.int o, V.int x, V.int ↑(Builtin.Int.intBits o)])) := run [Tk.s 0 [(Str.ofString "minus", V.int minus), (Str.ofString "p", V.int p), (Str.ofString "rank", V.int rank), (Str.ofString "span", V.int sp), (Str.ofString "e", V.int x), (Str.ofString "m", V.int o)]] (by kernel_rfl!) h
theorem r_outw_f0 {w : World} {k : Nat}  (h : All [(Str.ofString "f" == Str.ofString "u") = false, (Str.ofString "f" == Str.ofString "f") = true, ((0 : Int) == (1 : Int)) = false, (Str.ofString "f" == Str.ofString "c") = false]) : Dz w k 198 [(Str.ofString "way", V.str "f"), (Str.ofString "minus", V.int 0)] (bdy w 198) (Fl.ret (V.bool (Str.ofString "f" == Str.ofString "c"))) := run [Tk.f, Tk.t, Tk.f, Tk.f] (by kernel_rfl!) h
theorem r_outw_f1 {w : World} {k : Nat}  (h : All [(Str.ofString "f" == Str.ofString "u") = false, (Str.ofString "f" == Str.ofString "f") = true, ((1 : Int) == (1 : Int)) = true]) : Dz w k 198 [(Str.ofString "way", V.str "f"), (Str.ofString "minus", V.int 1)] (bdy w 198) (Fl.ret (V.bool ((1 : Int) == (1 : Int)))) := run [Tk.f, Tk.t, Tk.t] (by kernel_rfl!) h
theorem r_outw_c0 {w : World} {k : Nat}  (h : All [(Str.ofString "c" == Str.ofString "u") = false, (Str.ofString "c" == Str.ofString "f") = false, (Str.ofString "c" == Str.ofString "f") = false, (Str.ofString "c" == Str.ofString "c") = true]) : Dz w k 198 [(Str.ofString "way", V.str "c"), (Str.ofString "minus", V.int 0)] (bdy w 198) (Fl.ret (V.bool ((0 : Int) == (0 : Int)))) := run [Tk.f, Tk.f, Tk.f, Tk.t] (by kernel_rfl!) h
theorem r_outw_c1 {w : World} {k : Nat}  (h : All [(Str.ofString "c" == Str.ofString "u") = false, (Str.ofString "c" == Str.ofString "f") = false, (Str.ofString "c" == Str.ofString "f") = false, (Str.ofString "c" == Str.ofString "c") = true]) : Dz w k 198 [(Str.ofString "way", V.str "c"), (Str.ofString "minus", V.int 1)] (bdy w 198) (Fl.ret (V.bool ((1 : Int) == (0 : Int)))) := run [Tk.f, Tk.f, Tk.f, Tk.t] (by kernel_rfl!) h
theorem r_outw_d0 {w : World} {k : Nat}  (h : All [(Str.ofString "d" == Str.ofString "u") = false, (Str.ofString "d" == Str.ofString "f") = false, (Str.ofString "d" == Str.ofString "f") = false, (Str.ofString "d" == Str.ofString "c") = false]) : Dz w k 198 [(Str.ofString "way", V.str "d"), (Str.ofString "minus", V.int 0)] (bdy w 198) (Fl.ret (V.bool (Str.ofString "d" == Str.ofString "c"))) := run [Tk.f, Tk.f, Tk.f, Tk.f] (by kernel_rfl!) h
theorem r_outw_d1 {w : World} {k : Nat}  (h : All [(Str.ofString "d" == Str.ofString "u") = false, (Str.ofString "d" == Str.ofString "f") = false, (Str.ofString "d" == Str.ofString "f") = false, (Str.ofString "d" == Str.ofString "c") = false]) : Dz w k 198 [(Str.ofString "way", V.str "d"), (Str.ofString "minus", V.int 1)] (bdy w 198) (Fl.ret (V.bool (Str.ofString "d" == Str.ofString "c"))) := run [Tk.f, Tk.f, Tk.f, Tk.f] (by kernel_rfl!) h
theorem r_outw_u0 {w : World} {k : Nat}  (h : All [(Str.ofString "u" == Str.ofString "u") = true]) : Dz w k 198 [(Str.ofString "way", V.str "u"), (Str.ofString "minus", V.int 0)] (bdy w 198) (Fl.ret (V.bool (Str.ofString "u" == Str.ofString "u"))) := run [Tk.t] (by kernel_rfl!) h
theorem r_outw_u1 {w : World} {k : Nat}  (h : All [(Str.ofString "u" == Str.ofString "u") = true]) : Dz w k 198 [(Str.ofString "way", V.str "u"), (Str.ofString "minus", V.int 1)] (bdy w 198) (Fl.ret (V.bool (Str.ofString "u" == Str.ofString "u"))) := run [Tk.t] (by kernel_rfl!) h
theorem r_step_n {w : World} {k : Nat} {minus eps : Int} {way : Str} (h : All [(way == Str.ofString "n") = true]) : Dz w k 205 [(Str.ofString "way", V.str way), (Str.ofString "eps", V.int eps), (Str.ofString "minus", V.int minus)] (bdy w 205) (Fl.ret (V.int (0 : Int))) := run [Tk.t] (by kernel_rfl!) h
theorem r_step_et {w : World} {k : Nat} {minus eps : Int} {way : Str} {b : Bool} (h : All [(way == Str.ofString "n") = false, (eps == minus) = true, Cz w k (nat_lit 198) [V.int minus, V.str way] (V.bool b), b = true]) : Dz w k 205 [(Str.ofString "way", V.str way), (Str.ofString "eps", V.int eps), (Str.ofString "minus", V.int minus)] (bdy w 205) (Fl.ret (V.int (1 : Int))) := run [Tk.f, Tk.t, Tk.r (V.bool b), Tk.t] (by kernel_rfl!) h
theorem r_step_ef {w : World} {k : Nat} {minus eps : Int} {way : Str} {b : Bool} (h : All [(way == Str.ofString "n") = false, (eps == minus) = true, Cz w k (nat_lit 198) [V.int minus, V.str way] (V.bool b), b = false]) : Dz w k 205 [(Str.ofString "way", V.str way), (Str.ofString "eps", V.int eps), (Str.ofString "minus", V.int minus)] (bdy w 205) (Fl.ret (V.int (0 : Int))) := run [Tk.f, Tk.t, Tk.r (V.bool b), Tk.f] (by kernel_rfl!) h
theorem r_step_dt {w : World} {k : Nat} {minus eps : Int} {way : Str} {b : Bool} (h : All [(way == Str.ofString "n") = false, (eps == minus) = false, Cz w k (nat_lit 198) [V.int minus, V.str way] (V.bool b), b = true]) : Dz w k 205 [(Str.ofString "way", V.str way), (Str.ofString "eps", V.int eps), (Str.ofString "minus", V.int minus)] (bdy w 205) (Fl.ret (V.int (0 : Int))) := run [Tk.f, Tk.f, Tk.r (V.bool b), Tk.t] (by kernel_rfl!) h
theorem r_step_df {w : World} {k : Nat} {minus eps : Int} {way : Str} {b : Bool} (h : All [(way == Str.ofString "n") = false, (eps == minus) = false, Cz w k (nat_lit 198) [V.int minus, V.str way] (V.bool b), b = false]) : Dz w k 205 [(Str.ofString "way", V.str way), (Str.ofString "eps", V.int eps), (Str.ofString "minus", V.int minus)] (bdy w 205) (Fl.ret (V.int (-1 : Int))) := run [Tk.f, Tk.f, Tk.r (V.bool b), Tk.f] (by kernel_rfl!) h
theorem r_high_o {w : World} {k : Nat} {a b rank p minus : Int} {way : Str} {q : Bool} (h : All [(way != Str.ofString "n") = true, Cz w k (nat_lit 198) [V.int minus, V.str way] (V.bool q)]) : Dz w k 212 [(Str.ofString "way", V.str way), (Str.ofString "minus", V.int minus), (Str.ofString "p", V.int p), (Str.ofString "rank", V.int rank), (Str.ofString "b", V.int b), (Str.ofString "a", V.int a)] (bdy w 212) (Fl.ret (V.bool q)) := run [Tk.t, Tk.r (V.bool q)] (by kernel_rfl!) h
theorem r_high_a {w : World} {k : Nat} {a b rank p minus : Int} {way : Str} {q : Bool} (h : All [(way != Str.ofString "n") = false, ShOk (1 : Int) (p - (1 : Int)), (1 : Int) * (2 : Int) ^ Int.toNat (p - (1 : Int)) ≠ (0 : Int), (2 : Int) ≠ (0 : Int), IntMulOk (2 : Int) a, ShOk (1 : Int) b, decide ((1 : Int) * (2 : Int) ^ Int.toNat b < (2 : Int) * a) = true]) : Dz w k 212 [(Str.ofString "way", V.str way), (Str.ofString "minus", V.int minus), (Str.ofString "p", V.int p), (Str.ofString "rank", V.int rank), (Str.ofString "b", V.int b), (Str.ofString "a", V.int a)] (bdy w 212) (Fl.ret (V.bool (decide ((1 : Int) * (2 : Int) ^ Int.toNat b < (2 : Int) * a)))) := run [Tk.f, Tk.t] (by kernel_rfl!) h
theorem r_high_b {w : World} {k : Nat} {a b rank p minus : Int} {way : Str} {q : Bool} (h : All [(way != Str.ofString "n") = false, ShOk (1 : Int) (p - (1 : Int)), (1 : Int) * (2 : Int) ^ Int.toNat (p - (1 : Int)) ≠ (0 : Int), (2 : Int) ≠ (0 : Int), IntMulOk (2 : Int) a, ShOk (1 : Int) b, decide ((1 : Int) * (2 : Int) ^ Int.toNat b < (2 : Int) * a) = false, IntMulOk (2 : Int) a, ShOk (1 : Int) b, ((2 : Int) * a == (1 : Int) * (2 : Int) ^ Int.toNat b) = true]) : Dz w k 212 [(Str.ofString "way", V.str way), (Str.ofString "minus", V.int minus), (Str.ofString "p", V.int p), (Str.ofString "rank", V.int rank), (Str.ofString "b", V.int b), (Str.ofString "a", V.int a)] (bdy w 212) (Fl.ret (V.bool (Int.fmod ((1 : Int) * (2 : Int) ^ Int.toNat (p - (1 : Int)) + Int.fmod rank ((1 : Int) * (2 : Int) ^ Int.toNat (p - (1 : Int)))) (2 : Int) == (1 : Int)))) := run [Tk.f, Tk.f, Tk.t] (by kernel_rfl!) h
theorem r_high_c {w : World} {k : Nat} {a b rank p minus : Int} {way : Str} {q : Bool} (h : All [(way != Str.ofString "n") = false, ShOk (1 : Int) (p - (1 : Int)), (1 : Int) * (2 : Int) ^ Int.toNat (p - (1 : Int)) ≠ (0 : Int), (2 : Int) ≠ (0 : Int), IntMulOk (2 : Int) a, ShOk (1 : Int) b, decide ((1 : Int) * (2 : Int) ^ Int.toNat b < (2 : Int) * a) = false, IntMulOk (2 : Int) a, ShOk (1 : Int) b, ((2 : Int) * a == (1 : Int) * (2 : Int) ^ Int.toNat b) = false]) : Dz w k 212 [(Str.ofString "way", V.str way), (Str.ofString "minus", V.int minus), (Str.ofString "p", V.int p), (Str.ofString "rank", V.int rank), (Str.ofString "b", V.int b), (Str.ofString "a", V.int a)] (bdy w 212) (Fl.ret (V.bool ((2 : Int) * a == (1 : Int) * (2 : Int) ^ Int.toNat b))) := run [Tk.f, Tk.f, Tk.f] (by kernel_rfl!) h
end Mine
end
section
set_option Elab.async false
set_option autoImplicit false
open PySem
namespace Mine

theorem p2pos (n : Nat) : (0 : Int) < 2 ^ n := Int.pow_pos (by decide)
theorem p2succ (n : Nat) : (2 : Int) ^ (n + 1) = 2 * 2 ^ n := by rw [Int.pow_succ]; omega
theorem p2add (m n : Nat) : (2 : Int) ^ (m + n) = 2 ^ m * 2 ^ n := Int.pow_add ..
theorem p2nat (n : Nat) : ((2 ^ n : Nat) : Int) = (2 : Int) ^ n := by rw [Int.natCast_pow]; rfl

/-! bits -/
abbrev ib (M : Int) : Nat := Builtin.Int.intBits M
theorem ib_le {M : Int} {m : Nat} (h : 0 ≤ M) : ib M ≤ m ↔ M < 2 ^ m := by
  rw [intBits_le_iff, ← p2nat]
  omega
theorem ib_eq {M : Int} {n : Nat} (h1 : (2 : Int) ^ n ≤ M) (h2 : M < 2 ^ (n + 1)) : ib M = n + 1 := by
  have h0 := p2pos n
  have a := (ib_le (M := M) (m := n + 1) (by omega)).mpr h2
  have b : ¬ ib M ≤ n := fun q => by have := (ib_le (M := M) (by omega)).mp q; omega
  omega
theorem ib_pos {M : Int} (h : 0 < M) : 0 < ib M := by
  apply Nat.pos_of_ne_zero
  intro q
  have := (ib_le (M := M) (m := 0) (by omega)).mp (by omega)
  simp at this
  omega
theorem ib_lo {M : Int} (h : 0 < M) : (2 : Int) ^ (ib M - 1) ≤ M := by
  have hp := ib_pos h
  apply Int.not_lt.mp
  intro q
  have := (ib_le (M := M) (m := ib M - 1) (by omega)).mpr q
  omega
theorem ib_hi {M : Int} (h : 0 < M) : M < (2 : Int) ^ ib M := (ib_le (by omega)).mp (Nat.le_refl _)
theorem ib_mul {M : Int} (h : 0 < M) (j : Nat) : ib (M * 2 ^ j) = ib M + j := by
  have hp := ib_pos h
  have hj := p2pos j
  have l := ib_lo h
  have u := ib_hi h
  have : ib (M * 2 ^ j) = (ib M - 1 + j) + 1 := by
    apply ib_eq
    · rw [p2add]
      exact Int.mul_le_mul_of_nonneg_right l (by omega)
    · have e : ib M - 1 + j + 1 = ib M + j := by omega
      rw [e, p2add]
      exact Int.mul_lt_mul_of_pos_right u hj
  omega
theorem ib_one : ib 1 = 1 := by decide

/-! odd part and trailing zeros -/
theorem exists_odd : ∀ (n : Nat), 0 < n → ∃ o t : Nat, n = o * 2 ^ t ∧ o % 2 = 1 := by
  intro n
  induction n using Nat.strongRecOn with
  | ind n ih =>
    intro h
    by_cases q : n % 2 = 1
    · exact ⟨n, 0, by simp, q⟩
    · obtain ⟨o, t, e, ho⟩ := ih (n / 2) (by omega) (by omega)
      refine ⟨o, t + 1, ?_, ho⟩
      rw [Nat.pow_succ, ← Nat.mul_assoc, ← e]
      omega
theorem odd_unique {o o' : Int} : ∀ {t t' : Nat}, o * 2 ^ t = o' * 2 ^ t' → o % 2 = 1 → o' % 2 = 1 → o = o' ∧ t = t'
  | 0, 0, e, _, _ => by simpa using e
  | 0, t' + 1, e, h, _ => by
    exfalso
    rw [p2succ] at e
    have : o = 2 * (o' * 2 ^ t') := by rw [← Int.mul_assoc, Int.mul_comm 2 o', Int.mul_assoc]; simpa using e
    omega
  | t + 1, 0, e, _, h => by
    exfalso
    rw [p2succ] at e
    have : o' = 2 * (o * 2 ^ t) := by rw [← Int.mul_assoc, Int.mul_comm 2 o, Int.mul_assoc]; simpa using e.symm
    omega
  | t + 1, t' + 1, e, h, h' => by
    have e' : o * 2 ^ t = o' * 2 ^ t' := by
      rw [p2succ, p2succ] at e
      have a : o * (2 * 2 ^ t) = 2 * (o * 2 ^ t) := by rw [← Int.mul_assoc, Int.mul_comm o 2, Int.mul_assoc]
      have b : o' * (2 * 2 ^ t') = 2 * (o' * 2 ^ t') := by rw [← Int.mul_assoc, Int.mul_comm o' 2, Int.mul_assoc]
      omega
    obtain ⟨a, b⟩ := odd_unique e' h h'
    exact ⟨a, by omega⟩
theorem exists_oddI {M : Int} (h : 0 < M) : ∃ (o : Int) (t : Nat), M = o * 2 ^ t ∧ o % 2 = 1 ∧ 0 < o := by
  obtain ⟨o, t, e, ho⟩ := exists_odd M.toNat (by omega)
  refine ⟨(o : Int), t, ?_, by omega, by omega⟩
  have : ((M.toNat : Nat) : Int) = M := by omega
  rw [← this, e, Int.natCast_mul, p2nat]
open Classical in
noncomputable def od (M : Int) : Int := if h : 0 < M then (exists_oddI h).choose else 1
open Classical in
noncomputable def tz (M : Int) : Nat := if h : 0 < M then (exists_oddI h).choose_spec.choose else 0
theorem od_tz {M : Int} (h : 0 < M) : M = od M * 2 ^ tz M ∧ od M % 2 = 1 ∧ 0 < od M := by
  unfold od tz
  rw [dif_pos h, dif_pos h]
  exact (exists_oddI h).choose_spec.choose_spec
theorem od_of {M o : Int} {t : Nat} (e : M = o * 2 ^ t) (ho : o % 2 = 1) (hp : 0 < o) : od M = o ∧ tz M = t := by
  have hM : 0 < M := by rw [e]; exact Int.mul_pos hp (p2pos t)
  obtain ⟨a, b, c⟩ := od_tz hM
  exact odd_unique (a.symm.trans e) b ho
theorem tz_le {M : Int} (h : 0 < M) : tz M < ib M := by
  obtain ⟨a, b, c⟩ := od_tz h
  have : ib M = ib (od M) + tz M := by
    conv => lhs; rw [a]
    exact ib_mul c _
  have := ib_pos c
  omega

/-! n & -n -/
theorem and_double (a b : Nat) : (2 * a) &&& (2 * b + 1) = 2 * (a &&& b) := by
  apply Nat.eq_of_testBit_eq
  intro i
  cases i with
  | zero => simp
  | succ i =>
    rw [Nat.testBit_and, Nat.testBit_succ, Nat.testBit_succ, Nat.testBit_succ]
    have e1 : 2 * a / 2 = a := by omega
    have e2 : (2 * b + 1) / 2 = b := by omega
    have e3 : 2 * (a &&& b) / 2 = a &&& b := by omega
    rw [e1, e2, e3, Nat.testBit_and]
theorem and_odd (c : Nat) : (2 * c + 1) &&& (2 * c) = 2 * c := by
  apply Nat.eq_of_testBit_eq
  intro i
  cases i with
  | zero => simp
  | succ i =>
    rw [Nat.testBit_and, Nat.testBit_succ, Nat.testBit_succ]
    have e1 : 2 * c / 2 = c := by omega
    have e2 : (2 * c + 1) / 2 = c := by omega
    rw [e1, e2, Bool.and_self]
theorem and_pred {o : Nat} (ho : o % 2 = 1) : ∀ t : Nat, (o * 2 ^ t) &&& (o * 2 ^ t - 1) = (o - 1) * 2 ^ t
  | 0 => by
    have e : o = 2 * (o / 2) + 1 := by omega
    have := and_odd (o / 2)
    simp only [Nat.pow_zero, Nat.mul_one]
    have e2 : o - 1 = 2 * (o / 2) := by omega
    rw [e2]
    conv => lhs; lhs; rw [e]
    exact this
  | t + 1 => by
    have ih := and_pred ho t
    have hp : 0 < o * 2 ^ t := Nat.mul_pos (by omega) (Nat.two_pow_pos t)
    have e1 : o * 2 ^ (t + 1) = 2 * (o * 2 ^ t) := by rw [Nat.pow_succ, ← Nat.mul_assoc, Nat.mul_comm]
    have e2 : o * 2 ^ (t + 1) - 1 = 2 * (o * 2 ^ t - 1) + 1 := by omega
    rw [e2, e1, and_double, ih, Nat.pow_succ, Nat.mul_comm 2, Nat.mul_assoc]
theorem and_neg {o : Int} {t : Nat} (ho : o % 2 = 1) (hp : 0 < o) : Builtin.bitAnd (o * 2 ^ t) (-(o * 2 ^ t)) = 2 ^ t := by
  have hM : 0 < o * 2 ^ t := Int.mul_pos hp (p2pos t)
  have hk : ((o.toNat : Nat) : Int) = o := by omega
  have hM' : (o * 2 ^ t).toNat = o.toNat * 2 ^ t := by
    have : ((o.toNat * 2 ^ t : Nat) : Int) = o * 2 ^ t := by rw [Int.natCast_mul, p2nat, hk]
    omega
  unfold Builtin.bitAnd
  rw [decide_eq_true (by omega : (0 : Int) ≤ o * 2 ^ t), decide_eq_false (by omega : ¬ (0 : Int) ≤ -(o * 2 ^ t))]
  dsimp only
  have hn : (Builtin.bitNot (-(o * 2 ^ t))).toNat = o.toNat * 2 ^ t - 1 := by
    unfold Builtin.bitNot
    omega
  rw [hn, hM', and_pred (by omega) t]
  have : (((o.toNat - 1) * 2 ^ t : Nat) : Int) = (o - 1) * 2 ^ t := by
    rw [Int.natCast_mul, p2nat]
    congr 1
    omega
  rw [this, Int.sub_mul]
  omega
theorem ib_p2 (t : Nat) : ib (2 ^ t) = t + 1 := by
  have := ib_mul (M := 1) (by decide) t
  rw [Int.one_mul, ib_one] at this
  omega
theorem and_mask {M : Int} (h : 0 ≤ M) (n : Nat) : Builtin.bitAnd M (2 ^ n - 1) = M % 2 ^ n := by
  have hp := p2pos n
  unfold Builtin.bitAnd
  rw [decide_eq_true h, decide_eq_true (by omega : (0 : Int) ≤ 2 ^ n - 1)]
  dsimp only
  have e : ((2 : Int) ^ n - 1).toNat = 2 ^ n - 1 := by
    have := p2nat n
    omega
  rw [e, Nat.and_two_pow_sub_one_eq_mod]
  have : ((M.toNat : Nat) : Int) = M := by omega
  rw [← p2nat, Int.natCast_emod, this]
theorem and_two {t : Int} (h : 0 ≤ t) : Builtin.bitAnd t 2 = 2 * ((t / 2) % 2) := by
  unfold Builtin.bitAnd
  rw [decide_eq_true h, decide_eq_true (by decide : (0 : Int) ≤ 2)]
  dsimp only
  have e : ((2 : Int)).toNat = 2 := rfl
  rw [e]
  have a : t.toNat &&& 2 = 2 * ((t.toNat / 2) % 2) := by
    apply Nat.eq_of_testBit_eq
    intro i
    rw [Nat.testBit_and]
    cases i with
    | zero => simp
    | succ i =>
      rw [Nat.testBit_succ, Nat.testBit_succ, Nat.testBit_succ]
      have e2 : 2 * (t.toNat / 2 % 2) / 2 = t.toNat / 2 % 2 := by omega
      rw [e2]
      cases i with
      | zero => simp
      | succ i =>
        rw [Nat.testBit_succ, Nat.testBit_succ, Nat.testBit_succ]
        have e3 : t.toNat / 2 % 2 / 2 = 0 := by omega
        rw [e3]
        simp
  rw [a]
  omega
end Mine
end
section
set_option Elab.async false
set_option autoImplicit false
open PySem
namespace Mine

/-- a normal number: sign, odd part, exponent, bits -/
def mp (sg o x b : Int) : V := .tup [.int sg, .int o, .int x, .int b]
noncomputable def nm (sg M E : Int) : V := mp sg (od M) (E + tz M) (ib (od M))
theorem nm_of {sg M E o : Int} {t : Nat} (e : M = o * 2 ^ t) (ho : o % 2 = 1) (hp : 0 < o) : nm sg M E = mp sg o (E + t) (ib o) := by
  obtain ⟨a, b⟩ := od_of e ho hp
  unfold nm
  rw [a, b]
theorem nm_mul {sg M E : Int} (h : 0 < M) (j : Nat) : nm sg (M * 2 ^ j) E = nm sg M (E + j) := by
  obtain ⟨a, b, c⟩ := od_tz h
  have e : M * 2 ^ j = od M * 2 ^ (tz M + j) := by
    conv => lhs; rw [a]
    rw [p2add, Int.mul_assoc]
  rw [nm_of e b c]
  unfold nm
  congr 1
  omega
theorem nm_odd {sg o x : Int} (ho : o % 2 = 1) (hp : 0 < o) : nm sg o x = mp sg o x (ib o) := by
  have := nm_of (sg := sg) (E := x) (t := 0) (M := o) (o := o) (by simp) ho hp
  simpa using this

/-- is a directed rounding of that sign outward -/
def outw (rnd : Str) (sg : Int) : Bool := rnd == "u" || (rnd == "f" && sg == 1) || (rnd == "c" && sg == 0)
/-- M / 2^n rounded -/
def rq (rnd : Str) (sg M : Int) (n : Nat) : Int :=
  if rnd = "n" then (if 2 ^ n < 2 * (M % 2 ^ n) ∨ (2 * (M % 2 ^ n) = 2 ^ n ∧ (M / 2 ^ n) % 2 = 1) then M / 2 ^ n + 1 else M / 2 ^ n)
  else if outw rnd sg = true then -((-M) / 2 ^ n) else M / 2 ^ n
theorem rq_mul {rnd : Str} {sg M : Int} (n j : Nat) : rq rnd sg (M * 2 ^ j) (n + j) = rq rnd sg M n := by
  have hj := p2pos j
  have hn := p2pos n
  have e1 : M * 2 ^ j / 2 ^ (n + j) = M / 2 ^ n := by rw [p2add]; exact Int.mul_ediv_mul_of_pos_left _ _ hj
  have e2 : -(M * 2 ^ j) / 2 ^ (n + j) = -M / 2 ^ n := by rw [← Int.neg_mul, p2add]; exact Int.mul_ediv_mul_of_pos_left _ _ hj
  have e3 : M * 2 ^ j % 2 ^ (n + j) = (M % 2 ^ n) * 2 ^ j := by
    rw [p2add, Int.mul_comm M, Int.mul_comm (2 ^ n), Int.mul_emod_mul_of_pos _ _ hj, Int.mul_comm]
  unfold rq
  rw [e1, e2, e3, p2add]
  have c1 : 2 ^ n * 2 ^ j < 2 * (M % 2 ^ n * 2 ^ j) ↔ 2 ^ n < 2 * (M % 2 ^ n) := by
    rw [← Int.mul_assoc]
    exact ⟨fun h => Int.lt_of_mul_lt_mul_right h (by omega), fun h => Int.mul_lt_mul_of_pos_right h hj⟩
  have c2 : 2 * (M % 2 ^ n * 2 ^ j) = 2 ^ n * 2 ^ j ↔ 2 * (M % 2 ^ n) = 2 ^ n := by
    rw [← Int.mul_assoc]
    exact ⟨fun h => Int.eq_of_mul_eq_mul_right (by omega) h, fun h => by rw [h]⟩
  simp only [c1, c2]
theorem rq_exact {rnd : Str} {sg M : Int} (n : Nat) : rq rnd sg (M * 2 ^ n) n = M := by
  have h := rq_mul (rnd := rnd) (sg := sg) (M := M) 0 n
  rw [Nat.zero_add] at h
  rw [h]
  unfold rq
  simp

/-- the number rounded to p bits -/
noncomputable def nr (rnd : Str) (p : Nat) (sg M E : Int) : V := if ib M ≤ p then nm sg M E else nm sg (rq rnd sg M (ib M - p)) (E + ((ib M - p : Nat) : Int))
theorem nr_mul {rnd : Str} {p : Nat} {sg M E : Int} (h : 0 < M) (j : Nat) : nr rnd p sg (M * 2 ^ j) E = nr rnd p sg M (E + j) := by
  unfold nr
  rw [ib_mul h]
  by_cases h1 : ib M + j ≤ p
  · rw [if_pos h1, if_pos (by omega), nm_mul h]
  · rw [if_neg h1]
    by_cases h2 : ib M ≤ p
    · rw [if_pos h2]
      have e : M * 2 ^ j = (M * 2 ^ (p - ib M)) * 2 ^ (ib M + j - p) := by
        rw [Int.mul_assoc, ← p2add]
        congr 2
        omega
      rw [e, rq_exact, nm_mul h]
      congr 1
      omega
    · rw [if_neg h2]
      have e : ib M + j - p = ib M - p + j := by omega
      rw [e, rq_mul]
      congr 1
      omega
theorem nr_od {rnd : Str} {p : Nat} {sg M E : Int} (h : 0 < M) : nr rnd p sg (od M) (E + tz M) = nr rnd p sg M E := by
  obtain ⟨a, b, c⟩ := od_tz h
  conv => rhs; rw [a]
  rw [nr_mul c]
end Mine
end
section
set_option Elab.async false
set_option maxRecDepth 100000
set_option autoImplicit false
open PySem PySem.W PySem.Calls PyProof.Rows PySem.Spec
namespace Mine

theorem fdiv_p2 (a : Int) (n : Nat) : Int.fdiv a (2 ^ n) = a / 2 ^ n := Int.fdiv_eq_ediv_of_nonneg _ (Int.le_of_lt (p2pos n))
theorem mul_p2_div (a : Int) (n : Nat) : a * 2 ^ n / 2 ^ n = a := Int.mul_ediv_cancel _ (Int.ne_of_gt (p2pos n))

theorem Does.sub {prog : Program} {w : World} {K : Frag} {k : Nat} {sc : Scope} {en en' : En} {t : Env → Sem Flow} {r : V} (D : Does prog w K k sc en t (.ret r)) (h : ∀ p ∈ en, en'.lookup p.1 = some p.2) : Does prog w K k sc en' t (.ret r) := by
  intro A env h₀ m news s Q E a hsc F N R q
  refine D A env h₀ m news s Q E a hsc F N (fun x v e => R x v ?_) q
  have hm : (x, v) ∈ en := by
    clear h R q D
    induction en with
    | nil => cases e
    | cons p r ih =>
      rw [List.lookup_cons] at e
      split at e
      · rename_i hx
        cases e
        rw [beq_iff_eq.mp hx]
        exact .head _
      · exact .tail _ (ih e)
  exact h _ hm
theorem Does.le {prog : Program} {w : World} {K : Frag} {k j : Nat} {sc : Scope} {en : En} {t : Env → Sem Flow} {fl : Fl} (D : Does prog w K j sc en t fl) (h : j ≤ k) : Does prog w K k sc en t fl :=
  fun A env h₀ m news s Q E a => D A env h₀ m news s Q E (a.le h)

theorem c_trailing {w : World} {k : Nat} {o : Int} {t : Nat} (ho : o % 2 = 1) (hp : 0 < o) : Cz w (k + 1) 21 [.int (o * 2 ^ t)] (.int t) := by
  have hM : 0 < o * 2 ^ t := Int.mul_pos hp (p2pos t)
  have h := in_trailing_1 (r_trailing (w := w) (k := k) (n := o * 2 ^ t) ⟨by rw [bne_iff_ne]; omega, trivial⟩)
  rw [and_neg ho hp] at h
  have e : ((Builtin.Int.intBits (2 ^ t) : Nat) : Int) - 1 = t := by
    have : Builtin.Int.intBits (2 ^ t) = t + 1 := ib_p2 t
    omega
  rw [e] at h
  exact h

theorem c_nzt {w : World} {k : Nat} {sign M E b : Int} (hM : 0 < M) (hb : b = ib M ∨ od M = 1) :
    Dz w (k + 1) 38 [(Str.ofString "bc", V.int b), (Str.ofString "exp", V.int E), (Str.ofString "man", V.int M), (Str.ofString "sign", V.int sign)] (List.drop 3 (bdy w 38)) (.ret (nm sign M E)) := by
  obtain ⟨a, ho, hp⟩ := od_tz hM
  have hib : ib M = ib (od M) + tz M := by
    conv => lhs; rw [a]
    exact ib_mul hp _
  by_cases hodd : M % 2 = 1
  · have hc : Builtin.bitAnd M 1 != 0 := by rw [bitAnd_m1]; simp; omega
    have e : nm sign M E = mp sign M E (ib M) := nm_odd hodd hM
    have hod : od M = M := (od_of (t := 0) (by simp) hodd hM).1
    rw [e]
    by_cases h1 : M = 1
    · have := r_nzt_odd1 (w := w) (k := k + 1) (sign := sign) (man := M) (exp := E) (bc := b) (t := 0) ⟨hc, by simpa using h1, trivial⟩
      subst h1
      exact this
    · have hb' : b = ib M := hb.resolve_right (by rw [hod]; exact h1)
      have := r_nzt_odd (w := w) (k := k + 1) (sign := sign) (man := M) (exp := E) (bc := b) (t := 0) ⟨hc, by simpa using h1, trivial⟩
      rw [hb'] at this ⊢
      exact this
  · have hc : (Builtin.bitAnd M 1 != 0) = false := by rw [bitAnd_m1]; simp; omega
    have ht := c_trailing (w := w) (k := k) (t := tz M) ho hp
    rw [← a] at ht
    have hd : Int.fdiv M (2 ^ Int.toNat (tz M : Int)) = od M := by
      rw [Int.toNat_natCast, fdiv_p2]
      conv => lhs; lhs; rw [a]
      exact mul_p2_div _ _
    by_cases h1 : od M = 1
    · have := r_nzt_even1 (w := w) (k := k + 1) (sign := sign) (man := M) (exp := E) (bc := b) (t := tz M) ⟨hc, ht, by omega, by rw [hd, h1]; rfl, trivial⟩
      rw [hd] at this
      unfold nm
      rw [h1] at this ⊢
      exact this
    · have hb' : b = ib M := hb.resolve_right h1
      have := r_nzt_even (w := w) (k := k + 1) (sign := sign) (man := M) (exp := E) (bc := b) (t := tz M) ⟨hc, ht, by omega, by rw [hd]; simpa using h1, trivial⟩
      rw [hd] at this
      have e : b - (tz M : Int) = (ib (od M) : Int) := by omega
      rw [e] at this
      exact this

theorem sub_n {rnd : Str} {prec b E M sign n : Int} : ∀ p ∈ ([(Str.ofString "bc", V.int b), (Str.ofString "exp", V.int E), (Str.ofString "man", V.int M), (Str.ofString "sign", V.int sign)] : En),
    ([(Str.ofString "rnd", V.str rnd), (Str.ofString "prec", V.int prec), (Str.ofString "bc", V.int b), (Str.ofString "exp", V.int E), (Str.ofString "man", V.int M), (Str.ofString "sign", V.int sign), (Str.ofString "n", V.int n)] : En).lookup p.1 = some p.2 :=
  List.forall_mem_cons.mpr ⟨by kernel_rfl!, List.forall_mem_cons.mpr ⟨by kernel_rfl!, List.forall_mem_cons.mpr ⟨by kernel_rfl!, List.forall_mem_cons.mpr ⟨by kernel_rfl!, fun _ h => (nomatch h)⟩⟩⟩⟩
theorem sub_nt {rnd : Str} {prec b E M sign n t : Int} : ∀ p ∈ ([(Str.ofString "bc", V.int b), (Str.ofString "exp", V.int E), (Str.ofString "man", V.int M), (Str.ofString "sign", V.int sign)] : En),
    ([(Str.ofString "rnd", V.str rnd), (Str.ofString "prec", V.int prec), (Str.ofString "bc", V.int b), (Str.ofString "exp", V.int E), (Str.ofString "man", V.int M), (Str.ofString "sign", V.int sign), (Str.ofString "n", V.int n), (Str.ofString "t", V.int t)] : En).lookup p.1 = some p.2 :=
  List.forall_mem_cons.mpr ⟨by kernel_rfl!, List.forall_mem_cons.mpr ⟨by kernel_rfl!, List.forall_mem_cons.mpr ⟨by kernel_rfl!, List.forall_mem_cons.mpr ⟨by kernel_rfl!, fun _ h => (nomatch h)⟩⟩⟩⟩

/-- one of the five ways to round -/
def Way (rnd : Str) : Prop := rnd = "n" ∨ rnd = "f" ∨ rnd = "c" ∨ rnd = "u" ∨ rnd = "d"

theorem q_bits {M : Int} {p n : Nat} (hM : 0 < M) (hp : 1 ≤ p) (hn : ib M = p + n) : (2 : Int) ^ (p - 1) ≤ M / 2 ^ n ∧ M / 2 ^ n < 2 ^ p := by
  have l := ib_lo hM
  have u := ib_hi hM
  have e1 : ib M - 1 = p - 1 + n := by omega
  rw [e1, p2add] at l
  rw [hn, p2add] at u
  exact ⟨(Int.le_ediv_iff_mul_le (p2pos n)).mpr l, (Int.ediv_lt_iff_lt_mul (p2pos n)).mpr u⟩
theorem bits_of {R : Int} {p : Nat} (hp : 1 ≤ p) (h1 : (2 : Int) ^ (p - 1) ≤ R) (h2 : R ≤ 2 ^ p) : 0 < R ∧ ((p : Int) = ib R ∨ od R = 1) := by
  have h0 := p2pos (p - 1)
  refine ⟨by omega, ?_⟩
  by_cases h : R = 2 ^ p
  · right
    exact (od_of (o := 1) (t := p) (by rw [h, Int.one_mul]) (by decide) (by decide)).1
  · left
    have := ib_eq (M := R) (n := p - 1) h1 (by
      have e : p - 1 + 1 = p := by omega
      rw [e]
      omega)
    omega
theorem rq_bits {rnd : Str} {sg M : Int} {p n : Nat} (hM : 0 < M) (hp : 1 ≤ p) (hn : ib M = p + n) : (2 : Int) ^ (p - 1) ≤ rq rnd sg M n ∧ rq rnd sg M n ≤ 2 ^ p := by
  obtain ⟨l, u⟩ := q_bits hM hp hn
  have hneg : -(-M / 2 ^ n) = M / 2 ^ n ∨ -(-M / 2 ^ n) = M / 2 ^ n + 1 := by
    have a := Int.emod_nonneg M (Int.ne_of_gt (p2pos n))
    have b := Int.emod_lt_of_pos M (p2pos n)
    have c := Int.emod_nonneg (-M) (Int.ne_of_gt (p2pos n))
    have d := Int.emod_lt_of_pos (-M) (p2pos n)
    have e := Int.mul_ediv_add_emod M (2 ^ n)
    have f := Int.mul_ediv_add_emod (-M) (2 ^ n)
    have hq := p2pos n
    generalize (2 : Int) ^ n = X at *
    generalize hA : M / X = A at *
    generalize hB : -M / X = B at *
    generalize M % X = r at *
    generalize -M % X = r' at *
    have g : X * (A + B) + (r + r') = 0 := by rw [Int.mul_add]; omega
    have g1 : A + B ≤ 0 := by
      apply Int.not_lt.mp
      intro q
      have : X * 1 ≤ X * (A + B) := Int.mul_le_mul_of_nonneg_left (by omega) (by omega)
      omega
    have g2 : -1 ≤ A + B := by
      apply Int.not_lt.mp
      intro q
      have : X * (A + B) ≤ X * (-2) := Int.mul_le_mul_of_nonneg_left (by omega) (by omega)
      omega
    omega
  unfold rq
  split
  · split <;> omega
  · split <;> omega

theorem tokn {M : Int} {n : Nat} (hn : 1 ≤ n) : M / 2 ^ (n - 1) / 2 = M / 2 ^ n ∧ M % 2 ^ n = (M / 2 ^ (n - 1) % 2) * 2 ^ (n - 1) + M % 2 ^ (n - 1) ∧ (2 : Int) ^ n = 2 * 2 ^ (n - 1) ∧ 0 ≤ M % 2 ^ (n - 1) ∧ M % 2 ^ (n - 1) < 2 ^ (n - 1) := by
  have hp := p2pos (n - 1)
  have e : (2 : Int) ^ n = 2 * 2 ^ (n - 1) := by
    have : n = n - 1 + 1 := by omega
    conv => lhs; rw [this]
    exact p2succ _
  refine ⟨?_, ?_, e, Int.emod_nonneg _ (by omega), Int.emod_lt_of_pos _ hp⟩
  · rw [Int.ediv_ediv_of_nonneg (by omega), e, Int.mul_comm]
  · have h1 := Int.mul_ediv_add_emod M (2 ^ (n - 1))
    have h2 := Int.mul_ediv_add_emod M (2 ^ n)
    have h3 : M / 2 ^ n = M / 2 ^ (n - 1) / 2 := by rw [Int.ediv_ediv_of_nonneg (by omega), e, Int.mul_comm]
    have h4 := Int.mul_ediv_add_emod (M / 2 ^ (n - 1)) 2
    rw [h3, e] at h2
    rw [e]
    have h5 : (2 : Int) ^ (n - 1) * (M / 2 ^ (n - 1)) = 2 * 2 ^ (n - 1) * (M / 2 ^ (n - 1) / 2) + M / 2 ^ (n - 1) % 2 * 2 ^ (n - 1) := by
      conv => lhs; rw [← h4]
      rw [Int.mul_add, Int.mul_comm (M / 2 ^ (n - 1) % 2)]
      congr 1
      rw [Int.mul_comm 2 ((2 : Int) ^ (n - 1)), Int.mul_assoc]
    omega

theorem c_nnormalize {w : World} {k : Nat} {sign M E : Int} {p : Nat} {rnd : Str} (hM : 0 < M) (hs : sign = 0 ∨ sign = 1) (hp : 1 ≤ p) (hr : Way rnd) (hb : ib M ≤ 1000) :
    Cz w (k + 2) 38 [.int sign, .int M, .int E, .int (ib M), .int p, .str rnd] (nr rnd p sign M E) := by
  have hm : (M != 0) = true := by rw [bne_iff_ne]; omega
  refine in_n_normalize_6 ?_
  by_cases hle : ib M ≤ p
  · have e : nr rnd p sign M E = nm sign M E := if_pos hle
    rw [e]
    refine r_nz_le ⟨hm, by simp; omega, ?_, trivial⟩
    exact (c_nzt hM (.inl rfl)).sub sub_n
  · have hle' : p + (ib M - p) = ib M := by omega
    have hnp : (((ib M : Nat) : Int)) - (p : Int) = ((ib M - p : Nat) : Int) := by omega
    have e : nr rnd p sign M E = nm sign (rq rnd sign M (ib M - p)) (E + ((ib M - p : Nat) : Int)) := if_neg hle
    rw [e]
    obtain ⟨l, u⟩ := rq_bits (rnd := rnd) (sg := sign) hM hp hle'.symm
    obtain ⟨hR, hbR⟩ := bits_of hp l u
    have hn1 : 1 ≤ ib M - p := by omega
    have hpos : decide ((0 : Int) < (ib M : Int) - (p : Int)) = true := by simp; omega
    obtain ⟨t1, t2, t3, t4, t5⟩ := tokn (M := M) hn1
    have hh := p2pos (ib M - p - 1)
    have toN : Int.toNat (((ib M : Nat) : Int) - (p : Int)) = ib M - p := by omega
    have toN1 : Int.toNat (((ib M : Nat) : Int) - (p : Int) - 1) = ib M - p - 1 := by omega
    have tail : Dz w (k + 1) 38 [(Str.ofString "bc", V.int p), (Str.ofString "exp", V.int (E + ((ib M : Int) - p))), (Str.ofString "man", V.int (rq rnd sign M (ib M - p))), (Str.ofString "sign", V.int sign)] (List.drop 3 (bdy w 38)) (.ret (nm sign (rq rnd sign M (ib M - p)) (E + ((ib M - p : Nat) : Int)))) := by
      rw [hnp]
      exact c_nzt hR hbR
    have nonneg0 : (0 : Int) ≤ M / 2 ^ (ib M - p - 1) := Int.ediv_nonneg (by omega) (by omega)
    -- the nearest
    have near : ∀ s : Int, rnd = "n" → sign = s → Dz w (k + 1) 38 [(Str.ofString "rnd", V.str rnd), (Str.ofString "prec", V.int p), (Str.ofString "bc", V.int (ib M)), (Str.ofString "exp", V.int E), (Str.ofString "man", V.int M), (Str.ofString "sign", V.int sign)] (bdy w 38) (.ret (nm sign (rq rnd sign M (ib M - p)) (E + ((ib M - p : Nat) : Int)))) := by
      intro s hrn hs'
      subst hrn
      have sh : ShOk 1 ((ib M : Int) - (p : Int) - 1) := by
        refine ⟨by omega, ?_⟩
        have : Builtin.Int.intBits 1 = 1 := ib_one
        rw [this]
        have : ib M ≤ 1000 := hb
        have e2 : (2 : Int) ^ 27 = 134217728 := by decide
        rw [e2]
        omega
      have q1 : rq "n" sign M (ib M - p) = if 2 ^ (ib M - p) < 2 * (M % 2 ^ (ib M - p)) ∨ (2 * (M % 2 ^ (ib M - p)) = 2 ^ (ib M - p) ∧ (M / 2 ^ (ib M - p)) % 2 = 1) then M / 2 ^ (ib M - p) + 1 else M / 2 ^ (ib M - p) := by
        unfold rq
        rw [if_pos rfl]
      have b1 : Builtin.bitAnd (Int.fdiv M (2 ^ Int.toNat ((ib M : Int) - (p : Int) - 1))) 1 = M / 2 ^ (ib M - p - 1) % 2 := by rw [toN1, fdiv_p2, bitAnd_m1]
      have b2 : Builtin.bitAnd (Int.fdiv M (2 ^ Int.toNat ((ib M : Int) - (p : Int) - 1))) 2 = 2 * (M / 2 ^ (ib M - p) % 2) := by rw [toN1, fdiv_p2, and_two nonneg0, t1]
      have b3 : Builtin.bitAnd M (1 * 2 ^ Int.toNat ((ib M : Int) - (p : Int) - 1) - 1) = M % 2 ^ (ib M - p - 1) := by rw [toN1, Int.one_mul, and_mask (by omega)]
      have b4 : Int.fdiv (Int.fdiv M (2 ^ Int.toNat ((ib M : Int) - (p : Int) - 1))) (2 ^ Int.toNat 1) = M / 2 ^ (ib M - p) := by
        have : (2 : Int) ^ Int.toNat 1 = 2 := by decide
        rw [toN1, fdiv_p2, fdiv_p2, this, t1]
      by_cases c1 : M / 2 ^ (ib M - p - 1) % 2 = 0
      · refine r_nz_n_dn ⟨hm, hpos, rfl, by omega, by rw [b1, c1]; rfl, by decide, ?_, trivial⟩
        have : rq "n" sign M (ib M - p) = M / 2 ^ (ib M - p) := by
          rw [q1, if_neg]
          rw [t2, c1]
          omega
        rw [b4]
        rw [this] at tail ⊢
        exact tail.sub sub_nt
      · have c1' : M / 2 ^ (ib M - p - 1) % 2 = 1 := by omega
        have n1 : (Builtin.bitAnd (Int.fdiv M (2 ^ Int.toNat ((ib M : Int) - (p : Int) - 1))) 1 != 0) = true := by rw [b1, c1']; rfl
        by_cases c2 : M / 2 ^ (ib M - p) % 2 = 1
        · have : rq "n" sign M (ib M - p) = M / 2 ^ (ib M - p) + 1 := by
            rw [q1, if_pos]
            rw [t2, c1']
            omega
          refine r_nz_n_up1 ⟨hm, hpos, rfl, by omega, n1, by rw [b2, c2]; rfl, by decide, ?_, trivial⟩
          rw [b4]
          rw [this] at tail ⊢
          exact tail.sub sub_nt
        · have c2' : M / 2 ^ (ib M - p) % 2 = 0 := by omega
          have n2 : (Builtin.bitAnd (Int.fdiv M (2 ^ Int.toNat ((ib M : Int) - (p : Int) - 1))) 2 != 0) = false := by rw [b2, c2']; rfl
          by_cases c3 : M % 2 ^ (ib M - p - 1) = 0
          · have : rq "n" sign M (ib M - p) = M / 2 ^ (ib M - p) := by
              rw [q1, if_neg]
              rw [t2, c1']
              omega
            refine r_nz_n_tie ⟨hm, hpos, rfl, by omega, n1, n2, sh, by rw [b3, c3]; rfl, by decide, ?_, trivial⟩
            rw [b4]
            rw [this] at tail ⊢
            exact tail.sub sub_nt
          · have : rq "n" sign M (ib M - p) = M / 2 ^ (ib M - p) + 1 := by
              rw [q1, if_pos]
              rw [t2, c1']
              omega
            refine r_nz_n_up2 ⟨hm, hpos, rfl, by omega, n1, n2, sh, by rw [b3, bne_iff_ne]; exact c3, by decide, ?_, trivial⟩
            rw [b4]
            rw [this] at tail ⊢
            exact tail.sub sub_nt
    have dn : rnd ≠ "n" → outw rnd sign = false → rq rnd sign M (ib M - p) = Int.fdiv M (2 ^ Int.toNat ((ib M : Int) - (p : Int))) := by
      intro h1 h2
      unfold rq
      rw [if_neg h1, h2, toN, fdiv_p2]
      rfl
    have up : rnd ≠ "n" → outw rnd sign = true → rq rnd sign M (ib M - p) = -Int.fdiv (-M) (2 ^ Int.toNat ((ib M : Int) - (p : Int))) := by
      intro h1 h2
      unfold rq
      rw [if_neg h1, h2, toN, fdiv_p2]
      rfl
    rcases hr with rfl | rfl | rfl | rfl | rfl
    · exact near sign rfl rfl
    · rcases hs with rfl | rfl
      · rw [dn (by decide) (by decide)] at tail ⊢
        exact r_nz_f0 ⟨hm, hpos, by decide, by decide, by omega, tail.sub sub_n, trivial⟩
      · rw [up (by decide) (by decide)] at tail ⊢
        exact r_nz_f1 ⟨hm, hpos, by decide, by decide, by omega, tail.sub sub_n, trivial⟩
    · rcases hs with rfl | rfl
      · rw [up (by decide) (by decide)] at tail ⊢
        exact r_nz_c0 ⟨hm, hpos, by decide, by decide, by omega, tail.sub sub_n, trivial⟩
      · rw [dn (by decide) (by decide)] at tail ⊢
        exact r_nz_c1 ⟨hm, hpos, by decide, by decide, by omega, tail.sub sub_n, trivial⟩
    · rcases hs with rfl | rfl
      · rw [up (by decide) (by decide)] at tail ⊢
        exact r_nz_u0 ⟨hm, hpos, by decide, by decide, by omega, tail.sub sub_n, trivial⟩
      · rw [up (by decide) (by decide)] at tail ⊢
        exact r_nz_u1 ⟨hm, hpos, by decide, by decide, by omega, tail.sub sub_n, trivial⟩
    · rcases hs with rfl | rfl
      · rw [dn (by decide) (by decide)] at tail ⊢
        exact r_nz_d0 ⟨hm, hpos, by decide, by decide, by omega, tail.sub sub_n, trivial⟩
      · rw [dn (by decide) (by decide)] at tail ⊢
        exact r_nz_d1 ⟨hm, hpos, by decide, by decide, by omega, tail.sub sub_n, trivial⟩

theorem c_normalize {w : World} {k : Nat} {sign M E : Int} {p : Nat} {rnd : Str} (hM : 0 < M) (hs : sign = 0 ∨ sign = 1) (hp : 1 ≤ p) (hr : Way rnd) (hb : ib M ≤ 1000) :
    Cz w (k + 3) 45 [.int sign, .int M, .int E, .int (ib M), .int p, .str rnd] (nr rnd p sign M E) :=
  in_normalize_6 (r_normalize ⟨by simp, by simp; omega, c_nnormalize hM hs hp hr hb, trivial⟩)
end Mine
end
section
set_option Elab.async false
set_option maxRecDepth 100000
set_option autoImplicit false
open PySem PySem.W PySem.Calls PyProof.Rows PySem.Spec
namespace Mine
variable {w : World} {k : Nat}

/-- a sign -/
def Sg (s : Int) : Prop := s = 0 ∨ s = 1
def sv (s M : Int) : Int := if s = 1 then -M else M
def sgv (v : Int) : Int := if v < 0 then 1 else 0
def av (v : Int) : Int := if v < 0 then -v else v
noncomputable def ot (prec : Nat) (rnd : Str) (sg M E : Int) : V := if prec = 0 then nm sg M E else nr rnd prec sg M E
theorem ot_mul {prec : Nat} {rnd : Str} {sg M E : Int} (h : 0 < M) (j : Nat) : ot prec rnd sg (M * 2 ^ j) E = ot prec rnd sg M (E + j) := by
  unfold ot
  rw [nm_mul h, nr_mul h]
theorem nr_self {rnd : Str} {sg M E : Int} : nr rnd (ib M) sg M E = nm sg M E := if_pos (Nat.le_refl _)

theorem c_norm_ot {sg man E : Int} {prec : Nat} {P : Int} {rnd : Str} (hman : 0 < man) (hs : Sg sg) (hr : Way rnd) (hb : ib man ≤ 1000) (hP : P = if prec = 0 then (ib man : Int) else prec) :
    Cz w (k + 3) 45 [.int sg, .int man, .int E, .int (ib man), .int P, .str rnd] (ot prec rnd sg man E) := by
  subst hP
  unfold ot
  by_cases h : prec = 0
  · rw [if_pos h, if_pos h, ← nr_self (rnd := rnd)]
    exact c_normalize hman hs (ib_pos hman) hr hb
  · rw [if_neg h, if_neg h]
    exact c_normalize hman hs (by omega) hr hb

theorem bne0 {x : Int} (h : x ≠ 0) : (x != 0) = true := by rw [bne_iff_ne]; exact h
theorem beq0 {x : Int} (h : x = 0) : (x != 0) = false := by rw [h]; rfl
theorem sub_xor {s sub : Int} (hs : Sg s) (hu : Sg sub) : Sg (Builtin.bitXor s sub) ∧ (sub = 0 → Builtin.bitXor s sub = s) ∧ (sub = 1 → Builtin.bitXor s sub = 1 - s) := by
  rcases hs with rfl | rfl <;> rcases hu with rfl | rfl <;> (refine ⟨?_, ?_, ?_⟩ <;> first | (show _ ∨ _; decide) | decide)

section
variable {s1 o1 x1 b1 s2 o2 x2 b2 sub : Int} {prec : Nat} {rnd : Str} {R : V}
/-- what the end of a sum asks -/
def Ends (w : World) (k : Nat) (prec : Nat) (rnd : Str) (v e : Int) (R : V) : Prop :=
  ∀ sgn man P : Int, 0 < man → sgn = sgv v → man = av v → (P = if prec = 0 then (ib man : Int) else prec) → Cz w (k + 3) 45 [.int sgn, .int man, .int e, .int (ib man), .int P, .str rnd] R

theorem precT {p : Nat} (h : p ≠ 0) : ((p : Int) != 0) = true := bne0 (by omega)

theorem raw_g (h1 : o1 ≠ 0) (h2 : o2 ≠ 0) (hx : 0 < x1 - x2) (hx2 : x1 - x2 ≤ 100) (hs1 : Sg s1) (hs2 : Sg (Builtin.bitXor s2 sub)) (hsh : ShOk o1 (x1 - x2)) (hp : 0 < o1 * 2 ^ Int.toNat (x1 - x2)) (hq : 0 < o2)
    (hv : sv s1 (o1 * 2 ^ Int.toNat (x1 - x2)) + sv (Builtin.bitXor s2 sub) (o2) ≠ 0) (H : Ends w k prec rnd (sv s1 (o1 * 2 ^ Int.toNat (x1 - x2)) + sv (Builtin.bitXor s2 sub) (o2)) x2 R) :
    Dz w (k + 3) 114 [(Str.ofString "_sub", V.int sub), (Str.ofString "rnd", V.str rnd), (Str.ofString "prec", V.int prec), (Str.ofString "t", mp s2 o2 x2 b2), (Str.ofString "s", mp s1 o1 x1 b1)] (bdy w 114) (.ret R) := by
  have a1 := bne0 h1
  have a2 := bne0 h2
  have a3 : (x1 - x2 != 0) = true := bne0 (by omega)
  have a4 : decide (0 < x1 - x2) = true := decide_eq_true hx
  have a5 : decide (100 < x1 - x2) = false := decide_eq_false (by omega)
  by_cases hpr : prec = 0
  · subst hpr
    have a6 : (((0 : Nat) : Int) != 0) = false := rfl
    rcases hs1 with rfl | rfl <;> rcases hs2 with hs2 | hs2 <;> simp only [hs2, sv, if_true, if_false, (by decide : ¬ (0 : Int) = 1)] at hv H
    · exact r_add_g_s_z ⟨a1, a2, a3, a4, a5, by rw [hs2]; rfl, hsh, a6, H _ _ _ (by omega) (by unfold sgv; rw [if_neg (by omega)]) (by unfold av; rw [if_neg (by omega)] <;> omega) rfl, trivial⟩
    · by_cases hc : 0 ≤ o1 * 2 ^ Int.toNat (x1 - x2) - o2
      · exact r_add_g_ft_z ⟨a1, a2, a3, a4, a5, by rw [hs2]; rfl, rfl, hsh, decide_eq_true hc, a6, H _ _ _ (by omega) (by unfold sgv; rw [if_neg (by omega)]) (by unfold av; rw [if_neg (by omega)] <;> omega) rfl, trivial⟩
      · exact r_add_g_ff_z ⟨a1, a2, a3, a4, a5, by rw [hs2]; rfl, rfl, hsh, decide_eq_false hc, a6, H _ _ _ (by omega) (by unfold sgv; rw [if_pos (by omega)]) (by unfold av; rw [if_pos (by omega)] <;> omega) rfl, trivial⟩
    · by_cases hc : 0 ≤ o2 - o1 * 2 ^ Int.toNat (x1 - x2)
      · exact r_add_g_tt_z ⟨a1, a2, a3, a4, a5, by rw [hs2]; rfl, rfl, hsh, decide_eq_true hc, a6, H _ _ _ (by omega) (by unfold sgv; rw [if_neg (by omega)]) (by unfold av; rw [if_neg (by omega)] <;> omega) rfl, trivial⟩
      · exact r_add_g_tf_z ⟨a1, a2, a3, a4, a5, by rw [hs2]; rfl, rfl, hsh, decide_eq_false hc, a6, H _ _ _ (by omega) (by unfold sgv; rw [if_pos (by omega)]) (by unfold av; rw [if_pos (by omega)] <;> omega) rfl, trivial⟩
    · exact r_add_g_s_z ⟨a1, a2, a3, a4, a5, by rw [hs2]; rfl, hsh, a6, H _ _ _ (by omega) (by unfold sgv; rw [if_pos (by omega)]) (by unfold av; rw [if_pos (by omega)] <;> omega) rfl, trivial⟩
  · have a6 : ((prec : Int) != 0) = true := precT hpr
    rcases hs1 with rfl | rfl <;> rcases hs2 with hs2 | hs2 <;> simp only [hs2, sv, if_true, if_false, (by decide : ¬ (0 : Int) = 1)] at hv H
    · exact r_add_g_s_p ⟨a1, a2, a3, a4, a5, by rw [hs2]; rfl, hsh, a6, H _ _ _ (by omega) (by unfold sgv; rw [if_neg (by omega)]) (by unfold av; rw [if_neg (by omega)] <;> omega) (if_neg hpr).symm, trivial⟩
    · by_cases hc : 0 ≤ o1 * 2 ^ Int.toNat (x1 - x2) - o2
      · exact r_add_g_ft_p ⟨a1, a2, a3, a4, a5, by rw [hs2]; rfl, rfl, hsh, decide_eq_true hc, a6, H _ _ _ (by omega) (by unfold sgv; rw [if_neg (by omega)]) (by unfold av; rw [if_neg (by omega)] <;> omega) (if_neg hpr).symm, trivial⟩
      · exact r_add_g_ff_p ⟨a1, a2, a3, a4, a5, by rw [hs2]; rfl, rfl, hsh, decide_eq_false hc, a6, H _ _ _ (by omega) (by unfold sgv; rw [if_pos (by omega)]) (by unfold av; rw [if_pos (by omega)] <;> omega) (if_neg hpr).symm, trivial⟩
    · by_cases hc : 0 ≤ o2 - o1 * 2 ^ Int.toNat (x1 - x2)
      · exact r_add_g_tt_p ⟨a1, a2, a3, a4, a5, by rw [hs2]; rfl, rfl, hsh, decide_eq_true hc, a6, H _ _ _ (by omega) (by unfold sgv; rw [if_neg (by omega)]) (by unfold av; rw [if_neg (by omega)] <;> omega) (if_neg hpr).symm, trivial⟩
      · exact r_add_g_tf_p ⟨a1, a2, a3, a4, a5, by rw [hs2]; rfl, rfl, hsh, decide_eq_false hc, a6, H _ _ _ (by omega) (by unfold sgv; rw [if_pos (by omega)]) (by unfold av; rw [if_pos (by omega)] <;> omega) (if_neg hpr).symm, trivial⟩
    · exact r_add_g_s_p ⟨a1, a2, a3, a4, a5, by rw [hs2]; rfl, hsh, a6, H _ _ _ (by omega) (by unfold sgv; rw [if_pos (by omega)]) (by unfold av; rw [if_pos (by omega)] <;> omega) (if_neg hpr).symm, trivial⟩
theorem raw_l (h1 : o1 ≠ 0) (h2 : o2 ≠ 0) (hx : x1 - x2 < 0) (hx2 : -100 ≤ x1 - x2) (hs1 : Sg s1) (hs2 : Sg (Builtin.bitXor s2 sub)) (hsh : ShOk o2 (-(x1 - x2))) (hp : 0 < o1) (hq : 0 < o2 * 2 ^ Int.toNat (-(x1 - x2)))
    (hv : sv s1 (o1) + sv (Builtin.bitXor s2 sub) (o2 * 2 ^ Int.toNat (-(x1 - x2))) ≠ 0) (H : Ends w k prec rnd (sv s1 (o1) + sv (Builtin.bitXor s2 sub) (o2 * 2 ^ Int.toNat (-(x1 - x2)))) x1 R) :
    Dz w (k + 3) 114 [(Str.ofString "_sub", V.int sub), (Str.ofString "rnd", V.str rnd), (Str.ofString "prec", V.int prec), (Str.ofString "t", mp s2 o2 x2 b2), (Str.ofString "s", mp s1 o1 x1 b1)] (bdy w 114) (.ret R) := by
  have a1 := bne0 h1
  have a2 := bne0 h2
  have a3 : (x1 - x2 != 0) = true := bne0 (by omega)
  have a4 : decide (0 < x1 - x2) = false := decide_eq_false (by omega)
  have a4' : decide (x1 - x2 < 0) = true := decide_eq_true hx
  have a5 : decide (x1 - x2 < -100) = false := decide_eq_false (by omega)
  by_cases hpr : prec = 0
  · subst hpr
    have a6 : (((0 : Nat) : Int) != 0) = false := rfl
    rcases hs1 with rfl | rfl <;> rcases hs2 with hs2 | hs2 <;> simp only [hs2, sv, if_true, if_false, (by decide : ¬ (0 : Int) = 1)] at hv H
    · exact r_add_l_s_z ⟨a1, a2, a3, a4, a4', a5, by rw [hs2]; rfl, hsh, a6, H _ _ _ (by omega) (by unfold sgv; rw [if_neg (by omega)]) (by unfold av; rw [if_neg (by omega)] <;> omega) rfl, trivial⟩
    · by_cases hc : 0 ≤ o1 - o2 * 2 ^ Int.toNat (-(x1 - x2))
      · exact r_add_l_tt_z ⟨a1, a2, a3, a4, a4', a5, by rw [hs2]; rfl, by rw [hs2]; rfl, hsh, decide_eq_true hc, a6, H _ _ _ (by omega) (by unfold sgv; rw [if_neg (by omega)]) (by unfold av; rw [if_neg (by omega)] <;> omega) rfl, trivial⟩
      · exact r_add_l_tf_z ⟨a1, a2, a3, a4, a4', a5, by rw [hs2]; rfl, by rw [hs2]; rfl, hsh, decide_eq_false hc, a6, H _ _ _ (by omega) (by unfold sgv; rw [if_pos (by omega)]) (by unfold av; rw [if_pos (by omega)] <;> omega) rfl, trivial⟩
    · by_cases hc : 0 ≤ o2 * 2 ^ Int.toNat (-(x1 - x2)) - o1
      · exact r_add_l_ft_z ⟨a1, a2, a3, a4, a4', a5, by rw [hs2]; rfl, by rw [hs2]; rfl, hsh, decide_eq_true hc, a6, H _ _ _ (by omega) (by unfold sgv; rw [if_neg (by omega)]) (by unfold av; rw [if_neg (by omega)] <;> omega) rfl, trivial⟩
      · exact r_add_l_ff_z ⟨a1, a2, a3, a4, a4', a5, by rw [hs2]; rfl, by rw [hs2]; rfl, hsh, decide_eq_false hc, a6, H _ _ _ (by omega) (by unfold sgv; rw [if_pos (by omega)]) (by unfold av; rw [if_pos (by omega)] <;> omega) rfl, trivial⟩
    · exact r_add_l_s_z ⟨a1, a2, a3, a4, a4', a5, by rw [hs2]; rfl, hsh, a6, H _ _ _ (by omega) (by unfold sgv; rw [if_pos (by omega)]) (by unfold av; rw [if_pos (by omega)] <;> omega) rfl, trivial⟩
  · have a6 : ((prec : Int) != 0) = true := precT hpr
    rcases hs1 with rfl | rfl <;> rcases hs2 with hs2 | hs2 <;> simp only [hs2, sv, if_true, if_false, (by decide : ¬ (0 : Int) = 1)] at hv H
    · exact r_add_l_s_p ⟨a1, a2, a3, a4, a4', a5, by rw [hs2]; rfl, hsh, a6, H _ _ _ (by omega) (by unfold sgv; rw [if_neg (by omega)]) (by unfold av; rw [if_neg (by omega)] <;> omega) (if_neg hpr).symm, trivial⟩
    · by_cases hc : 0 ≤ o1 - o2 * 2 ^ Int.toNat (-(x1 - x2))
      · exact r_add_l_tt_p ⟨a1, a2, a3, a4, a4', a5, by rw [hs2]; rfl, by rw [hs2]; rfl, hsh, decide_eq_true hc, a6, H _ _ _ (by omega) (by unfold sgv; rw [if_neg (by omega)]) (by unfold av; rw [if_neg (by omega)] <;> omega) (if_neg hpr).symm, trivial⟩
      · exact r_add_l_tf_p ⟨a1, a2, a3, a4, a4', a5, by rw [hs2]; rfl, by rw [hs2]; rfl, hsh, decide_eq_false hc, a6, H _ _ _ (by omega) (by unfold sgv; rw [if_pos (by omega)]) (by unfold av; rw [if_pos (by omega)] <;> omega) (if_neg hpr).symm, trivial⟩
    · by_cases hc : 0 ≤ o2 * 2 ^ Int.toNat (-(x1 - x2)) - o1
      · exact r_add_l_ft_p ⟨a1, a2, a3, a4, a4', a5, by rw [hs2]; rfl, by rw [hs2]; rfl, hsh, decide_eq_true hc, a6, H _ _ _ (by omega) (by unfold sgv; rw [if_neg (by omega)]) (by unfold av; rw [if_neg (by omega)] <;> omega) (if_neg hpr).symm, trivial⟩
      · exact r_add_l_ff_p ⟨a1, a2, a3, a4, a4', a5, by rw [hs2]; rfl, by rw [hs2]; rfl, hsh, decide_eq_false hc, a6, H _ _ _ (by omega) (by unfold sgv; rw [if_pos (by omega)]) (by unfold av; rw [if_pos (by omega)] <;> omega) (if_neg hpr).symm, trivial⟩
    · exact r_add_l_s_p ⟨a1, a2, a3, a4, a4', a5, by rw [hs2]; rfl, hsh, a6, H _ _ _ (by omega) (by unfold sgv; rw [if_pos (by omega)]) (by unfold av; rw [if_pos (by omega)] <;> omega) (if_neg hpr).symm, trivial⟩
theorem raw_e (h1 : o1 ≠ 0) (h2 : o2 ≠ 0) (hx : x1 - x2 = 0) (hs1 : Sg s1) (hs2 : Sg (Builtin.bitXor s2 sub)) (hp : 0 < o1) (hq : 0 < o2)
    (hv : sv s1 o1 + sv (Builtin.bitXor s2 sub) o2 ≠ 0) (H : Ends w k prec rnd (sv s1 o1 + sv (Builtin.bitXor s2 sub) o2) x2 R) :
    Dz w (k + 3) 114 [(Str.ofString "_sub", V.int sub), (Str.ofString "rnd", V.str rnd), (Str.ofString "prec", V.int prec), (Str.ofString "t", mp s2 o2 x2 b2), (Str.ofString "s", mp s1 o1 x1 b1)] (bdy w 114) (.ret R) := by
  have a1 := bne0 h1
  have a2 := bne0 h2
  have a3 : (x1 - x2 != 0) = false := beq0 hx
  by_cases hpr : prec = 0
  · subst hpr
    have a6 : (((0 : Nat) : Int) != 0) = false := rfl
    rcases hs1 with rfl | rfl <;> rcases hs2 with hs2 | hs2 <;> simp only [hs2, sv, if_true, if_false, (by decide : ¬ (0 : Int) = 1)] at hv H
    · exact r_add_e_s_z ⟨a1, a2, a3, by rw [hs2]; rfl, a6, H _ _ _ (by omega) (by unfold sgv; rw [if_neg (by omega)]) (by unfold av; rw [if_neg (by omega)] <;> omega) rfl, trivial⟩
    · by_cases hc : 0 ≤ o1 - o2
      · exact r_add_e_ft_z ⟨a1, a2, a3, by rw [hs2]; rfl, rfl, decide_eq_true hc, a6, H _ _ _ (by omega) (by unfold sgv; rw [if_neg (by omega)]) (by unfold av; rw [if_neg (by omega)] <;> omega) rfl, trivial⟩
      · exact r_add_e_ff_z ⟨a1, a2, a3, by rw [hs2]; rfl, rfl, decide_eq_false hc, a6, H _ _ _ (by omega) (by unfold sgv; rw [if_pos (by omega)]) (by unfold av; rw [if_pos (by omega)] <;> omega) rfl, trivial⟩
    · by_cases hc : 0 ≤ o2 - o1
      · exact r_add_e_tt_z ⟨a1, a2, a3, by rw [hs2]; rfl, rfl, decide_eq_true hc, a6, H _ _ _ (by omega) (by unfold sgv; rw [if_neg (by omega)]) (by unfold av; rw [if_neg (by omega)] <;> omega) rfl, trivial⟩
      · exact r_add_e_tf_z ⟨a1, a2, a3, by rw [hs2]; rfl, rfl, decide_eq_false hc, a6, H _ _ _ (by omega) (by unfold sgv; rw [if_pos (by omega)]) (by unfold av; rw [if_pos (by omega)] <;> omega) rfl, trivial⟩
    · exact r_add_e_s_z ⟨a1, a2, a3, by rw [hs2]; rfl, a6, H _ _ _ (by omega) (by unfold sgv; rw [if_pos (by omega)]) (by unfold av; rw [if_pos (by omega)] <;> omega) rfl, trivial⟩
  · have a6 : ((prec : Int) != 0) = true := precT hpr
    rcases hs1 with rfl | rfl <;> rcases hs2 with hs2 | hs2 <;> simp only [hs2, sv, if_true, if_false, (by decide : ¬ (0 : Int) = 1)] at hv H
    · exact r_add_e_s_p ⟨a1, a2, a3, by rw [hs2]; rfl, a6, H _ _ _ (by omega) (by unfold sgv; rw [if_neg (by omega)]) (by unfold av; rw [if_neg (by omega)] <;> omega) (if_neg hpr).symm, trivial⟩
    · by_cases hc : 0 ≤ o1 - o2
      · exact r_add_e_ft_p ⟨a1, a2, a3, by rw [hs2]; rfl, rfl, decide_eq_true hc, a6, H _ _ _ (by omega) (by unfold sgv; rw [if_neg (by omega)]) (by unfold av; rw [if_neg (by omega)] <;> omega) (if_neg hpr).symm, trivial⟩
      · exact r_add_e_ff_p ⟨a1, a2, a3, by rw [hs2]; rfl, rfl, decide_eq_false hc, a6, H _ _ _ (by omega) (by unfold sgv; rw [if_pos (by omega)]) (by unfold av; rw [if_pos (by omega)] <;> omega) (if_neg hpr).symm, trivial⟩
    · by_cases hc : 0 ≤ o2 - o1
      · exact r_add_e_tt_p ⟨a1, a2, a3, by rw [hs2]; rfl, rfl, decide_eq_true hc, a6, H _ _ _ (by omega) (by unfold sgv; rw [if_neg (by omega)]) (by unfold av; rw [if_neg (by omega)] <;> omega) (if_neg hpr).symm, trivial⟩
      · exact r_add_e_tf_p ⟨a1, a2, a3, by rw [hs2]; rfl, rfl, decide_eq_false hc, a6, H _ _ _ (by omega) (by unfold sgv; rw [if_pos (by omega)]) (by unfold av; rw [if_pos (by omega)] <;> omega) (if_neg hpr).symm, trivial⟩
    · exact r_add_e_s_p ⟨a1, a2, a3, by rw [hs2]; rfl, a6, H _ _ _ (by omega) (by unfold sgv; rw [if_pos (by omega)]) (by unfold av; rw [if_pos (by omega)] <;> omega) (if_neg hpr).symm, trivial⟩
end
end Mine
end
section
set_option Elab.async false
set_option maxRecDepth 100000
set_option autoImplicit false
open PySem PySem.W PySem.Calls PyProof.Rows PySem.Spec
namespace Mine
variable {w : World} {k : Nat}

theorem sv_mul {s M : Int} (j : Nat) : sv s (M * 2 ^ j) = sv s M * 2 ^ j := by
  unfold sv
  split <;> simp [Int.neg_mul]
theorem mul_p2_neg {v : Int} (j : Nat) : v * 2 ^ j < 0 ↔ v < 0 := by
  have hj := p2pos j
  constructor
  · intro h
    apply Int.not_le.mp
    intro q
    have := Int.mul_nonneg q (Int.le_of_lt hj)
    omega
  · intro h
    exact Int.mul_neg_of_neg_of_pos h hj
theorem sgv_mul {v : Int} (j : Nat) : sgv (v * 2 ^ j) = sgv v := by
  unfold sgv
  simp only [mul_p2_neg]
theorem av_mul {v : Int} (j : Nat) : av (v * 2 ^ j) = av v * 2 ^ j := by
  unfold av
  simp only [mul_p2_neg]
  split <;> simp [Int.neg_mul]
theorem sgv_sg (v : Int) : Sg (sgv v) := by
  unfold sgv Sg
  split <;> simp
theorem av_pos {v : Int} (h : v ≠ 0) : 0 < av v := by
  unfold av
  split <;> omega
theorem av_le {s1 s2 M1 M2 : Int} (h1 : 0 < M1) (h2 : 0 < M2) : av (sv s1 M1 + sv s2 M2) ≤ M1 + M2 := by
  unfold av sv
  split <;> split <;> split <;> omega
theorem ib_mono {a b : Int} (h0 : 0 ≤ a) (h : a ≤ b) : ib a ≤ ib b := (ib_le h0).mpr (Int.lt_of_le_of_lt h ((ib_le (by omega)).mp (Nat.le_refl _)))
theorem ib_add {a b : Int} {n : Nat} (ha : 0 < a) (hb : 0 < b) (h1 : ib a ≤ n) (h2 : ib b ≤ n) : ib (a + b) ≤ n + 1 := by
  have e1 := (ib_le (by omega : 0 ≤ a)).mp h1
  have e2 := (ib_le (by omega : 0 ≤ b)).mp h2
  refine (ib_le (by omega)).mpr ?_
  rw [p2succ]
  omega

theorem ends_of {prec : Nat} {rnd : Str} {v v' E : Int} {j : Nat} (hr : Way rnd) (e : v = v' * 2 ^ j) (hb : ib (av v') ≤ 1000) : Ends w k prec rnd v' (E + j) (ot prec rnd (sgv v) (av v) E) := by
  intro sgn man P hm hs ha hP
  subst hs
  rw [e, sgv_mul, av_mul, ← ha, ot_mul hm]
  exact c_norm_ot hm (sgv_sg _) hr (by rw [ha]; exact hb) hP

theorem d_add {s1 s2 sub M1 M2 E : Int} {prec : Nat} {rnd : Str} (hM1 : 0 < M1) (hM2 : 0 < M2) (b1 : ib M1 ≤ 64) (b2 : ib M2 ≤ 64) (hs1 : Sg s1) (hs2 : Sg s2) (hu : Sg sub) (hr : Way rnd)
    (hv : sv s1 M1 + sv (Builtin.bitXor s2 sub) M2 ≠ 0) :
    Dz w (k + 3) 114 [(Str.ofString "_sub", V.int sub), (Str.ofString "rnd", V.str rnd), (Str.ofString "prec", V.int prec), (Str.ofString "t", nm s2 M2 E), (Str.ofString "s", nm s1 M1 E)] (bdy w 114) (.ret (ot prec rnd (sgv (sv s1 M1 + sv (Builtin.bitXor s2 sub) M2)) (av (sv s1 M1 + sv (Builtin.bitXor s2 sub) M2)) E)) := by
  obtain ⟨a1, o1, p1⟩ := od_tz hM1
  obtain ⟨a2, o2, p2⟩ := od_tz hM2
  have i1 : ib M1 = ib (od M1) + tz M1 := by
    conv => lhs; rw [a1]
    exact ib_mul p1 _
  have i2 : ib M2 = ib (od M2) + tz M2 := by
    conv => lhs; rw [a2]
    exact ib_mul p2 _
  have hx := (sub_xor hs2 hu).1
  generalize hsx : Builtin.bitXor s2 sub = s2' at *
  have e27 : (2 : Int) ^ 27 = 134217728 := by decide
  have key : ∀ (X Y : Int) (j : Nat), M1 = X * 2 ^ j → M2 = Y * 2 ^ j → 0 < X → 0 < Y → sv s1 M1 + sv s2' M2 = (sv s1 X + sv s2' Y) * 2 ^ j ∧ ib (av (sv s1 X + sv s2' Y)) ≤ 1000 ∧ sv s1 X + sv s2' Y ≠ 0 := by
    intro X Y j eX eY hX hY
    have e : sv s1 M1 + sv s2' M2 = (sv s1 X + sv s2' Y) * 2 ^ j := by rw [eX, eY, sv_mul, sv_mul, Int.add_mul]
    refine ⟨e, ?_, ?_⟩
    · have hX' : ib X ≤ 64 := by
        have := ib_mul hX j
        rw [← eX] at this
        omega
      have hY' : ib Y ≤ 64 := by
        have := ib_mul hY j
        rw [← eY] at this
        omega
      have := ib_add hX hY hX' hY'
      have h0 : 0 ≤ av (sv s1 X + sv s2' Y) := by unfold av; split <;> omega
      have := ib_mono h0 (av_le (s1 := s1) (s2 := s2') hX hY)
      omega
    · intro q
      rw [e, q] at hv
      simp at hv
  rcases Nat.lt_trichotomy (tz M1) (tz M2) with h | h | h
  · have hd : Int.toNat (-(E + (tz M1 : Int) - (E + (tz M2 : Int)))) = tz M2 - tz M1 := by omega
    have hY : 0 < od M2 * 2 ^ (tz M2 - tz M1) := Int.mul_pos p2 (p2pos _)
    obtain ⟨e, f, g⟩ := key (od M1) (od M2 * 2 ^ (tz M2 - tz M1)) (tz M1) a1 (by
      conv => lhs; rw [a2]
      rw [Int.mul_assoc, ← p2add]
      congr 2
      omega) p1 hY
    have := raw_l (w := w) (k := k) (s1 := s1) (o1 := od M1) (x1 := E + tz M1) (b1 := ib (od M1)) (s2 := s2) (o2 := od M2) (x2 := E + tz M2) (b2 := ib (od M2)) (sub := sub) (prec := prec) (rnd := rnd)
      (R := ot prec rnd (sgv (sv s1 M1 + sv s2' M2)) (av (sv s1 M1 + sv s2' M2)) E)
      (by omega) (by omega) (by omega) (by omega) hs1 (by rw [hsx]; exact hx) ⟨by omega, by rw [e27]; have : ib (od M2) = Builtin.Int.intBits (od M2) := rfl; omega⟩ p1 (by rw [hd]; exact hY) (by rw [hd, hsx]; exact g) (by rw [hd, hsx]; exact ends_of hr e f)
    exact this
  · obtain ⟨e, f, g⟩ := key (od M1) (od M2) (tz M2) (by rw [← h]; exact a1) a2 p1 p2
    have := raw_e (w := w) (k := k) (s1 := s1) (o1 := od M1) (x1 := E + tz M1) (b1 := ib (od M1)) (s2 := s2) (o2 := od M2) (x2 := E + tz M2) (b2 := ib (od M2)) (sub := sub) (prec := prec) (rnd := rnd)
      (R := ot prec rnd (sgv (sv s1 M1 + sv s2' M2)) (av (sv s1 M1 + sv s2' M2)) E)
      (by omega) (by omega) (by omega) hs1 (by rw [hsx]; exact hx) p1 p2 (by rw [hsx]; exact g) (by rw [hsx]; exact ends_of hr e f)
    exact this
  · have hd : Int.toNat (E + (tz M1 : Int) - (E + (tz M2 : Int))) = tz M1 - tz M2 := by omega
    have hX : 0 < od M1 * 2 ^ (tz M1 - tz M2) := Int.mul_pos p1 (p2pos _)
    obtain ⟨e, f, g⟩ := key (od M1 * 2 ^ (tz M1 - tz M2)) (od M2) (tz M2) (by
      conv => lhs; rw [a1]
      rw [Int.mul_assoc, ← p2add]
      congr 2
      omega) a2 hX p2
    have := raw_g (w := w) (k := k) (s1 := s1) (o1 := od M1) (x1 := E + tz M1) (b1 := ib (od M1)) (s2 := s2) (o2 := od M2) (x2 := E + tz M2) (b2 := ib (od M2)) (sub := sub) (prec := prec) (rnd := rnd)
      (R := ot prec rnd (sgv (sv s1 M1 + sv s2' M2)) (av (sv s1 M1 + sv s2' M2)) E)
      (by omega) (by omega) (by omega) (by omega) hs1 (by rw [hsx]; exact hx) ⟨by omega, by rw [e27]; have : ib (od M1) = Builtin.Int.intBits (od M1) := rfl; omega⟩ (by rw [hd]; exact hX) p2 (by rw [hd, hsx]; exact g) (by rw [hd, hsx]; exact ends_of hr e f)
    exact this
end Mine
end
section
set_option Elab.async false
set_option maxRecDepth 100000
set_option autoImplicit false
open PySem PySem.W PySem.Calls PyProof.Rows PySem.Spec
namespace Mine
variable {w : World} {k : Nat}

theorem od_ne {M : Int} (h : 0 < M) : (od M != 0) = true := by
  have := (od_tz h).2.2
  exact bne0 (by omega)
theorem ib_od {M : Int} (h : 0 < M) : ib M = ib (od M) + tz M := by
  obtain ⟨a, b, c⟩ := od_tz h
  conv => lhs; rw [a]
  exact ib_mul c _
theorem ib_od_le {M : Int} (h : 0 < M) : ib (od M) ≤ ib M := by have := ib_od h; omega

theorem c_fme0 {M E : Int} (hM : 0 < M) : Cz w (k + 2) 53 [.int M, .int E] (nm 0 M E) := by
  obtain ⟨a, o, p⟩ := od_tz hM
  have hib := ib_od hM
  refine in_from_man_exp_2 ?_
  have h1 := bne0 (by omega : M ≠ 0)
  have h2 : decide (M < 0) = false := decide_eq_false (by omega)
  by_cases c1 : M % 2 = 1
  · rw [nm_odd c1 hM]
    exact r_fme_odd (t := 0) ⟨rfl, h2, rfl, h1, by rw [bitAnd_m1, c1]; rfl, trivial⟩
  · have c1' : M % 2 = 0 := by omega
    by_cases c2 : M / 2 % 2 = 1
    · have e : M = (M / 2) * 2 ^ 1 := by omega
      rw [nm_of e c2 (by omega)]
      obtain ⟨e1, e2⟩ := od_of e c2 (by omega)
      have := r_fme_two (w := w) (k := k + 1) (man := M) (exp := E) (t := 0) (rnd := Str.ofString "d") ⟨rfl, h2, rfl, h1, by rw [bitAnd_m1, c1']; rfl, by rw [and_two (by omega), c2]; rfl, by decide, trivial⟩
      have f1 : Int.fdiv M (2 ^ Int.toNat 1) = M / 2 := by
        have : (2 : Int) ^ Int.toNat 1 = 2 := by decide
        rw [fdiv_p2, this]
      have f2 : ((Builtin.Int.intBits M : Nat) : Int) - 1 = (ib (M / 2) : Int) := by
        rw [e1, e2] at hib
        have : Builtin.Int.intBits M = ib M := rfl
        omega
      rw [f1, f2] at this
      exact this
    · have := r_fme_more (w := w) (k := k + 1) (man := M) (exp := E) (t := tz M) (rnd := Str.ofString "d") ⟨rfl, h2, rfl, h1, by rw [bitAnd_m1, c1']; rfl, by rw [and_two (by omega)]; simp; omega, by
        have := c_trailing (w := w) (k := k) (t := tz M) o p
        rw [← a] at this
        exact this, by omega, trivial⟩
      have f1 : Int.fdiv M (2 ^ Int.toNat (tz M : Int)) = od M := by
        rw [Int.toNat_natCast, fdiv_p2]
        conv => lhs; lhs; rw [a]
        exact mul_p2_div _ _
      have f2 : ((Builtin.Int.intBits M : Nat) : Int) - (tz M : Int) = (ib (od M) : Int) := by
        have : Builtin.Int.intBits M = ib M := rfl
        omega
      rw [f1, f2] at this
      exact this

theorem c_fme {man E : Int} {prec : Nat} {rnd : Str} (hm : man ≠ 0) (hp : 1 ≤ prec) (hr : Way rnd) (hb : ib (av man) ≤ 1000) : Cz w (k + 4) 53 [.int man, .int E, .int prec, .str rnd] (nr rnd prec (sgv man) (av man) E) := by
  have hN := c_normalize (w := w) (k := k) (E := E) (av_pos hm) (sgv_sg man) hp hr hb
  refine in_from_man_exp_4 ?_
  by_cases h : man < 0
  · have e1 : sgv man = 1 := if_pos h
    have e2 : av man = -man := if_pos h
    rw [e1, e2] at hN ⊢
    exact r_fme_neg ⟨rfl, decide_eq_true h, precT (by omega), hN, trivial⟩
  · have e1 : sgv man = 0 := if_neg h
    have e2 : av man = man := if_neg h
    rw [e1, e2] at hN ⊢
    exact r_fme_pos ⟨rfl, decide_eq_false h, precT (by omega), hN, trivial⟩

section
variable {s M E : Int} {prec : Nat} {rnd : Str}
theorem c_norm_od (hM : 0 < M) (hs : Sg s) (hp : 1 ≤ prec) (hr : Way rnd) (hb : ib M ≤ 1000) : Cz w (k + 3) 45 [.int s, .int (od M), .int (E + tz M), .int (ib (od M)), .int prec, .str rnd] (nr rnd prec s M E) := by
  rw [← nr_od hM]
  exact c_normalize (od_tz hM).2.2 hs hp hr (by have := ib_od_le hM; omega)
theorem sg_flip (hs : Sg s) : Sg (1 - s) := by
  rcases hs with rfl | rfl
  · exact .inr rfl
  · exact .inl rfl

theorem c_pos (hM : 0 < M) (hs : Sg s) (hp : 1 ≤ prec) (hr : Way rnd) (hb : ib M ≤ 1000) : Cz w (k + 4) 83 [nm s M E, .int prec, .str rnd] (nr rnd prec s M E) :=
  in_mpf_pos_3 (r_pos ⟨precT (by omega), od_ne hM, c_norm_od hM hs hp hr hb, trivial⟩)
theorem c_neg0 (hM : 0 < M) : Cz w (k + 1) 91 [nm s M E] (nm (1 - s) M E) :=
  in_mpf_neg_1 (r_neg0 ⟨od_ne hM, rfl, trivial⟩)
theorem c_neg (hM : 0 < M) (hs : Sg s) (hp : 1 ≤ prec) (hr : Way rnd) (hb : ib M ≤ 1000) : Cz w (k + 4) 91 [nm s M E, .int prec, .str rnd] (nr rnd prec (1 - s) M E) :=
  in_mpf_neg_3 (r_neg ⟨od_ne hM, precT (by omega), c_norm_od hM (sg_flip hs) hp hr hb, trivial⟩)
abbrev Z0 : V := .tup [.int 0, .int 0, .int 0, .int 0]
abbrev O1 : V := .tup [.int 0, .int 1, .int 0, .int 1]
theorem c_negz : Cz w (k + 1) 91 [Z0] Z0 := in_mpf_neg_1 (r_negz ⟨rfl, rfl, trivial⟩)
theorem c_abs (hM : 0 < M) (hs : Sg s) : Cz w (k + 1) 99 [nm s M E] (nm 0 M E) := by
  refine in_mpf_abs_1 ?_
  rcases hs with rfl | rfl
  · exact r_abs_p ⟨od_ne hM, rfl, rfl, trivial⟩
  · exact r_abs_m ⟨od_ne hM, rfl, rfl, trivial⟩

theorem c_add_yz (hM : 0 < M) (hs : Sg s) (hp : 1 ≤ prec) (hr : Way rnd) (hb : ib M ≤ 1000) : Cz w (k + 4) 114 [nm s M E, Z0, .int prec, .str rnd] (nr rnd prec s M E) :=
  in_mpf_add_4 (r_add_sz (z := .none) ⟨od_ne hM, rfl, rfl, od_ne hM, rfl, od_ne hM, precT (by omega), c_norm_od hM hs hp hr hb, trivial⟩)
theorem c_sub_yz (hM : 0 < M) (hs : Sg s) (hp : 1 ≤ prec) (hr : Way rnd) (hb : ib M ≤ 1000) : Cz w (k + 5) 122 [nm s M E, Z0, .int prec, .str rnd] (nr rnd prec s M E) :=
  in_mpf_sub_4 (r_sub ⟨in_mpf_add_5 (r_add_sz1 ⟨od_ne hM, rfl, rfl, c_negz, od_ne hM, rfl, od_ne hM, precT (by omega), c_norm_od hM hs hp hr hb, trivial⟩), trivial⟩)
theorem c_add_zy (hM : 0 < M) (hs : Sg s) (hp : 1 ≤ prec) (hr : Way rnd) (hb : ib M ≤ 1000) : Cz w (k + 4) 114 [Z0, nm s M E, .int prec, .str rnd] (nr rnd prec s M E) :=
  in_mpf_add_4 (r_add_zs (z := .none) ⟨rfl, rfl, rfl, rfl, od_ne hM, precT (by omega), by
    rw [(sub_xor hs (.inl rfl)).2.1 rfl]
    exact c_norm_od hM hs hp hr hb, trivial⟩)
theorem c_sub_zy (hM : 0 < M) (hs : Sg s) (hp : 1 ≤ prec) (hr : Way rnd) (hb : ib M ≤ 1000) : Cz w (k + 5) 122 [Z0, nm (1 - s) M E, .int prec, .str rnd] (nr rnd prec s M E) :=
  in_mpf_sub_4 (r_sub ⟨in_mpf_add_5 (r_add_zs1 ⟨rfl, rfl, c_neg0 hM, rfl, rfl, od_ne hM, precT (by omega), by
    rw [(sub_xor (sg_flip hs) (.inr rfl)).2.2 rfl]
    have : 1 - (1 - s) = s := by omega
    rw [this]
    exact c_norm_od hM hs hp hr hb, trivial⟩), trivial⟩)
theorem mulOk {a b : Int} (h1 : ib a ≤ 1000) (h2 : ib b ≤ 1000) : IntMulOk a b := IntMulOk.of_bits (Nat.le_trans h1 (by decide)) (Nat.le_trans h2 (by decide))
theorem c_mul_y1 (hM : 0 < M) (hs : Sg s) (hp : 1 ≤ prec) (hr : Way rnd) (hb : ib M ≤ 1000) : Cz w (k + 4) 138 [nm s M E, O1, .int prec, .str rnd] (nr rnd prec s M E) :=
  in_mpf_mul_4 (r_mul_p ⟨mulOk (by have := ib_od_le hM; omega) (by decide), by rw [Int.mul_one]; exact od_ne hM, precT (by omega), by
    rw [(sub_xor hs (.inl rfl)).2.1 rfl, Int.mul_one, Int.add_zero]
    exact c_norm_od hM hs hp hr hb, trivial⟩)
theorem c_div_y1 (hM : 0 < M) (hs : Sg s) (hp : 1 ≤ prec) (hr : Way rnd) (hb : ib M ≤ 1000) : Cz w (k + 4) 168 [nm s M E, O1, .int prec, .str rnd] (nr rnd prec s M E) :=
  in_mpf_div_4 (r_div ⟨od_ne hM, rfl, rfl, by
    rw [(sub_xor hs (.inl rfl)).2.1 rfl, Int.sub_zero]
    exact c_norm_od hM hs hp hr hb, trivial⟩)
theorem c_muli (hM : 0 < M) (hs : Sg s) (hp : 1 ≤ prec) (hr : Way rnd) (hb : ib M ≤ 1000) : Cz w (k + 4) 146 [nm s M E, .int 1, .int prec, .str rnd] (nr rnd prec s M E) := by
  have e1 : Builtin.Int.intBits 1 = 1 := ib_one
  have e : ((ib (od M) : Nat) : Int) + (((Builtin.Int.intBits 1 : Nat) : Int) - 1) = ib (od M) := by rw [e1]; omega
  refine in_mpf_mul_int_4 (r_muli ⟨od_ne hM, rfl, rfl, mulOk (by have := ib_od_le hM; omega) (by decide), by rw [e]; omega, ?_, trivial⟩)
  have p := (od_tz hM).2.2
  have z : Int.fdiv (od M * 1) (2 ^ Int.toNat (((ib (od M) : Nat) : Int) + (((Builtin.Int.intBits 1 : Nat) : Int) - 1))) = 0 := by
    rw [e, Int.mul_one, Int.toNat_natCast, fdiv_p2]
    exact Int.ediv_eq_zero_of_lt (by omega) (ib_hi p)
  rw [z, e, Int.mul_one, Int.add_zero]
  exact c_norm_od hM hs hp hr hb
theorem c_powi (hM : 0 < M) (hs : Sg s) (hp : 1 ≤ prec) (hr : Way rnd) (hb : ib M ≤ 1000) : Cz w (k + 5) 177 [nm s M E, .int 1, .int prec, .str rnd] (nr rnd prec s M E) :=
  in_mpf_pow_int_4 (r_powi ⟨od_ne hM, rfl, rfl, c_pos hM hs hp hr hb, trivial⟩)
theorem c_shift {n : Int} (hM : 0 < M) : Cz w (k + 1) 153 [nm s M E, .int n] (nm s M (E + n)) := by
  have := in_mpf_shift_2 (r_shift (w := w) (k := k) (ss := s) (so := od M) (sx := E + tz M) (sb := ib (od M)) (n := n) ⟨od_ne hM, trivial⟩)
  have e : E + (tz M : Int) + n = E + n + tz M := by omega
  rw [e] at this
  exact this
theorem c_frexp (hM : 0 < M) : Cz w (k + 2) 160 [nm s M E] (.tup [nm s M (-(ib M : Int)), .int (ib M + E)]) := by
  have h := ib_od hM
  have := in_mpf_frexp_1 (r_frexp (w := w) (k := k + 1) (ss := s) (so := od M) (sx := E + tz M) (sb := ib (od M)) ⟨od_ne hM, c_shift hM, trivial⟩)
  have e1 : E + (-((ib (od M) : Nat) : Int) - (E + (tz M : Int))) = -(ib M : Int) := by omega
  have e2 : ((ib (od M) : Nat) : Int) + (E + (tz M : Int)) = ib M + E := by omega
  rw [e1, e2] at this
  exact this
theorem odd_mul {a b : Int} (ha : a % 2 = 1) (hb : b % 2 = 1) : a * b % 2 = 1 := by rw [Int.mul_emod, ha, hb]; rfl
theorem c_mul0 {s2 M2 E2 : Int} (hM : 0 < M) (hM2 : 0 < M2) (hs : Sg s) (hs2 : Sg s2) (hb : ib M ≤ 1000) (hb2 : ib M2 ≤ 1000) : Cz w (k + 1) 138 [nm s M E, nm s2 M2 E2] (nm (Builtin.bitXor s s2) (M * M2) (E + E2)) := by
  obtain ⟨a1, o1, p1⟩ := od_tz hM
  obtain ⟨a2, o2, p2⟩ := od_tz hM2
  have e : M * M2 = (od M * od M2) * 2 ^ (tz M + tz M2) := by
    conv => lhs; rw [a1, a2]
    rw [p2add, Int.mul_assoc, Int.mul_assoc]
    congr 1
    rw [← Int.mul_assoc, Int.mul_comm (2 ^ tz M), Int.mul_assoc]
  have hp := Int.mul_pos p1 p2
  rw [nm_of e (odd_mul o1 o2) hp]
  have := in_mpf_mul_2 (r_mul_z (w := w) (k := k) (ss := s) (so := od M) (sx := E + tz M) (sb := ib (od M)) (ts := s2) (to := od M2) (tx := E2 + tz M2) (tb := ib (od M2)) (prec := 0) (rnd := Str.ofString "d") (r := .none)
    ⟨mulOk (by have := ib_od_le hM; omega) (by have := ib_od_le hM2; omega), bne0 (by omega), rfl, trivial⟩)
  have e2 : E + (tz M : Int) + (E2 + (tz M2 : Int)) = E + E2 + ((tz M + tz M2 : Nat) : Int) := by omega
  rw [e2] at this
  exact this
end
end Mine
end
section
set_option Elab.async false
set_option maxRecDepth 100000
set_option autoImplicit false
open PySem PySem.W PySem.Calls PyProof.Rows PySem.Spec
namespace Mine
variable {w : World} {k : Nat}

section
variable {s1 s2 M1 M2 E : Int} {prec : Nat} {rnd : Str}
/-- the sum on one grid -/
theorem c_add4 (hM1 : 0 < M1) (hM2 : 0 < M2) (b1 : ib M1 ≤ 64) (b2 : ib M2 ≤ 64) (hs1 : Sg s1) (hs2 : Sg s2) (hr : Way rnd) (hv : sv s1 M1 + sv s2 M2 ≠ 0) :
    Cz w (k + 4) 114 [nm s1 M1 E, nm s2 M2 E, .int prec, .str rnd] (ot prec rnd (sgv (sv s1 M1 + sv s2 M2)) (av (sv s1 M1 + sv s2 M2)) E) := by
  have e := (sub_xor hs2 (.inl rfl : Sg 0)).2.1 rfl
  have h := d_add (w := w) (k := k) (E := E) (prec := prec) (sub := 0) hM1 hM2 b1 b2 hs1 hs2 (.inl rfl) hr (by rw [e]; exact hv)
  rw [e] at h
  exact in_mpf_add_4 h
theorem c_add2 (hM1 : 0 < M1) (hM2 : 0 < M2) (b1 : ib M1 ≤ 64) (b2 : ib M2 ≤ 64) (hs1 : Sg s1) (hs2 : Sg s2) (hv : sv s1 M1 + sv s2 M2 ≠ 0) :
    Cz w (k + 4) 114 [nm s1 M1 E, nm s2 M2 E] (nm (sgv (sv s1 M1 + sv s2 M2)) (av (sv s1 M1 + sv s2 M2)) E) := by
  have e := (sub_xor hs2 (.inl rfl : Sg 0)).2.1 rfl
  have h := d_add (w := w) (k := k) (E := E) (prec := 0) (sub := 0) (rnd := Str.ofString "d") hM1 hM2 b1 b2 hs1 hs2 (.inl rfl) (.inr (.inr (.inr (.inr rfl)))) (by rw [e]; exact hv)
  rw [e] at h
  exact in_mpf_add_2 h
theorem c_sub4 (hM1 : 0 < M1) (hM2 : 0 < M2) (b1 : ib M1 ≤ 64) (b2 : ib M2 ≤ 64) (hs1 : Sg s1) (hs2 : Sg s2) (hr : Way rnd) (hv : sv s1 M1 + sv (1 - s2) M2 ≠ 0) :
    Cz w (k + 5) 122 [nm s1 M1 E, nm s2 M2 E, .int prec, .str rnd] (ot prec rnd (sgv (sv s1 M1 + sv (1 - s2) M2)) (av (sv s1 M1 + sv (1 - s2) M2)) E) := by
  have e := (sub_xor hs2 (.inr rfl : Sg 1)).2.2 rfl
  have h := d_add (w := w) (k := k) (E := E) (prec := prec) (sub := 1) hM1 hM2 b1 b2 hs1 hs2 (.inr rfl) hr (by rw [e]; exact hv)
  rw [e] at h
  exact in_mpf_sub_4 (r_sub ⟨in_mpf_add_5 h, trivial⟩)
theorem c_sub2 (hM1 : 0 < M1) (hM2 : 0 < M2) (b1 : ib M1 ≤ 64) (b2 : ib M2 ≤ 64) (hs1 : Sg s1) (hs2 : Sg s2) (hv : sv s1 M1 + sv (1 - s2) M2 ≠ 0) :
    Cz w (k + 5) 122 [nm s1 M1 E, nm s2 M2 E] (nm (sgv (sv s1 M1 + sv (1 - s2) M2)) (av (sv s1 M1 + sv (1 - s2) M2)) E) := by
  have e := (sub_xor hs2 (.inr rfl : Sg 1)).2.2 rfl
  have h := d_add (w := w) (k := k) (E := E) (prec := 0) (sub := 1) (rnd := Str.ofString "d") hM1 hM2 b1 b2 hs1 hs2 (.inr rfl) (.inr (.inr (.inr (.inr rfl)))) (by rw [e]; exact hv)
  rw [e] at h
  exact in_mpf_sub_2 (r_sub (prec := 0) (rnd := Str.ofString "d") ⟨in_mpf_add_5 h, trivial⟩)
end

section
variable {s M1 M2 E : Int}
def cmpI (s a b : Int) : Int := if a = b then 0 else if a < b then (if s = 1 then 1 else -1) else (if s = 1 then -1 else 1)
theorem p2_cmp {x y : Int} (j : Nat) : (x * 2 ^ j = y * 2 ^ j ↔ x = y) ∧ (y * 2 ^ j < x * 2 ^ j ↔ y < x) := by
  have hp := p2pos j
  exact ⟨Int.mul_eq_mul_right_iff (by omega), ⟨fun q => Int.lt_of_mul_lt_mul_right q (by omega), fun q => Int.mul_lt_mul_of_pos_right q hp⟩⟩
theorem od_cmp {a b : Int} (ha : 0 < a) (hb : 0 < b) (h : tz a = tz b) : (od a = od b ↔ a = b) ∧ (od b < od a ↔ b < a) := by
  have e1 := (od_tz ha).1
  have e2 := (od_tz hb).1
  rw [h] at e1
  have q := p2_cmp (x := od a) (y := od b) (tz b)
  rw [← e1, ← e2] at q
  exact ⟨q.1.symm, q.2.symm⟩
theorem nr_form {rnd : Str} {p : Nat} {sg M E : Int} : ∃ o x b, nr rnd p sg M E = mp sg o x b := by
  unfold nr nm
  split <;> exact ⟨_, _, _, rfl⟩
theorem bneS : (s != s) = false := by simp
theorem c_cmp (h1 : 0 < M1) (h2 : 0 < M2) (b1 : ib M1 ≤ 64) (b2 : ib M2 ≤ 64) (hs : Sg s) : Cz w (k + 6) 68 [nm s M1 E, nm s M2 E] (.int (cmpI s M1 M2)) := by
  have a1 := od_ne h1
  have a2 := od_ne h2
  have i1 := ib_od h1
  have i2 := ib_od h2
  refine in_mpf_cmp_2 ?_
  by_cases hx : tz M1 = tz M2
  · obtain ⟨q1, q2⟩ := od_cmp h1 h2 hx
    have hx' : (E + (tz M1 : Int) == E + (tz M2 : Int)) = true := by rw [hx]; simp
    by_cases he : M1 = M2
    · have e : cmpI s M1 M2 = 0 := if_pos he
      rw [e]
      exact r_cmp_eq (r := .none) ⟨a1, a2, bneS, hx', by rw [q1.mpr he]; simp, trivial⟩
    · have he' : (od M1 == od M2) = false := by rw [beq_eq_false_iff_ne]; exact fun q => he (q1.mp q)
      by_cases hl : M2 < M1
      · have hl' : decide (od M2 < od M1) = true := decide_eq_true (q2.mpr hl)
        rcases hs with rfl | rfl
        · have e : cmpI 0 M1 M2 = 1 := by unfold cmpI; rw [if_neg he, if_neg (by omega)]; rfl
          rw [e]
          exact r_cmp_egp (r := .none) ⟨a1, a2, rfl, hx', he', hl', rfl, trivial⟩
        · have e : cmpI 1 M1 M2 = -1 := by unfold cmpI; rw [if_neg he, if_neg (by omega)]; rfl
          rw [e]
          exact r_cmp_egm (r := .none) ⟨a1, a2, rfl, hx', he', hl', rfl, trivial⟩
      · have hl' : decide (od M2 < od M1) = false := decide_eq_false (fun q => hl (q2.mp q))
        rcases hs with rfl | rfl
        · have e : cmpI 0 M1 M2 = -1 := by unfold cmpI; rw [if_neg he, if_pos (by omega)]; rfl
          rw [e]
          exact r_cmp_elp (r := .none) ⟨a1, a2, rfl, hx', he', hl', rfl, trivial⟩
        · have e : cmpI 1 M1 M2 = 1 := by unfold cmpI; rw [if_neg he, if_pos (by omega)]; rfl
          rw [e]
          exact r_cmp_elm (r := .none) ⟨a1, a2, rfl, hx', he', hl', rfl, trivial⟩
  · have hx' : (E + (tz M1 : Int) == E + (tz M2 : Int)) = false := by rw [beq_eq_false_iff_ne]; omega
    have he : M1 ≠ M2 := fun q => hx (by rw [q])
    by_cases hl : ib M1 < ib M2
    · have hlt : M1 < M2 := by
        apply Int.not_le.mp
        intro q
        have := ib_mono (by omega) q
        omega
      have hl' : decide (((ib (od M1) : Nat) : Int) + (E + (tz M1 : Int)) < ((ib (od M2) : Nat) : Int) + (E + (tz M2 : Int))) = true := decide_eq_true (by omega)
      rcases hs with rfl | rfl
      · have e : cmpI 0 M1 M2 = -1 := by unfold cmpI; rw [if_neg he, if_pos (by omega)]; rfl
        rw [e]
        exact r_cmp_ltp (r := .none) ⟨a1, a2, rfl, hx', rfl, hl', trivial⟩
      · have e : cmpI 1 M1 M2 = 1 := by unfold cmpI; rw [if_neg he, if_pos (by omega)]; rfl
        rw [e]
        exact r_cmp_ltm (r := .none) ⟨a1, a2, rfl, hx', rfl, hl', trivial⟩
    · have hl' : decide (((ib (od M1) : Nat) : Int) + (E + (tz M1 : Int)) < ((ib (od M2) : Nat) : Int) + (E + (tz M2 : Int))) = false := decide_eq_false (by omega)
      by_cases hg : ib M2 < ib M1
      · have hlt : M2 < M1 := by
          apply Int.not_le.mp
          intro q
          have := ib_mono (by omega) q
          omega
        have hg' : decide (((ib (od M2) : Nat) : Int) + (E + (tz M2 : Int)) < ((ib (od M1) : Nat) : Int) + (E + (tz M1 : Int))) = true := decide_eq_true (by omega)
        rcases hs with rfl | rfl
        · have e : cmpI 0 M1 M2 = 1 := by unfold cmpI; rw [if_neg he, if_neg (by omega)]; rfl
          rw [e]
          exact r_cmp_gtp (r := .none) ⟨a1, a2, rfl, hx', rfl, hl', hg', trivial⟩
        · have e : cmpI 1 M1 M2 = -1 := by unfold cmpI; rw [if_neg he, if_neg (by omega)]; rfl
          rw [e]
          exact r_cmp_gtm (r := .none) ⟨a1, a2, rfl, hx', rfl, hl', hg', trivial⟩
      · have hg' : decide (((ib (od M2) : Nat) : Int) + (E + (tz M2 : Int)) < ((ib (od M1) : Nat) : Int) + (E + (tz M1 : Int))) = false := decide_eq_false (by omega)
        have hv : sv s M1 + sv (1 - s) M2 ≠ 0 := by unfold sv; rcases hs with rfl | rfl <;> simp <;> omega
        have hd := c_sub4 (w := w) (k := k) (E := E) (prec := 5) (rnd := Str.ofString "f") h1 h2 b1 b2 hs hs (.inr (.inl rfl)) hv
        have e5 : ot 5 (Str.ofString "f") (sgv (sv s M1 + sv (1 - s) M2)) (av (sv s M1 + sv (1 - s) M2)) E = nr (Str.ofString "f") 5 (sgv (sv s M1 + sv (1 - s) M2)) (av (sv s M1 + sv (1 - s) M2)) E := if_neg (by decide)
        rw [e5] at hd
        obtain ⟨o, x, b, e6⟩ := nr_form (rnd := Str.ofString "f") (p := 5) (sg := sgv (sv s M1 + sv (1 - s) M2)) (M := av (sv s M1 + sv (1 - s) M2)) (E := E)
        rw [e6] at hd
        rcases hs with rfl | rfl
        · by_cases hlt : M1 < M2
          · have e : cmpI 0 M1 M2 = -1 := by unfold cmpI; rw [if_neg he, if_pos (by omega)]; rfl
            rw [e]
            have es : sgv (sv 0 M1 + sv (1 - 0) M2) = 1 := if_pos (by simp [sv]; omega)
            rw [es] at hd
            exact r_cmp_dpn (r := .none) ⟨a1, a2, rfl, hx', rfl, hl', hg', hd, rfl, trivial⟩
          · have e : cmpI 0 M1 M2 = 1 := by unfold cmpI; rw [if_neg he, if_neg (by omega)]; rfl
            rw [e]
            have es : sgv (sv 0 M1 + sv (1 - 0) M2) = 0 := if_neg (by simp [sv]; omega)
            rw [es] at hd
            exact r_cmp_dpq (r := .none) ⟨a1, a2, rfl, hx', rfl, hl', hg', hd, rfl, trivial⟩
        · by_cases hlt : M1 < M2
          · have e : cmpI 1 M1 M2 = 1 := by unfold cmpI; rw [if_neg he, if_pos (by omega)]; rfl
            rw [e]
            have es : sgv (sv 1 M1 + sv (1 - 1) M2) = 0 := if_neg (by simp [sv]; omega)
            rw [es] at hd
            exact r_cmp_dmq (r := .none) ⟨a1, a2, rfl, hx', rfl, hl', hg', hd, rfl, trivial⟩
          · have e : cmpI 1 M1 M2 = -1 := by unfold cmpI; rw [if_neg he, if_neg (by omega)]; rfl
            rw [e]
            have es : sgv (sv 1 M1 + sv (1 - 1) M2) = 1 := if_pos (by simp [sv]; omega)
            rw [es] at hd
            exact r_cmp_dmn (r := .none) ⟨a1, a2, rfl, hx', rfl, hl', hg', hd, rfl, trivial⟩
theorem same_nan {o x b : Int} (h : 0 < o) : same (.tup [.int s, .int o, .int x, .int b]) (.tup [.int 0, .int 0, .int (-123), .int (-1)]) = false := by
  have : (o == 0) = false := by rw [beq_eq_false_iff_ne]; omega
  simp [same]; omega
theorem c_lt (h1 : 0 < M1) (h2 : 0 < M2) (b1 : ib M1 ≤ 64) (b2 : ib M2 ≤ 64) (hs : Sg s) : Cz w (k + 7) 75 [nm s M1 E, nm s M2 E] (.bool (decide (cmpI s M1 M2 < 0))) :=
  in_mpf_lt_2 (r_lt ⟨same_nan (od_tz h1).2.2, same_nan (od_tz h2).2.2, c_cmp h1 h2 b1 b2 hs, trivial⟩)
end
end Mine
end
section
set_option Elab.async false
set_option maxRecDepth 100000
set_option autoImplicit false
open PySem PySem.W PySem.Calls PyProof.Rows PySem.Spec
namespace Mine
variable {w : World} {k : Nat}

/-- the number of that rank -/
noncomputable def rM (p : Nat) (r : Int) : Int := 2 ^ (p - 1) + r % 2 ^ (p - 1)
noncomputable def rE (p : Nat) (r : Int) : Int := r / 2 ^ (p - 1)
noncomputable def rg (s : Int) (p : Nat) (r : Int) : V := nm s (rM p r) (rE p r)
theorem rM_lo (p : Nat) (r : Int) : (2 : Int) ^ (p - 1) ≤ rM p r := by
  have := Int.emod_nonneg r (Int.ne_of_gt (p2pos (p - 1)))
  unfold rM
  omega
theorem rM_pos (p : Nat) (r : Int) : 0 < rM p r := by
  have := rM_lo p r
  have := p2pos (p - 1)
  omega
theorem rM_hi {p : Nat} (hp : 1 ≤ p) (r : Int) : rM p r < 2 ^ p := by
  have := Int.emod_lt_of_pos r (p2pos (p - 1))
  have e : (2 : Int) ^ p = 2 * 2 ^ (p - 1) := by
    conv => lhs; rw [show p = p - 1 + 1 by omega]
    exact p2succ _
  unfold rM
  omega
theorem rM_ib {p : Nat} (hp : 1 ≤ p) (r : Int) : ib (rM p r) = p := by
  have h := ib_eq (n := p - 1) (rM_lo p r) (by rw [show p - 1 + 1 = p by omega]; exact rM_hi hp r)
  omega
theorem rg_of {s : Int} {p : Nat} {r M E : Int} (h0 : 0 ≤ M - 2 ^ (p - 1)) (h1 : M < 2 * 2 ^ (p - 1)) (h : r = E * 2 ^ (p - 1) + (M - 2 ^ (p - 1))) : rg s p r = nm s M E := by
  have hp := p2pos (p - 1)
  have e1 : r / 2 ^ (p - 1) = E := by
    rw [h, Int.add_comm, Int.add_mul_ediv_right _ _ (by omega), Int.ediv_eq_zero_of_lt h0 (by omega)]
    omega
  have e2 : r % 2 ^ (p - 1) = M - 2 ^ (p - 1) := by
    rw [h, Int.add_comm, Int.add_mul_emod_self_right, Int.emod_eq_of_lt h0 (by omega)]
  unfold rg rM rE
  rw [e1, e2]
  congr 1
  omega
theorem rk_eq (p : Nat) (r : Int) : r = rE p r * 2 ^ (p - 1) + (rM p r - 2 ^ (p - 1)) := by
  have := Int.mul_ediv_add_emod r (2 ^ (p - 1))
  unfold rE rM
  rw [Int.mul_comm (r / _)]
  omega
theorem p2_pred {p : Nat} (hp : 1 ≤ p) : (2 : Int) ^ p = 2 * 2 ^ (p - 1) := by
  conv => lhs; rw [show p = p - 1 + 1 by omega]
  exact p2succ _
theorem rg_succ {s : Int} {p : Nat} (hp : 1 ≤ p) (r : Int) : nm s (rM p r + 1) (rE p r) = rg s p (r + 1) := by
  have e := rk_eq p r
  have l := rM_lo p r
  have u := rM_hi hp r
  have hs := p2pos (p - 1)
  rw [p2_pred hp] at u
  by_cases h : rM p r + 1 < 2 * 2 ^ (p - 1)
  · exact (rg_of (by omega) h (by omega)).symm
  · have e2 : rM p r + 1 = 2 ^ (p - 1) * 2 ^ 1 := by
      have : (2 : Int) ^ 1 = 2 := by decide
      omega
    rw [e2, nm_mul hs]
    refine (rg_of (by omega) (by omega) ?_).symm
    have : (rE p r + ((1 : Nat) : Int)) * 2 ^ (p - 1) = rE p r * 2 ^ (p - 1) + 2 ^ (p - 1) := by rw [Int.add_mul]; simp
    rw [this]
    have : (2 : Int) ^ 1 = 2 := by decide
    omega
theorem rg_pred {s : Int} {p : Nat} (hp : 1 ≤ p) (r : Int) (h : 2 ^ (p - 1) < rM p r) : nm s (rM p r - 1) (rE p r) = rg s p (r - 1) := by
  have e := rk_eq p r
  have u := rM_hi hp r
  rw [p2_pred hp] at u
  exact (rg_of (by omega) (by omega) (by omega)).symm
theorem rg_drop {s : Int} {p : Nat} (hp : 1 ≤ p) (r : Int) (h : rM p r = 2 ^ (p - 1)) : nm s (2 * 2 ^ (p - 1) - 1) (rE p r - 1) = rg s p (r - 1) := by
  have e := rk_eq p r
  have hs := p2pos (p - 1)
  refine (rg_of (by omega) (by omega) ?_).symm
  rw [Int.sub_mul]
  omega

theorem c_outw {s : Int} {rnd : Str} (hs : Sg s) (hr : Way rnd) (hn : rnd ≠ "n") : Cz w (k + 1) 198 [.int s, .str rnd] (.bool (outw rnd s)) := by
  refine in_law_outward_2 ?_
  rcases hr with rfl | rfl | rfl | rfl | rfl
  · exact absurd rfl hn
  all_goals rcases hs with rfl | rfl
  · exact r_outw_f0 ⟨rfl, rfl, rfl, rfl, trivial⟩
  · exact r_outw_f1 ⟨rfl, rfl, rfl, trivial⟩
  · exact r_outw_c0 ⟨rfl, rfl, rfl, rfl, trivial⟩
  · exact r_outw_c1 ⟨rfl, rfl, rfl, rfl, trivial⟩
  · exact r_outw_u0 ⟨rfl, trivial⟩
  · exact r_outw_u1 ⟨rfl, trivial⟩
  · exact r_outw_d0 ⟨rfl, rfl, rfl, rfl, trivial⟩
  · exact r_outw_d1 ⟨rfl, rfl, rfl, rfl, trivial⟩

def stepI (s eps : Int) (way : Str) : Int := if way = "n" then 0 else if eps = s then (if outw way s = true then 1 else 0) else (if outw way s = true then 0 else -1)
theorem c_step {s eps : Int} {way : Str} (hs : Sg s) (hr : Way way) : Cz w (k + 2) 205 [.int s, .int eps, .str way] (.int (stepI s eps way)) := by
  refine in_law_step_3 ?_
  by_cases hn : way = "n"
  · have e : stepI s eps way = 0 := if_pos hn
    rw [e]
    exact r_step_n ⟨by rw [hn]; rfl, trivial⟩
  · have hn' : (way == "n") = false := by rw [beq_eq_false_iff_ne]; exact hn
    have hc := c_outw (w := w) (k := k) hs hr hn
    unfold stepI
    rw [if_neg hn]
    by_cases he : eps = s
    · have he' : (eps == s) = true := by rw [he]; simp
      rw [if_pos he]
      by_cases ho : outw way s = true
      · rw [if_pos ho]
        exact r_step_et ⟨hn', he', hc, ho, trivial⟩
      · rw [if_neg ho]
        exact r_step_ef ⟨hn', he', hc, Bool.eq_false_iff.mpr ho, trivial⟩
    · have he' : (eps == s) = false := by rw [beq_eq_false_iff_ne]; exact he
      rw [if_neg he]
      by_cases ho : outw way s = true
      · rw [if_pos ho]
        exact r_step_dt ⟨hn', he', hc, ho, trivial⟩
      · rw [if_neg ho]
        exact r_step_df ⟨hn', he', hc, Bool.eq_false_iff.mpr ho, trivial⟩

theorem nr_fit {rnd : Str} {p : Nat} {sg M E : Int} (h : ib M ≤ p) : nr rnd p sg M E = nm sg M E := if_pos h
theorem nr_one {rnd : Str} {p : Nat} {sg M E : Int} (h : ib M = p + 1) : nr rnd p sg M E = nm sg (rq rnd sg M 1) (E + 1) := by
  unfold nr
  rw [if_neg (by omega), h]
  have : p + 1 - p = 1 := by omega
  rw [this]
  rfl
theorem rq_up {rnd : Str} {s M : Int} (hn : rnd ≠ "n") (h : outw rnd s = true) : rq rnd s (2 * M + 1) 1 = M + 1 := by
  unfold rq
  rw [if_neg hn, if_pos h]
  have : (2 : Int) ^ 1 = 2 := by decide
  rw [this]
  omega
theorem rq_dn {rnd : Str} {s M : Int} (hn : rnd ≠ "n") (h : ¬ outw rnd s = true) : rq rnd s (2 * M - 1) 1 = M - 1 := by
  unfold rq
  rw [if_neg hn, if_neg h]
  have : (2 : Int) ^ 1 = 2 := by decide
  rw [this]
  omega

/-- the sum with the small number -/
theorem pert_add {s eps : Int} {p : Nat} {r : Int} {rnd : Str} (hs : Sg s) (he : Sg eps) (hp : 1 ≤ p) (hp2 : p ≤ 20) (hr : Way rnd) (hn : rnd ≠ "n") (ha : (eps = s) = (outw rnd s = true)) :
    Cz w (k + 4) 114 [rg s p r, nm eps 1 (rE p r - 1), .int p, .str rnd] (rg s p (r + stepI s eps rnd)) := by
  have hM := rM_pos p r
  have hb := rM_ib hp r
  have hb2 : ib (rM p r * 2 ^ 1) = p + 1 := by rw [ib_mul hM, hb]
  have e21 : (2 : Int) ^ 1 = 2 := by decide
  have ex : rg s p r = nm s (rM p r * 2 ^ 1) (rE p r - 1) := by
    rw [nm_mul hM]
    unfold rg
    congr 1
    omega
  have hv : sv s (rM p r * 2 ^ 1) + sv eps 1 ≠ 0 := by
    unfold sv
    rw [e21]
    split <;> split <;> omega
  have i1 : ib 1 = 1 := ib_one
  have h := c_add4 (w := w) (k := k) (s1 := s) (s2 := eps) (M1 := rM p r * 2 ^ 1) (M2 := 1) (E := rE p r - 1) (prec := p) (rnd := rnd) (by rw [e21]; omega) (by decide) (by omega) (by omega) hs he hr hv
  rw [← ex] at h
  have eo : ∀ a b c, ot p rnd a b c = nr rnd p a b c := fun a b c => if_neg (by omega)
  rw [eo, e21] at h
  by_cases hes : eps = s
  · have ho : outw rnd s = true := by rw [← ha]; exact hes
    have eS : stepI s eps rnd = 1 := by unfold stepI; rw [if_neg hn, if_pos hes, if_pos ho]
    have e1 : sgv (sv s (rM p r * 2) + sv eps 1) = s := by
      unfold sgv sv
      rw [hes]
      rcases hs with rfl | rfl <;> simp <;> omega
    have e2 : av (sv s (rM p r * 2) + sv eps 1) = 2 * rM p r + 1 := by
      unfold av sv
      rw [hes]
      rcases hs with rfl | rfl <;> simp <;> omega
    have hib : ib (2 * rM p r + 1) = p + 1 := by
      have l := rM_lo p r
      have u := rM_hi hp r
      exact ib_eq (n := p) (by rw [p2_pred hp]; omega) (by rw [p2succ]; omega)
    rw [e1, e2, nr_one hib, rq_up hn ho] at h
    rw [eS, ← rg_succ hp]
    have : rE p r - 1 + 1 = rE p r := by omega
    rw [this] at h
    exact h
  · have ho : ¬ outw rnd s = true := by rw [← ha]; exact hes
    have eS : stepI s eps rnd = -1 := by unfold stepI; rw [if_neg hn, if_neg hes, if_neg ho]
    have e1 : sgv (sv s (rM p r * 2) + sv eps 1) = s := by
      unfold sgv sv
      rcases hs with rfl | rfl <;> rcases he with rfl | rfl <;> first | exact absurd rfl hes | (simp; omega)
    have e2 : av (sv s (rM p r * 2) + sv eps 1) = 2 * rM p r - 1 := by
      unfold av sv
      rcases hs with rfl | rfl <;> rcases he with rfl | rfl <;> first | exact absurd rfl hes | (simp; omega)
    rw [e1, e2] at h
    have e3 : r + -1 = r - 1 := by omega
    rw [eS, e3]
    have l := rM_lo p r
    have u := rM_hi hp r
    by_cases hL : rM p r = 2 ^ (p - 1)
    · rw [← rg_drop hp r hL]
      have hle : ib (2 * 2 ^ (p - 1) - 1) ≤ p := by
        have := p2pos (p - 1)
        exact (ib_le (by omega)).mpr (by rw [p2_pred hp]; omega)
      rw [hL, nr_fit hle] at h
      exact h
    · have hib : ib (2 * rM p r - 1) = p + 1 := ib_eq (n := p) (by rw [p2_pred hp]; omega) (by rw [p2succ]; omega)
      rw [nr_one hib, rq_dn hn ho] at h
      rw [← rg_pred hp r (by omega)]
      have : rE p r - 1 + 1 = rE p r := by omega
      rw [this] at h
      exact h

theorem c_pert {s eps : Int} {p : Nat} {r : Int} {rnd : Str} (hs : Sg s) (he : Sg eps) (hp : 1 ≤ p) (hp2 : p ≤ 20) (hr : Way rnd) :
    Cz w (k + 5) 184 [rg s p r, .int eps, .int p, .str rnd] (rg s p (r + stepI s eps rnd)) := by
  have hM := rM_pos p r
  have hb := rM_ib hp r
  have hib := ib_od hM
  have hP : Cz w (k + 4) 83 [rg s p r, .int p, .str rnd] (rg s p r) := by
    have := c_pos (w := w) (k := k) (s := s) (E := rE p r) (prec := p) hM hs hp hr (by omega)
    rw [nr_fit (by omega)] at this
    exact this
  have ee : nm eps 1 (rE p r - 1) = .tup [.int eps, .int 1, .int (rE p r + (tz (rM p r) : Int) + (ib (od (rM p r)) : Int) - p - 1), .int 1] := by
    rw [nm_odd (by decide) (by decide)]
    have e1 : ib 1 = 1 := ib_one
    have e2 : rE p r + (tz (rM p r) : Int) + (ib (od (rM p r)) : Int) - p - 1 = rE p r - 1 := by omega
    rw [e2, e1]
    rfl
  have hA := fun hn ha => pert_add (w := w) (k := k) (r := r) hs he hp hp2 hr hn ha
  rw [ee] at hA
  refine in_mpf_perturb_4 ?_
  rcases hr with rfl | rfl | rfl | rfl | rfl
  · have : r + stepI s eps "n" = r := by unfold stepI; rw [if_pos rfl]; omega
    rw [this]
    exact r_pert_n ⟨rfl, hP, trivial⟩
  all_goals rcases hs with rfl | rfl <;> rcases he with rfl | rfl
  all_goals first
    | exact r_pert_pa ⟨rfl, rfl, rfl, hA (by decide) (propext (by decide)), trivial⟩
    | exact r_pert_ma ⟨rfl, rfl, rfl, hA (by decide) (propext (by decide)), trivial⟩
    | (refine cast (congrArg (fun x => Dz w (k + 4) 184 _ (bdy w 184) (.ret (rg _ p x))) (Int.add_zero r).symm) ?_
       first
        | exact r_pert_pb ⟨rfl, rfl, rfl, hP, trivial⟩
        | exact r_pert_mb ⟨rfl, rfl, rfl, hP, trivial⟩)
end Mine
end
section
set_option Elab.async false
set_option maxRecDepth 100000
set_option autoImplicit false
open PySem PySem.W PySem.Calls PyProof.Rows PySem.Spec
namespace Mine

theorem runT {n : Nat} {w : World} {k : Nat} {a : Addr} {en : En} {e : Expr} (tk : List Tk) {b : Bool} {ps : List Prop} (h : testV (evE n (cx w k a) en) n tk e = some (b, [], ps)) (hp : All ps) : GivesT PG w (KK w) k (scp w a) en (fun env => isTrue e env (eval e env)) b :=
  testV_ok (fun tk e v tk' ps => evE_ok (tab_ok w) n en tk e v tk' ps) n tk e b [] ps h hp
theorem runE {n : Nat} {w : World} {k : Nat} {a : Addr} {en : En} {e : Expr} (tk : List Tk) {v : V} {ps : List Prop} (h : evE n (cx w k a) en tk e = some (v, [], ps)) (hp : All ps) : Gives PG w (KK w) k (scp w a) en (eval e) v :=
  evE_ok (tab_ok w) n en tk e v [] ps h hp
def whT : Stmt → Expr
  | .While t _ _ _ => t
  | _ => default
def whB : Stmt → List Stmt
  | .While _ b _ _ => b
  | _ => []
def whP : Stmt → Pos
  | .While _ _ _ p => p
  | _ => default

section
variable {prog : Program} {w : World} {K : Frag} {k : Nat} {sc : Scope}
theorem does_while {test : Expr} {body : List Stmt} {pos : Pos} (en : Nat → En) (n : Nat)
    (turn : ∀ i, i < n → GivesT prog w K k sc (en i) (fun env => isTrue test env (eval test env)) true ∧ Does prog w K k sc (en i) (execs body) (.next (en (i + 1))))
    (stop : GivesT prog w K k sc (en n) (fun env => isTrue test env (eval test env)) false) : Does prog w K k sc (en 0) (exec (.While test body [] pos)) (.next (en n)) := by
  intro A env h₀ m news s Q E a hsc F N R q
  refine wpAny_While ?_
  refine codeAny_whileLoop (fun j s' => j ≤ n ∧ ∃ h' tk' m' news', s' = { s with heap := h', toks := tk' } ∧ Fr h₀ env.locals h' m' ∧ News h₀ env.locals h' news' ∧ (∀ p ∈ news, p ∈ news') ∧ EnRep K news' m' (en (n - j))) ?_ n ?_
  · rintro j _ ⟨hj, h', tk', m', news', rfl, F', N', S', R'⟩
    by_cases h0 : j = 0
    · subst h0
      refine stop A env h₀ m' news' _ _ _ a hsc F' N' R' ?_
      intro h2 t2 n2 F2 N2 s2
      refine wpAny_execs_nil ?_
      exact q _ _ _ m' n2 F2 N2 (fun p hp => s2 p (S' p hp)) ⟨rfl, R'.mono s2⟩
    · obtain ⟨t1, t2⟩ := turn (n - j) (by omega)
      refine t1 A env h₀ m' news' _ _ _ a hsc F' N' R' ?_
      intro h2 tk2 n2 F2 N2 s2
      refine t2 A env h₀ m' n2 _ _ _ a hsc F2 N2 (R'.mono s2) ?_
      intro f h3 tk3 m3 n3 F3 N3 s3 r3
      obtain ⟨rfl, r3⟩ := r3
      refine ⟨j - 1, by omega, by omega, h3, tk3, m3, n3, rfl, F3, N3, fun p hp => s3 p (s2 p (S' p hp)), ?_⟩
      have : n - (j - 1) = n - j + 1 := by omega
      rw [this]
      exact r3
  · refine ⟨Nat.le_refl _, s.heap, s.toks, m, news, rfl, F, N, sub_refl, ?_⟩
    rw [Nat.sub_self]
    exact R
end

variable {w : World} {k : Nat}
/-- the statement of that index -/
noncomputable abbrev stm (w : World) (a : Addr) (n : Nat) : Stmt := ((bdy w a).drop n).headD default
theorem wh_rung : stm w 191 2 = .While (whT (stm w 191 2)) (whB (stm w 191 2)) [] (whP (stm w 191 2)) := by kernel_rfl!
theorem wh_t {s p r sp e m : Int} (h : All [(2 : Int) ≠ 0, (Int.fmod m 2 == 0) = true]) : GivesT PG w (KK w) k (scp w 191) [(Str.ofString "minus", V.int s), (Str.ofString "p", V.int p), (Str.ofString "rank", V.int r), (Str.ofString "span", V.int sp), (Str.ofString "e", V.int e), (Str.ofString "m", V.int m)] (fun env => isTrue (whT (stm w 191 2)) env (eval (whT (stm w 191 2)) env)) true :=
  runT (n := 60) [.t] (by kernel_rfl!) h
theorem wh_f {s p r sp e m : Int} (h : All [(2 : Int) ≠ 0, (Int.fmod m 2 == 0) = false]) : GivesT PG w (KK w) k (scp w 191) [(Str.ofString "minus", V.int s), (Str.ofString "p", V.int p), (Str.ofString "rank", V.int r), (Str.ofString "span", V.int sp), (Str.ofString "e", V.int e), (Str.ofString "m", V.int m)] (fun env => isTrue (whT (stm w 191 2)) env (eval (whT (stm w 191 2)) env)) false :=
  runT (n := 60) [.f] (by kernel_rfl!) h
theorem wh_b {s p r sp e m : Int} (h : All [DvOk 2]) : Dz w k 191 [(Str.ofString "minus", V.int s), (Str.ofString "p", V.int p), (Str.ofString "rank", V.int r), (Str.ofString "span", V.int sp), (Str.ofString "e", V.int e), (Str.ofString "m", V.int m)] (whB (stm w 191 2)) (.next [(Str.ofString "minus", V.int s), (Str.ofString "p", V.int p), (Str.ofString "rank", V.int r), (Str.ofString "span", V.int sp), (Str.ofString "e", V.int (e + 1)), (Str.ofString "m", V.int (Int.fdiv m 2))]) :=
  run [] (by kernel_rfl!) h
theorem c_rung {s r : Int} {p : Nat} (hp : 1 ≤ p) (hp2 : p ≤ 20) : Cz w (k + 1) 191 [.int r, .int p, .int s] (rg s p r) := by
  have hM := rM_pos p r
  obtain ⟨e1, e2, e3⟩ := od_tz hM
  have ep : (1 : Int) * 2 ^ Int.toNat ((p : Int) - 1) = 2 ^ (p - 1) := by
    have : Int.toNat ((p : Int) - 1) = p - 1 := by omega
    rw [this, Int.one_mul]
  have hpp := p2pos (p - 1)
  have hle : (2 : Int) ^ (p - 1) ≤ 2 ^ 19 := by
    have h2 : (19 : Nat) = (p - 1) + (20 - p) := by omega
    rw [h2, p2add]
    have h3 := p2pos (20 - p)
    have : (2 : Int) ^ (p - 1) * 1 ≤ 2 ^ (p - 1) * 2 ^ (20 - p) := Int.mul_le_mul_of_nonneg_left (by omega) (by omega)
    omega
  have e19 : (2 : Int) ^ 19 = 524288 := by decide
  refine in_law_rung_3 ?_
  refine r_rung (sp := 2 ^ (p - 1)) ⟨⟨by omega, ?_⟩, by rw [ep]; omega, by rw [ep]; exact ⟨by omega, by omega⟩, ?_, trivial⟩
  · have : Builtin.Int.intBits 1 = 1 := ib_one
    have e27 : (2 : Int) ^ 27 = 134217728 := by decide
    rw [this, e27]
    omega
  · rw [ep, Int.fdiv_eq_ediv_of_nonneg _ (by omega), Int.fmod_eq_emod_of_nonneg _ (by omega)]
    have W := does_while (prog := PG) (w := w) (K := KK w) (k := k) (sc := scp w 191) (test := whT (stm w 191 2)) (body := whB (stm w 191 2)) (pos := whP (stm w 191 2))
      (fun i => [(Str.ofString "minus", V.int s), (Str.ofString "p", V.int p), (Str.ofString "rank", V.int r), (Str.ofString "span", V.int (2 ^ (p - 1))), (Str.ofString "e", V.int (rE p r + i)), (Str.ofString "m", V.int (od (rM p r) * 2 ^ (tz (rM p r) - i)))]) (tz (rM p r)) (fun i hi => ?_) ?_
    · simp only [Nat.sub_zero, Nat.sub_self, Int.pow_zero, Int.mul_one, ← e1] at W
      have z : rE p r + ((0 : Nat) : Int) = rE p r := by omega
      rw [z, ← wh_rung] at W
      exact W
    · have h1 : od (rM p r) * 2 ^ (tz (rM p r) - i) = (od (rM p r) * 2 ^ (tz (rM p r) - (i + 1))) * 2 := by
        have : tz (rM p r) - i = tz (rM p r) - (i + 1) + 1 := by omega
        rw [this, p2succ, Int.mul_comm 2, ← Int.mul_assoc]
      constructor
      · refine wh_t ⟨by decide, ?_, trivial⟩
        rw [h1, Int.fmod_eq_emod_of_nonneg _ (by omega), Int.mul_emod_left]
        rfl
      · have h2 := wh_b (w := w) (k := k) (s := s) (p := p) (r := r) (sp := 2 ^ (p - 1)) (e := rE p r + i) (m := od (rM p r) * 2 ^ (tz (rM p r) - i)) ⟨⟨by decide, by decide⟩, trivial⟩
        have h3 : Int.fdiv (od (rM p r) * 2 ^ (tz (rM p r) - i)) 2 = od (rM p r) * 2 ^ (tz (rM p r) - (i + 1)) := by
          rw [h1, Int.fdiv_eq_ediv_of_nonneg _ (by omega), Int.mul_ediv_cancel _ (by decide)]
        have h4 : rE p r + (i : Int) + 1 = rE p r + ((i + 1 : Nat) : Int) := by omega
        rw [h3, h4] at h2
        exact h2
    · refine wh_f ⟨by decide, ?_, trivial⟩
      rw [Nat.sub_self, Int.pow_zero, Int.mul_one, Int.fmod_eq_emod_of_nonneg _ (by omega), e2]
      rfl
end Mine
end
section
set_option Elab.async false
set_option maxRecDepth 100000
set_option autoImplicit false
set_option linter.unusedVariables false
open PySem PySem.W PySem.Calls PyProof.Rows PySem.Spec
namespace Mine
def forB : Stmt → List Stmt
  | .For _ _ b _ _ => b
  | _ => []
def ifB : Stmt → List Stmt
  | .If _ b _ _ => b
  | _ => []
def ifT : Stmt → Expr
  | .If t _ _ _ => t
  | _ => default
@[irreducible] noncomputable def lawB (w : World) : List Stmt := forB (((bdy w 224).drop 11).headD default)
@[irreducible] noncomputable def undoB (w : World) : List Stmt := forB (((bdy w 224).drop 13).headD default)
@[irreducible] noncomputable def climbB (w : World) : List Stmt := forB (((bdy w 224).drop 18).headD default)
@[irreducible] noncomputable def lawS (w : World) (n : Nat) : Stmt := ((lawB w).drop n).headD default
theorem r_roads_p {w : World} {k : Nat} {ys yo yx yb p : Int} {way : Str} {r1 r2 r3 r4 n5 r5 r6 r7 r8 r9 n10 r10 r11 r12 : V} (h : All [Cz w k (nat_lit 83) [V.tup [V.int ys, V.int yo, V.int yx, V.int yb], V.int p, V.str way] r1, Cz w k (nat_lit 114) [V.tup [V.int ys, V.int yo, V.int yx, V.int yb], V.tup [V.int (0 : Int), V.int (0 : Int), V.int (0 : Int), V.int (0 : Int)], V.int p, V.str way] r2, Cz w k (nat_lit 114) [V.tup [V.int (0 : Int), V.int (0 : Int), V.int (0 : Int), V.int (0 : Int)], V.tup [V.int ys, V.int yo, V.int yx, V.int yb], V.int p, V.str way] r3, Cz w k (nat_lit 122) [V.tup [V.int ys, V.int yo, V.int yx, V.int yb], V.tup [V.int (0 : Int), V.int (0 : Int), V.int (0 : Int), V.int (0 : Int)], V.int p, V.str way] r4, Cz w k (nat_lit 91) [V.tup [V.int ys, V.int yo, V.int yx, V.int yb]] n5, Cz w k (nat_lit 122) [V.tup [V.int (0 : Int), V.int (0 : Int), V.int (0 : Int), V.int (0 : Int)], n5, V.int p, V.str way] r5, Cz w k (nat_lit 138) [V.tup [V.int ys, V.int yo, V.int yx, V.int yb], V.tup [V.int (0 : Int), V.int (1 : Int), V.int (0 : Int), V.int (1 : Int)], V.int p, V.str way] r6, Cz w k (nat_lit 168) [V.tup [V.int ys, V.int yo, V.int yx, V.int yb], V.tup [V.int (0 : Int), V.int (1 : Int), V.int (0 : Int), V.int (1 : Int)], V.int p, V.str way] r7, Cz w k (nat_lit 146) [V.tup [V.int ys, V.int yo, V.int yx, V.int yb], V.int (1 : Int), V.int p, V.str way] r8, Cz w k (nat_lit 130) [V.lst [V.tup [V.int ys, V.int yo, V.int yx, V.int yb]], V.int p, V.str way] r9, Cz w k (nat_lit 91) [V.tup [V.int ys, V.int yo, V.int yx, V.int yb]] n10, Cz w k (nat_lit 91) [n10, V.int p, V.str way] r10, (ys != (0 : Int)) = false, Cz w k (nat_lit 53) [V.int yo, V.int yx, V.int p, V.str way] r11, Cz w k (nat_lit 177) [V.tup [V.int ys, V.int yo, V.int yx, V.int yb], V.int (1 : Int), V.int p, V.str way] r12]) : Dz w k 219 [(Str.ofString "way", V.str way), (Str.ofString "p", V.int p), (Str.ofString "y", V.tup [V.int ys, V.int yo, V.int yx, V.int yb])] (bdy w 219) (Fl.ret (V.lst [r1, r2, r3, r4, r5, r6, r7, r8, r9, r10, r11, r12])) := run [Tk.r (r1), Tk.r (r2), Tk.r (r3), Tk.r (r4), Tk.r (n5), Tk.r (r5), Tk.r (r6), Tk.r (r7), Tk.r (r8), Tk.r (r9), Tk.r (n10), Tk.r (r10), Tk.f, Tk.r (r11), Tk.r (r12)] (by kernel_rfl!) h
theorem r_roads_m {w : World} {k : Nat} {ys yo yx yb p : Int} {way : Str} {r1 r2 r3 r4 n5 r5 r6 r7 r8 r9 n10 r10 r11 r12 : V} (h : All [Cz w k (nat_lit 83) [V.tup [V.int ys, V.int yo, V.int yx, V.int yb], V.int p, V.str way] r1, Cz w k (nat_lit 114) [V.tup [V.int ys, V.int yo, V.int yx, V.int yb], V.tup [V.int (0 : Int), V.int (0 : Int), V.int (0 : Int), V.int (0 : Int)], V.int p, V.str way] r2, Cz w k (nat_lit 114) [V.tup [V.int (0 : Int), V.int (0 : Int), V.int (0 : Int), V.int (0 : Int)], V.tup [V.int ys, V.int yo, V.int yx, V.int yb], V.int p, V.str way] r3, Cz w k (nat_lit 122) [V.tup [V.int ys, V.int yo, V.int yx, V.int yb], V.tup [V.int (0 : Int), V.int (0 : Int), V.int (0 : Int), V.int (0 : Int)], V.int p, V.str way] r4, Cz w k (nat_lit 91) [V.tup [V.int ys, V.int yo, V.int yx, V.int yb]] n5, Cz w k (nat_lit 122) [V.tup [V.int (0 : Int), V.int (0 : Int), V.int (0 : Int), V.int (0 : Int)], n5, V.int p, V.str way] r5, Cz w k (nat_lit 138) [V.tup [V.int ys, V.int yo, V.int yx, V.int yb], V.tup [V.int (0 : Int), V.int (1 : Int), V.int (0 : Int), V.int (1 : Int)], V.int p, V.str way] r6, Cz w k (nat_lit 168) [V.tup [V.int ys, V.int yo, V.int yx, V.int yb], V.tup [V.int (0 : Int), V.int (1 : Int), V.int (0 : Int), V.int (1 : Int)], V.int p, V.str way] r7, Cz w k (nat_lit 146) [V.tup [V.int ys, V.int yo, V.int yx, V.int yb], V.int (1 : Int), V.int p, V.str way] r8, Cz w k (nat_lit 130) [V.lst [V.tup [V.int ys, V.int yo, V.int yx, V.int yb]], V.int p, V.str way] r9, Cz w k (nat_lit 91) [V.tup [V.int ys, V.int yo, V.int yx, V.int yb]] n10, Cz w k (nat_lit 91) [n10, V.int p, V.str way] r10, (ys != (0 : Int)) = true, Cz w k (nat_lit 53) [V.int (-yo), V.int yx, V.int p, V.str way] r11, Cz w k (nat_lit 177) [V.tup [V.int ys, V.int yo, V.int yx, V.int yb], V.int (1 : Int), V.int p, V.str way] r12]) : Dz w k 219 [(Str.ofString "way", V.str way), (Str.ofString "p", V.int p), (Str.ofString "y", V.tup [V.int ys, V.int yo, V.int yx, V.int yb])] (bdy w 219) (Fl.ret (V.lst [r1, r2, r3, r4, r5, r6, r7, r8, r9, r10, r11, r12])) := run [Tk.r (r1), Tk.r (r2), Tk.r (r3), Tk.r (r4), Tk.r (n5), Tk.r (r5), Tk.r (r6), Tk.r (r7), Tk.r (r8), Tk.r (r9), Tk.r (n10), Tk.r (r10), Tk.t, Tk.r (r11), Tk.r (r12)] (by kernel_rfl!) h
theorem r_sum2 {w : World} {k : Nat} {xs xo xx xb prec mm ee : Int} {rnd : Str} {r1 : V} (h : All [IntMulOk prec (2 : Int), (prec * (2 : Int) != (0 : Int)) = true, Ez w k (130 : Addr) [(Str.ofString "absolute", V.bool false), (Str.ofString "rnd", V.str rnd), (Str.ofString "prec", V.int prec), (Str.ofString "xs", V.lst [V.tup [V.int xs, V.int xo, V.int xx, V.int xb]]), (Str.ofString "man", V.int (0 : Int)), (Str.ofString "exp", V.int (0 : Int)), (Str.ofString "max_extra_prec", V.int (prec * (2 : Int))), (Str.ofString "special", V.none)] (((bdy w 130).drop 4).headD default) [(Str.ofString "absolute", V.bool false), (Str.ofString "rnd", V.str rnd), (Str.ofString "prec", V.int prec), (Str.ofString "man", V.int mm), (Str.ofString "exp", V.int ee), (Str.ofString "max_extra_prec", V.int (prec * (2 : Int))), (Str.ofString "special", V.none)], false = false, Cz w k (nat_lit 53) [V.int mm, V.int ee, V.int prec, V.str rnd] r1]) : Dz w k 130 [(Str.ofString "absolute", V.bool false), (Str.ofString "rnd", V.str rnd), (Str.ofString "prec", V.int prec), (Str.ofString "xs", V.lst [V.tup [V.int xs, V.int xo, V.int xx, V.int xb]])] (bdy w 130) (Fl.ret r1) := run [Tk.t, Tk.s 0 [(Str.ofString "absolute", V.bool false), (Str.ofString "rnd", V.str rnd), (Str.ofString "prec", V.int prec), (Str.ofString "man", V.int mm), (Str.ofString "exp", V.int ee), (Str.ofString "max_extra_prec", V.int ((prec * 2))), (Str.ofString "special", V.none)], Tk.f, Tk.r (r1)] (by kernel_rfl!) h
theorem l_top_m {w : World} {k : Nat} {ld : List V} {d : Int} {ho hx hb hs qs qo qx qb : Int} {height : Int} (h : All [(20 : Int) ≠ (0 : Int), ShOk (1 : Int) ((1 : Int) + Int.fmod d (20 : Int) - (1 : Int)), DvOk (20 : Int), (3 : Int) ≠ (0 : Int), (Int.fmod d (3 : Int) == (0 : Int)) = true, Cz w k (nat_lit 191) [V.int (Int.fdiv d (20 : Int)), V.int ((1 : Int) + Int.fmod d (20 : Int)), V.int (1 : Int)] (V.tup [V.int hs, V.int ho, V.int hx, V.int hb]), Cz w k (nat_lit 160) [V.tup [V.int hs, V.int ho, V.int hx, V.int hb]] (V.tup [V.tup [V.int qs, V.int qo, V.int qx, V.int qb], V.int height]), DvOk ((1 : Int) * (2 : Int) ^ Int.toNat ((1 : Int) + Int.fmod d (20 : Int) - (1 : Int))), (height != Int.fdiv (Int.fdiv d (20 : Int)) ((1 : Int) * (2 : Int) ^ Int.toNat ((1 : Int) + Int.fmod d (20 : Int) - (1 : Int))) + ((1 : Int) + Int.fmod d (20 : Int))) = false, (!Mine.same (V.tup [V.int qs, V.int qo, V.int qx, V.int qb]) (V.tup [V.int (1 : Int), V.int ho, V.int (-hb), V.int hb])) = false, Dz w k (224 : Addr) [(Str.ofString "draws", V.lst (V.int d :: ld)), (Str.ofString "p", V.int ((1 : Int) + Int.fmod d (20 : Int))), (Str.ofString "span", V.int ((1 : Int) * (2 : Int) ^ Int.toNat ((1 : Int) + Int.fmod d (20 : Int) - (1 : Int)))), (Str.ofString "rank", V.int (Int.fdiv d (20 : Int))), (Str.ofString "minus", V.int (1 : Int)), (Str.ofString "home", V.tup [V.int hs, V.int ho, V.int hx, V.int hb]), (Str.ofString "raw", V.tup [V.int hs, V.int ho, V.int hx, V.int hb]), (Str.ofString "part", V.tup [V.int qs, V.int qo, V.int qx, V.int qb]), (Str.ofString "height", V.int height)] (List.drop 10 (bdy w 224)) (Fl.ret (V.bool true))]) : Dz w k 224 [(Str.ofString "draws", V.lst (V.int d :: ld))] (List.drop 2 (bdy w 224)) (Fl.ret (V.bool true)) := run [Tk.t, Tk.r (V.tup [V.int hs, V.int ho, V.int hx, V.int hb]), Tk.r (V.tup [V.tup [V.int qs, V.int qo, V.int qx, V.int qb], V.int height]), Tk.f, Tk.f, Tk.c 0 (Fl.ret (V.bool true))] (by kernel_rfl!) h
theorem l_top_p {w : World} {k : Nat} {ld : List V} {d : Int} {ho hx hb hs qs qo qx qb : Int} {height : Int} (h : All [(20 : Int) ≠ (0 : Int), ShOk (1 : Int) ((1 : Int) + Int.fmod d (20 : Int) - (1 : Int)), DvOk (20 : Int), (3 : Int) ≠ (0 : Int), (Int.fmod d (3 : Int) == (0 : Int)) = false, Cz w k (nat_lit 191) [V.int (Int.fdiv d (20 : Int)), V.int ((1 : Int) + Int.fmod d (20 : Int)), V.int (0 : Int)] (V.tup [V.int hs, V.int ho, V.int hx, V.int hb]), Cz w k (nat_lit 160) [V.tup [V.int hs, V.int ho, V.int hx, V.int hb]] (V.tup [V.tup [V.int qs, V.int qo, V.int qx, V.int qb], V.int height]), DvOk ((1 : Int) * (2 : Int) ^ Int.toNat ((1 : Int) + Int.fmod d (20 : Int) - (1 : Int))), (height != Int.fdiv (Int.fdiv d (20 : Int)) ((1 : Int) * (2 : Int) ^ Int.toNat ((1 : Int) + Int.fmod d (20 : Int) - (1 : Int))) + ((1 : Int) + Int.fmod d (20 : Int))) = false, (!Mine.same (V.tup [V.int qs, V.int qo, V.int qx, V.int qb]) (V.tup [V.int (0 : Int), V.int ho, V.int (-hb), V.int hb])) = false, Dz w k (224 : Addr) [(Str.ofString "draws", V.lst (V.int d :: ld)), (Str.ofString "p", V.int ((1 : Int) + Int.fmod d (20 : Int))), (Str.ofString "span", V.int ((1 : Int) * (2 : Int) ^ Int.toNat ((1 : Int) + Int.fmod d (20 : Int) - (1 : Int)))), (Str.ofString "rank", V.int (Int.fdiv d (20 : Int))), (Str.ofString "minus", V.int (0 : Int)), (Str.ofString "home", V.tup [V.int hs, V.int ho, V.int hx, V.int hb]), (Str.ofString "raw", V.tup [V.int hs, V.int ho, V.int hx, V.int hb]), (Str.ofString "part", V.tup [V.int qs, V.int qo, V.int qx, V.int qb]), (Str.ofString "height", V.int height)] (List.drop 10 (bdy w 224)) (Fl.ret (V.bool true))]) : Dz w k 224 [(Str.ofString "draws", V.lst (V.int d :: ld))] (List.drop 2 (bdy w 224)) (Fl.ret (V.bool true)) := run [Tk.f, Tk.r (V.tup [V.int hs, V.int ho, V.int hx, V.int hb]), Tk.r (V.tup [V.tup [V.int qs, V.int qo, V.int qx, V.int qb], V.int height]), Tk.f, Tk.f, Tk.c 0 (Fl.ret (V.bool true))] (by kernel_rfl!) h
theorem l_top2_m {w : World} {k : Nat} {ld : List V} {d : Int} {ho hx hb hs qs qo qx qb : Int} {height : Int} (h : All [(20 : Int) ≠ (0 : Int), ShOk (1 : Int) ((1 : Int) + Int.fmod d (20 : Int) - (1 : Int)), DvOk (20 : Int), (3 : Int) ≠ (0 : Int), (Int.fmod d (3 : Int) == (0 : Int)) = true, Cz w k (nat_lit 191) [V.int (Int.fdiv d (20 : Int)), V.int ((1 : Int) + Int.fmod d (20 : Int)), V.int (1 : Int)] (V.tup [V.int hs, V.int ho, V.int hx, V.int hb]), Cz w k (nat_lit 160) [V.tup [V.int hs, V.int ho, V.int hx, V.int hb]] (V.tup [V.tup [V.int qs, V.int qo, V.int qx, V.int qb], V.int height]), DvOk ((1 : Int) * (2 : Int) ^ Int.toNat ((1 : Int) + Int.fmod d (20 : Int) - (1 : Int))), (height != Int.fdiv (Int.fdiv d (20 : Int)) ((1 : Int) * (2 : Int) ^ Int.toNat ((1 : Int) + Int.fmod d (20 : Int) - (1 : Int))) + ((1 : Int) + Int.fmod d (20 : Int))) = false, (!Mine.same (V.tup [V.int qs, V.int qo, V.int qx, V.int qb]) (V.tup [V.int (1 : Int), V.int ho, V.int (-hb), V.int hb])) = false]) : Dz w k 224 [(Str.ofString "draws", V.lst (V.int d :: ld))] (List.take 8 (List.drop 2 (bdy w 224))) (Fl.next [(Str.ofString "draws", V.lst (V.int d :: ld)), (Str.ofString "p", V.int ((1 : Int) + Int.fmod d (20 : Int))), (Str.ofString "span", V.int ((1 : Int) * (2 : Int) ^ Int.toNat ((1 : Int) + Int.fmod d (20 : Int) - (1 : Int)))), (Str.ofString "rank", V.int (Int.fdiv d (20 : Int))), (Str.ofString "minus", V.int (1 : Int)), (Str.ofString "home", V.tup [V.int hs, V.int ho, V.int hx, V.int hb]), (Str.ofString "raw", V.tup [V.int hs, V.int ho, V.int hx, V.int hb]), (Str.ofString "part", V.tup [V.int qs, V.int qo, V.int qx, V.int qb]), (Str.ofString "height", V.int height)]) := run [Tk.t, Tk.r (V.tup [V.int hs, V.int ho, V.int hx, V.int hb]), Tk.r (V.tup [V.tup [V.int qs, V.int qo, V.int qx, V.int qb], V.int height]), Tk.f, Tk.f] (by kernel_rfl!) h
theorem l_top2_p {w : World} {k : Nat} {ld : List V} {d : Int} {ho hx hb hs qs qo qx qb : Int} {height : Int} (h : All [(20 : Int) ≠ (0 : Int), ShOk (1 : Int) ((1 : Int) + Int.fmod d (20 : Int) - (1 : Int)), DvOk (20 : Int), (3 : Int) ≠ (0 : Int), (Int.fmod d (3 : Int) == (0 : Int)) = false, Cz w k (nat_lit 191) [V.int (Int.fdiv d (20 : Int)), V.int ((1 : Int) + Int.fmod d (20 : Int)), V.int (0 : Int)] (V.tup [V.int hs, V.int ho, V.int hx, V.int hb]), Cz w k (nat_lit 160) [V.tup [V.int hs, V.int ho, V.int hx, V.int hb]] (V.tup [V.tup [V.int qs, V.int qo, V.int qx, V.int qb], V.int height]), DvOk ((1 : Int) * (2 : Int) ^ Int.toNat ((1 : Int) + Int.fmod d (20 : Int) - (1 : Int))), (height != Int.fdiv (Int.fdiv d (20 : Int)) ((1 : Int) * (2 : Int) ^ Int.toNat ((1 : Int) + Int.fmod d (20 : Int) - (1 : Int))) + ((1 : Int) + Int.fmod d (20 : Int))) = false, (!Mine.same (V.tup [V.int qs, V.int qo, V.int qx, V.int qb]) (V.tup [V.int (0 : Int), V.int ho, V.int (-hb), V.int hb])) = false]) : Dz w k 224 [(Str.ofString "draws", V.lst (V.int d :: ld))] (List.take 8 (List.drop 2 (bdy w 224))) (Fl.next [(Str.ofString "draws", V.lst (V.int d :: ld)), (Str.ofString "p", V.int ((1 : Int) + Int.fmod d (20 : Int))), (Str.ofString "span", V.int ((1 : Int) * (2 : Int) ^ Int.toNat ((1 : Int) + Int.fmod d (20 : Int) - (1 : Int)))), (Str.ofString "rank", V.int (Int.fdiv d (20 : Int))), (Str.ofString "minus", V.int (0 : Int)), (Str.ofString "home", V.tup [V.int hs, V.int ho, V.int hx, V.int hb]), (Str.ofString "raw", V.tup [V.int hs, V.int ho, V.int hx, V.int hb]), (Str.ofString "part", V.tup [V.int qs, V.int qo, V.int qx, V.int qb]), (Str.ofString "height", V.int height)]) := run [Tk.f, Tk.r (V.tup [V.int hs, V.int ho, V.int hx, V.int hb]), Tk.r (V.tup [V.tup [V.int qs, V.int qo, V.int qx, V.int qb], V.int height]), Tk.f, Tk.f] (by kernel_rfl!) h
theorem l_b0 {w : World} {k : Nat} {p span rank minus : Int} {ho ra : V} {tr : Addr} {t x : Int} {st : Int} {u : V} (h : All [(2 : Int) ≠ (0 : Int), DvOk (2 : Int), (5 : Int) ≠ (0 : Int), (0 : Int) ≤ Int.fmod (Int.fdiv x (2 : Int) + t) (5 : Int) ∧ Int.fmod (Int.fdiv x (2 : Int) + t) (5 : Int) < ↑(Str.length (Str.ofString "nfcud")) ∧ Str.length (Str.ofString "nfcud") < (1000 : Nat), Cz w k (nat_lit 205) [V.int minus, V.int (Int.fmod x (2 : Int)), V.str (Txt.item (Str.ofString "nfcud") (Int.fmod (Int.fdiv x (2 : Int) + t) (5 : Int)))] (V.int st), Cz w k (nat_lit 184) [ra, V.int (Int.fmod x (2 : Int)), V.int p, V.str (Txt.item (Str.ofString "nfcud") (Int.fmod (Int.fdiv x (2 : Int) + t) (5 : Int)))] u]) : Dz w k 224 [(Str.ofString "p", V.int p), (Str.ofString "span", V.int span), (Str.ofString "rank", V.int rank), (Str.ofString "minus", V.int minus), (Str.ofString "home", ho), (Str.ofString "raw", ra), (Str.ofString "trail", V.ref tr), (Str.ofString "t", V.int t), (Str.ofString "x", V.int x)] (List.take 4 (lawB w)) (Fl.next [(Str.ofString "p", V.int p), (Str.ofString "span", V.int span), (Str.ofString "rank", V.int (rank + st)), (Str.ofString "minus", V.int minus), (Str.ofString "home", ho), (Str.ofString "raw", u), (Str.ofString "trail", V.ref tr), (Str.ofString "t", V.int t), (Str.ofString "x", V.int x), (Str.ofString "way", V.str (Txt.item (Str.ofString "nfcud") (Int.fmod (Int.fdiv x (2 : Int) + t) (5 : Int)))), (Str.ofString "eps", V.int (Int.fmod x (2 : Int))), (Str.ofString "step", V.int st)]) := run [Tk.r (V.int st), Tk.r (u)] (by kernel_rfl!) h
theorem l_b5 {w : World} {k : Nat} {p span rank minus : Int} {ho ra : V} {tr : Addr} {t x : Int} {ne fa : V} (h : All [Cz w k (nat_lit 191) [V.int rank, V.int p, V.int minus] ne, Cz w k (nat_lit 191) [V.int (rank + (1 : Int)), V.int p, V.int minus] fa]) : Dz w k 224 [(Str.ofString "p", V.int p), (Str.ofString "span", V.int span), (Str.ofString "rank", V.int rank), (Str.ofString "minus", V.int minus), (Str.ofString "home", ho), (Str.ofString "raw", ra), (Str.ofString "trail", V.ref tr), (Str.ofString "t", V.int t), (Str.ofString "x", V.int x)] (List.take 1 (List.drop 5 (lawB w))) (Fl.next [(Str.ofString "p", V.int p), (Str.ofString "span", V.int span), (Str.ofString "rank", V.int rank), (Str.ofString "minus", V.int minus), (Str.ofString "home", ho), (Str.ofString "raw", ra), (Str.ofString "trail", V.ref tr), (Str.ofString "t", V.int t), (Str.ofString "x", V.int x), (Str.ofString "far", fa), (Str.ofString "near", ne)]) := run [Tk.r (ne), Tk.r (fa)] (by kernel_rfl!) h
theorem l_b7_f {w : World} {k : Nat} {p span rank minus : Int} {ho ra : V} {tr : Addr} {t x : Int} {ne fa : V} {gs go gx gb : Int} {u mm y : V} {hi : Bool} (h : All [Cz w k (nat_lit 122) [fa, ne] (V.tup [V.int gs, V.int go, V.int gx, V.int gb]), DvOk span, (!Mine.same (V.tup [V.int gs, V.int go, V.int gx, V.int gb]) (V.tup [V.int minus, V.int (1 : Int), V.int (Int.fdiv rank span), V.int (1 : Int)])) = false, DvOk (10 : Int), (9 : Int) ≠ (0 : Int), DvOk (90 : Int), ShOk (1 : Int) ((1 : Int) + Int.fmod (Int.fdiv x (10 : Int) + t) (9 : Int)), (1 : Int) * (2 : Int) ^ Int.toNat ((1 : Int) + Int.fmod (Int.fdiv x (10 : Int) + t) (9 : Int)) - (1 : Int) ≠ (0 : Int), Cz w k (nat_lit 53) [V.int ((1 : Int) + Int.fmod (Int.fdiv x (90 : Int)) ((1 : Int) * (2 : Int) ^ Int.toNat ((1 : Int) + Int.fmod (Int.fdiv x (10 : Int) + t) (9 : Int)) - (1 : Int))), V.int (-((1 : Int) + Int.fmod (Int.fdiv x (10 : Int) + t) (9 : Int)))] u, Cz w k (nat_lit 138) [V.tup [V.int gs, V.int go, V.int gx, V.int gb], u] mm, Cz w k (nat_lit 114) [ne, mm] y, DvOk (7 : Int), (5 : Int) ≠ (0 : Int), (0 : Int) ≤ Int.fmod (Int.fdiv x (7 : Int)) (5 : Int) ∧ Int.fmod (Int.fdiv x (7 : Int)) (5 : Int) < ↑(Str.length (Str.ofString "nfcud")) ∧ Str.length (Str.ofString "nfcud") < (1000 : Nat), Cz w k (nat_lit 212) [V.int ((1 : Int) + Int.fmod (Int.fdiv x (90 : Int)) ((1 : Int) * (2 : Int) ^ Int.toNat ((1 : Int) + Int.fmod (Int.fdiv x (10 : Int) + t) (9 : Int)) - (1 : Int))), V.int ((1 : Int) + Int.fmod (Int.fdiv x (10 : Int) + t) (9 : Int)), V.int rank, V.int p, V.int minus, V.str (Txt.item (Str.ofString "nfcud") (Int.fmod (Int.fdiv x (7 : Int)) (5 : Int)))] (V.bool hi), hi = true]) : Dz w k 224 [(Str.ofString "p", V.int p), (Str.ofString "span", V.int span), (Str.ofString "rank", V.int rank), (Str.ofString "minus", V.int minus), (Str.ofString "home", ho), (Str.ofString "raw", ra), (Str.ofString "trail", V.ref tr), (Str.ofString "t", V.int t), (Str.ofString "x", V.int x), (Str.ofString "near", ne), (Str.ofString "far", fa)] (List.take 7 (List.drop 7 (lawB w))) (Fl.next [(Str.ofString "p", V.int p), (Str.ofString "span", V.int span), (Str.ofString "rank", V.int rank), (Str.ofString "minus", V.int minus), (Str.ofString "home", ho), (Str.ofString "raw", ra), (Str.ofString "trail", V.ref tr), (Str.ofString "t", V.int t), (Str.ofString "x", V.int x), (Str.ofString "near", ne), (Str.ofString "far", fa), (Str.ofString "gap", V.tup [V.int gs, V.int go, V.int gx, V.int gb]), (Str.ofString "b", V.int ((1 : Int) + Int.fmod (Int.fdiv x (10 : Int) + t) (9 : Int))), (Str.ofString "a", V.int ((1 : Int) + Int.fmod (Int.fdiv x (90 : Int)) ((1 : Int) * (2 : Int) ^ Int.toNat ((1 : Int) + Int.fmod (Int.fdiv x (10 : Int) + t) (9 : Int)) - (1 : Int)))), (Str.ofString "y", y), (Str.ofString "way", V.str (Txt.item (Str.ofString "nfcud") (Int.fmod (Int.fdiv x (7 : Int)) (5 : Int)))), (Str.ofString "right", fa)]) := run [Tk.r (V.tup [V.int gs, V.int go, V.int gx, V.int gb]), Tk.f, Tk.r (u), Tk.r (mm), Tk.r (y), Tk.r (V.bool hi), Tk.t] (by kernel_rfl!) h
theorem l_b7_n {w : World} {k : Nat} {p span rank minus : Int} {ho ra : V} {tr : Addr} {t x : Int} {ne fa : V} {gs go gx gb : Int} {u mm y : V} {hi : Bool} (h : All [Cz w k (nat_lit 122) [fa, ne] (V.tup [V.int gs, V.int go, V.int gx, V.int gb]), DvOk span, (!Mine.same (V.tup [V.int gs, V.int go, V.int gx, V.int gb]) (V.tup [V.int minus, V.int (1 : Int), V.int (Int.fdiv rank span), V.int (1 : Int)])) = false, DvOk (10 : Int), (9 : Int) ≠ (0 : Int), DvOk (90 : Int), ShOk (1 : Int) ((1 : Int) + Int.fmod (Int.fdiv x (10 : Int) + t) (9 : Int)), (1 : Int) * (2 : Int) ^ Int.toNat ((1 : Int) + Int.fmod (Int.fdiv x (10 : Int) + t) (9 : Int)) - (1 : Int) ≠ (0 : Int), Cz w k (nat_lit 53) [V.int ((1 : Int) + Int.fmod (Int.fdiv x (90 : Int)) ((1 : Int) * (2 : Int) ^ Int.toNat ((1 : Int) + Int.fmod (Int.fdiv x (10 : Int) + t) (9 : Int)) - (1 : Int))), V.int (-((1 : Int) + Int.fmod (Int.fdiv x (10 : Int) + t) (9 : Int)))] u, Cz w k (nat_lit 138) [V.tup [V.int gs, V.int go, V.int gx, V.int gb], u] mm, Cz w k (nat_lit 114) [ne, mm] y, DvOk (7 : Int), (5 : Int) ≠ (0 : Int), (0 : Int) ≤ Int.fmod (Int.fdiv x (7 : Int)) (5 : Int) ∧ Int.fmod (Int.fdiv x (7 : Int)) (5 : Int) < ↑(Str.length (Str.ofString "nfcud")) ∧ Str.length (Str.ofString "nfcud") < (1000 : Nat), Cz w k (nat_lit 212) [V.int ((1 : Int) + Int.fmod (Int.fdiv x (90 : Int)) ((1 : Int) * (2 : Int) ^ Int.toNat ((1 : Int) + Int.fmod (Int.fdiv x (10 : Int) + t) (9 : Int)) - (1 : Int))), V.int ((1 : Int) + Int.fmod (Int.fdiv x (10 : Int) + t) (9 : Int)), V.int rank, V.int p, V.int minus, V.str (Txt.item (Str.ofString "nfcud") (Int.fmod (Int.fdiv x (7 : Int)) (5 : Int)))] (V.bool hi), hi = false]) : Dz w k 224 [(Str.ofString "p", V.int p), (Str.ofString "span", V.int span), (Str.ofString "rank", V.int rank), (Str.ofString "minus", V.int minus), (Str.ofString "home", ho), (Str.ofString "raw", ra), (Str.ofString "trail", V.ref tr), (Str.ofString "t", V.int t), (Str.ofString "x", V.int x), (Str.ofString "near", ne), (Str.ofString "far", fa)] (List.take 7 (List.drop 7 (lawB w))) (Fl.next [(Str.ofString "p", V.int p), (Str.ofString "span", V.int span), (Str.ofString "rank", V.int rank), (Str.ofString "minus", V.int minus), (Str.ofString "home", ho), (Str.ofString "raw", ra), (Str.ofString "trail", V.ref tr), (Str.ofString "t", V.int t), (Str.ofString "x", V.int x), (Str.ofString "near", ne), (Str.ofString "far", fa), (Str.ofString "gap", V.tup [V.int gs, V.int go, V.int gx, V.int gb]), (Str.ofString "b", V.int ((1 : Int) + Int.fmod (Int.fdiv x (10 : Int) + t) (9 : Int))), (Str.ofString "a", V.int ((1 : Int) + Int.fmod (Int.fdiv x (90 : Int)) ((1 : Int) * (2 : Int) ^ Int.toNat ((1 : Int) + Int.fmod (Int.fdiv x (10 : Int) + t) (9 : Int)) - (1 : Int)))), (Str.ofString "y", y), (Str.ofString "way", V.str (Txt.item (Str.ofString "nfcud") (Int.fmod (Int.fdiv x (7 : Int)) (5 : Int)))), (Str.ofString "right", ne)]) := run [Tk.r (V.tup [V.int gs, V.int go, V.int gx, V.int gb]), Tk.f, Tk.r (u), Tk.r (mm), Tk.r (y), Tk.r (V.bool hi), Tk.f] (by kernel_rfl!) h
theorem l_b15_pg {w : World} {k : Nat} {p span rank minus : Int} {ho ra : V} {tr : Addr} {t x : Int} {ne fa y : V} {b a : Int} {c1 c2 c3 c4 : Int} {u1 u2 : V} {v1 v2 : V} (h : All [(minus != (0 : Int)) = false, Cz w k (nat_lit 68) [ne, y] (V.int c1), (c1 != (-1 : Int)) = false, Cz w k (nat_lit 68) [y, fa] (V.int c2), (c2 != (-1 : Int)) = false, Cz w k (nat_lit 68) [fa, y] (V.int c3), (c3 != -(-1 : Int)) = false, IntMulOk (2 : Int) a, ShOk (1 : Int) b, decide ((1 : Int) * (2 : Int) ^ Int.toNat b < (2 : Int) * a) = true, Cz w k (nat_lit 122) [y, ne] u1, Cz w k (nat_lit 99) [u1] v1, Cz w k (nat_lit 122) [fa, y] u2, Cz w k (nat_lit 99) [u2] v2, Cz w k (nat_lit 68) [v1, v2] (V.int c4), (c4 != (1 : Int)) = false]) : Dz w k 224 [(Str.ofString "p", V.int p), (Str.ofString "span", V.int span), (Str.ofString "rank", V.int rank), (Str.ofString "minus", V.int minus), (Str.ofString "home", ho), (Str.ofString "raw", ra), (Str.ofString "trail", V.ref tr), (Str.ofString "t", V.int t), (Str.ofString "x", V.int x), (Str.ofString "near", ne), (Str.ofString "far", fa), (Str.ofString "b", V.int b), (Str.ofString "a", V.int a), (Str.ofString "y", y)] (List.take 4 (List.drop 15 (lawB w))) (Fl.next [(Str.ofString "p", V.int p), (Str.ofString "span", V.int span), (Str.ofString "rank", V.int rank), (Str.ofString "minus", V.int minus), (Str.ofString "home", ho), (Str.ofString "raw", ra), (Str.ofString "trail", V.ref tr), (Str.ofString "t", V.int t), (Str.ofString "x", V.int x), (Str.ofString "near", ne), (Str.ofString "far", fa), (Str.ofString "b", V.int b), (Str.ofString "a", V.int a), (Str.ofString "y", y), (Str.ofString "less", V.int (-1 : Int)), (Str.ofString "tilt", V.int (1 : Int))]) := run [Tk.f, Tk.r (V.int c1), Tk.f, Tk.r (V.int c2), Tk.f, Tk.r (V.int c3), Tk.f, Tk.t, Tk.r (u1), Tk.r (v1), Tk.r (u2), Tk.r (v2), Tk.r (V.int c4), Tk.f] (by kernel_rfl!) h
theorem l_b15_pl {w : World} {k : Nat} {p span rank minus : Int} {ho ra : V} {tr : Addr} {t x : Int} {ne fa y : V} {b a : Int} {c1 c2 c3 c4 : Int} {u1 u2 : V} {v1 v2 : V} (h : All [(minus != (0 : Int)) = false, Cz w k (nat_lit 68) [ne, y] (V.int c1), (c1 != (-1 : Int)) = false, Cz w k (nat_lit 68) [y, fa] (V.int c2), (c2 != (-1 : Int)) = false, Cz w k (nat_lit 68) [fa, y] (V.int c3), (c3 != -(-1 : Int)) = false, IntMulOk (2 : Int) a, ShOk (1 : Int) b, decide ((1 : Int) * (2 : Int) ^ Int.toNat b < (2 : Int) * a) = false, IntMulOk (2 : Int) a, ShOk (1 : Int) b, decide ((2 : Int) * a < (1 : Int) * (2 : Int) ^ Int.toNat b) = true, Cz w k (nat_lit 122) [y, ne] u1, Cz w k (nat_lit 99) [u1] v1, Cz w k (nat_lit 122) [fa, y] u2, Cz w k (nat_lit 99) [u2] v2, Cz w k (nat_lit 68) [v1, v2] (V.int c4), (c4 != (-1 : Int)) = false]) : Dz w k 224 [(Str.ofString "p", V.int p), (Str.ofString "span", V.int span), (Str.ofString "rank", V.int rank), (Str.ofString "minus", V.int minus), (Str.ofString "home", ho), (Str.ofString "raw", ra), (Str.ofString "trail", V.ref tr), (Str.ofString "t", V.int t), (Str.ofString "x", V.int x), (Str.ofString "near", ne), (Str.ofString "far", fa), (Str.ofString "b", V.int b), (Str.ofString "a", V.int a), (Str.ofString "y", y)] (List.take 4 (List.drop 15 (lawB w))) (Fl.next [(Str.ofString "p", V.int p), (Str.ofString "span", V.int span), (Str.ofString "rank", V.int rank), (Str.ofString "minus", V.int minus), (Str.ofString "home", ho), (Str.ofString "raw", ra), (Str.ofString "trail", V.ref tr), (Str.ofString "t", V.int t), (Str.ofString "x", V.int x), (Str.ofString "near", ne), (Str.ofString "far", fa), (Str.ofString "b", V.int b), (Str.ofString "a", V.int a), (Str.ofString "y", y), (Str.ofString "less", V.int (-1 : Int)), (Str.ofString "tilt", V.int (-1 : Int))]) := run [Tk.f, Tk.r (V.int c1), Tk.f, Tk.r (V.int c2), Tk.f, Tk.r (V.int c3), Tk.f, Tk.f, Tk.t, Tk.r (u1), Tk.r (v1), Tk.r (u2), Tk.r (v2), Tk.r (V.int c4), Tk.f] (by kernel_rfl!) h
theorem l_b15_pe {w : World} {k : Nat} {p span rank minus : Int} {ho ra : V} {tr : Addr} {t x : Int} {ne fa y : V} {b a : Int} {c1 c2 c3 c4 : Int} {u1 u2 : V} {v1 v2 : V} (h : All [(minus != (0 : Int)) = false, Cz w k (nat_lit 68) [ne, y] (V.int c1), (c1 != (-1 : Int)) = false, Cz w k (nat_lit 68) [y, fa] (V.int c2), (c2 != (-1 : Int)) = false, Cz w k (nat_lit 68) [fa, y] (V.int c3), (c3 != -(-1 : Int)) = false, IntMulOk (2 : Int) a, ShOk (1 : Int) b, decide ((1 : Int) * (2 : Int) ^ Int.toNat b < (2 : Int) * a) = false, IntMulOk (2 : Int) a, ShOk (1 : Int) b, decide ((2 : Int) * a < (1 : Int) * (2 : Int) ^ Int.toNat b) = false, Cz w k (nat_lit 122) [y, ne] u1, Cz w k (nat_lit 99) [u1] v1, Cz w k (nat_lit 122) [fa, y] u2, Cz w k (nat_lit 99) [u2] v2, Cz w k (nat_lit 68) [v1, v2] (V.int c4), (c4 != (0 : Int)) = false]) : Dz w k 224 [(Str.ofString "p", V.int p), (Str.ofString "span", V.int span), (Str.ofString "rank", V.int rank), (Str.ofString "minus", V.int minus), (Str.ofString "home", ho), (Str.ofString "raw", ra), (Str.ofString "trail", V.ref tr), (Str.ofString "t", V.int t), (Str.ofString "x", V.int x), (Str.ofString "near", ne), (Str.ofString "far", fa), (Str.ofString "b", V.int b), (Str.ofString "a", V.int a), (Str.ofString "y", y)] (List.take 4 (List.drop 15 (lawB w))) (Fl.next [(Str.ofString "p", V.int p), (Str.ofString "span", V.int span), (Str.ofString "rank", V.int rank), (Str.ofString "minus", V.int minus), (Str.ofString "home", ho), (Str.ofString "raw", ra), (Str.ofString "trail", V.ref tr), (Str.ofString "t", V.int t), (Str.ofString "x", V.int x), (Str.ofString "near", ne), (Str.ofString "far", fa), (Str.ofString "b", V.int b), (Str.ofString "a", V.int a), (Str.ofString "y", y), (Str.ofString "less", V.int (-1 : Int)), (Str.ofString "tilt", V.int (0 : Int))]) := run [Tk.f, Tk.r (V.int c1), Tk.f, Tk.r (V.int c2), Tk.f, Tk.r (V.int c3), Tk.f, Tk.f, Tk.f, Tk.r (u1), Tk.r (v1), Tk.r (u2), Tk.r (v2), Tk.r (V.int c4), Tk.f] (by kernel_rfl!) h
theorem l_b15_mg {w : World} {k : Nat} {p span rank minus : Int} {ho ra : V} {tr : Addr} {t x : Int} {ne fa y : V} {b a : Int} {c1 c2 c3 c4 : Int} {u1 u2 : V} {v1 v2 : V} (h : All [(minus != (0 : Int)) = true, Cz w k (nat_lit 68) [ne, y] (V.int c1), (c1 != (1 : Int)) = false, Cz w k (nat_lit 68) [y, fa] (V.int c2), (c2 != (1 : Int)) = false, Cz w k (nat_lit 68) [fa, y] (V.int c3), (c3 != (-1 : Int)) = false, IntMulOk (2 : Int) a, ShOk (1 : Int) b, decide ((1 : Int) * (2 : Int) ^ Int.toNat b < (2 : Int) * a) = true, Cz w k (nat_lit 122) [y, ne] u1, Cz w k (nat_lit 99) [u1] v1, Cz w k (nat_lit 122) [fa, y] u2, Cz w k (nat_lit 99) [u2] v2, Cz w k (nat_lit 68) [v1, v2] (V.int c4), (c4 != (1 : Int)) = false]) : Dz w k 224 [(Str.ofString "p", V.int p), (Str.ofString "span", V.int span), (Str.ofString "rank", V.int rank), (Str.ofString "minus", V.int minus), (Str.ofString "home", ho), (Str.ofString "raw", ra), (Str.ofString "trail", V.ref tr), (Str.ofString "t", V.int t), (Str.ofString "x", V.int x), (Str.ofString "near", ne), (Str.ofString "far", fa), (Str.ofString "b", V.int b), (Str.ofString "a", V.int a), (Str.ofString "y", y)] (List.take 4 (List.drop 15 (lawB w))) (Fl.next [(Str.ofString "p", V.int p), (Str.ofString "span", V.int span), (Str.ofString "rank", V.int rank), (Str.ofString "minus", V.int minus), (Str.ofString "home", ho), (Str.ofString "raw", ra), (Str.ofString "trail", V.ref tr), (Str.ofString "t", V.int t), (Str.ofString "x", V.int x), (Str.ofString "near", ne), (Str.ofString "far", fa), (Str.ofString "b", V.int b), (Str.ofString "a", V.int a), (Str.ofString "y", y), (Str.ofString "less", V.int (1 : Int)), (Str.ofString "tilt", V.int (1 : Int))]) := run [Tk.t, Tk.r (V.int c1), Tk.f, Tk.r (V.int c2), Tk.f, Tk.r (V.int c3), Tk.f, Tk.t, Tk.r (u1), Tk.r (v1), Tk.r (u2), Tk.r (v2), Tk.r (V.int c4), Tk.f] (by kernel_rfl!) h
theorem l_b15_ml {w : World} {k : Nat} {p span rank minus : Int} {ho ra : V} {tr : Addr} {t x : Int} {ne fa y : V} {b a : Int} {c1 c2 c3 c4 : Int} {u1 u2 : V} {v1 v2 : V} (h : All [(minus != (0 : Int)) = true, Cz w k (nat_lit 68) [ne, y] (V.int c1), (c1 != (1 : Int)) = false, Cz w k (nat_lit 68) [y, fa] (V.int c2), (c2 != (1 : Int)) = false, Cz w k (nat_lit 68) [fa, y] (V.int c3), (c3 != (-1 : Int)) = false, IntMulOk (2 : Int) a, ShOk (1 : Int) b, decide ((1 : Int) * (2 : Int) ^ Int.toNat b < (2 : Int) * a) = false, IntMulOk (2 : Int) a, ShOk (1 : Int) b, decide ((2 : Int) * a < (1 : Int) * (2 : Int) ^ Int.toNat b) = true, Cz w k (nat_lit 122) [y, ne] u1, Cz w k (nat_lit 99) [u1] v1, Cz w k (nat_lit 122) [fa, y] u2, Cz w k (nat_lit 99) [u2] v2, Cz w k (nat_lit 68) [v1, v2] (V.int c4), (c4 != (-1 : Int)) = false]) : Dz w k 224 [(Str.ofString "p", V.int p), (Str.ofString "span", V.int span), (Str.ofString "rank", V.int rank), (Str.ofString "minus", V.int minus), (Str.ofString "home", ho), (Str.ofString "raw", ra), (Str.ofString "trail", V.ref tr), (Str.ofString "t", V.int t), (Str.ofString "x", V.int x), (Str.ofString "near", ne), (Str.ofString "far", fa), (Str.ofString "b", V.int b), (Str.ofString "a", V.int a), (Str.ofString "y", y)] (List.take 4 (List.drop 15 (lawB w))) (Fl.next [(Str.ofString "p", V.int p), (Str.ofString "span", V.int span), (Str.ofString "rank", V.int rank), (Str.ofString "minus", V.int minus), (Str.ofString "home", ho), (Str.ofString "raw", ra), (Str.ofString "trail", V.ref tr), (Str.ofString "t", V.int t), (Str.ofString "x", V.int x), (Str.ofString "near", ne), (Str.ofString "far", fa), (Str.ofString "b", V.int b), (Str.ofString "a", V.int a), (Str.ofString "y", y), (Str.ofString "less", V.int (1 : Int)), (Str.ofString "tilt", V.int (-1 : Int))]) := run [Tk.t, Tk.r (V.int c1), Tk.f, Tk.r (V.int c2), Tk.f, Tk.r (V.int c3), Tk.f, Tk.f, Tk.t, Tk.r (u1), Tk.r (v1), Tk.r (u2), Tk.r (v2), Tk.r (V.int c4), Tk.f] (by kernel_rfl!) h
theorem l_b15_me {w : World} {k : Nat} {p span rank minus : Int} {ho ra : V} {tr : Addr} {t x : Int} {ne fa y : V} {b a : Int} {c1 c2 c3 c4 : Int} {u1 u2 : V} {v1 v2 : V} (h : All [(minus != (0 : Int)) = true, Cz w k (nat_lit 68) [ne, y] (V.int c1), (c1 != (1 : Int)) = false, Cz w k (nat_lit 68) [y, fa] (V.int c2), (c2 != (1 : Int)) = false, Cz w k (nat_lit 68) [fa, y] (V.int c3), (c3 != (-1 : Int)) = false, IntMulOk (2 : Int) a, ShOk (1 : Int) b, decide ((1 : Int) * (2 : Int) ^ Int.toNat b < (2 : Int) * a) = false, IntMulOk (2 : Int) a, ShOk (1 : Int) b, decide ((2 : Int) * a < (1 : Int) * (2 : Int) ^ Int.toNat b) = false, Cz w k (nat_lit 122) [y, ne] u1, Cz w k (nat_lit 99) [u1] v1, Cz w k (nat_lit 122) [fa, y] u2, Cz w k (nat_lit 99) [u2] v2, Cz w k (nat_lit 68) [v1, v2] (V.int c4), (c4 != (0 : Int)) = false]) : Dz w k 224 [(Str.ofString "p", V.int p), (Str.ofString "span", V.int span), (Str.ofString "rank", V.int rank), (Str.ofString "minus", V.int minus), (Str.ofString "home", ho), (Str.ofString "raw", ra), (Str.ofString "trail", V.ref tr), (Str.ofString "t", V.int t), (Str.ofString "x", V.int x), (Str.ofString "near", ne), (Str.ofString "far", fa), (Str.ofString "b", V.int b), (Str.ofString "a", V.int a), (Str.ofString "y", y)] (List.take 4 (List.drop 15 (lawB w))) (Fl.next [(Str.ofString "p", V.int p), (Str.ofString "span", V.int span), (Str.ofString "rank", V.int rank), (Str.ofString "minus", V.int minus), (Str.ofString "home", ho), (Str.ofString "raw", ra), (Str.ofString "trail", V.ref tr), (Str.ofString "t", V.int t), (Str.ofString "x", V.int x), (Str.ofString "near", ne), (Str.ofString "far", fa), (Str.ofString "b", V.int b), (Str.ofString "a", V.int a), (Str.ofString "y", y), (Str.ofString "less", V.int (1 : Int)), (Str.ofString "tilt", V.int (0 : Int))]) := run [Tk.t, Tk.r (V.int c1), Tk.f, Tk.r (V.int c2), Tk.f, Tk.r (V.int c3), Tk.f, Tk.f, Tk.f, Tk.r (u1), Tk.r (v1), Tk.r (u2), Tk.r (v2), Tk.r (V.int c4), Tk.f] (by kernel_rfl!) h
theorem l_b19 {w : World} {k : Nat} {p span rank minus : Int} {ho ra : V} {tr : Addr} {t x : Int} {u : V} (h : All [Cz w k (nat_lit 91) [ra] u]) : Dz w k 224 [(Str.ofString "p", V.int p), (Str.ofString "span", V.int span), (Str.ofString "rank", V.int rank), (Str.ofString "minus", V.int minus), (Str.ofString "home", ho), (Str.ofString "raw", ra), (Str.ofString "trail", V.ref tr), (Str.ofString "t", V.int t), (Str.ofString "x", V.int x)] (List.take 2 (ifB (lawS w 19))) (Fl.next [(Str.ofString "p", V.int p), (Str.ofString "span", V.int span), (Str.ofString "rank", V.int rank), (Str.ofString "minus", V.int ((1 : Int) - minus)), (Str.ofString "home", ho), (Str.ofString "raw", u), (Str.ofString "trail", V.ref tr), (Str.ofString "t", V.int t), (Str.ofString "x", V.int x)]) := run [Tk.r (u)] (by kernel_rfl!) h
theorem l_b20 {w : World} {k : Nat} {p span rank minus : Int} {ho ra : V} {tr : Addr} {t x : Int} {u : V} (h : All [DvOk (7 : Int), Cz w k (nat_lit 153) [ra, V.int (Int.fdiv x (7 : Int))] u, DvOk (7 : Int), IntMulOk (Int.fdiv x (7 : Int)) span]) : Dz w k 224 [(Str.ofString "p", V.int p), (Str.ofString "span", V.int span), (Str.ofString "rank", V.int rank), (Str.ofString "minus", V.int minus), (Str.ofString "home", ho), (Str.ofString "raw", ra), (Str.ofString "trail", V.ref tr), (Str.ofString "t", V.int t), (Str.ofString "x", V.int x)] (List.take 2 (ifB (lawS w 20))) (Fl.next [(Str.ofString "p", V.int p), (Str.ofString "span", V.int span), (Str.ofString "rank", V.int (rank + Int.fdiv x (7 : Int) * span)), (Str.ofString "minus", V.int minus), (Str.ofString "home", ho), (Str.ofString "raw", u), (Str.ofString "trail", V.ref tr), (Str.ofString "t", V.int t), (Str.ofString "x", V.int x)]) := run [Tk.r (u)] (by kernel_rfl!) h
theorem l_last {w : World} {k : Nat} {p span rank minus : Int} {ho ra : V} {tr : Addr} (h : All []) : Dz w k 224 [(Str.ofString "p", V.int p), (Str.ofString "span", V.int span), (Str.ofString "rank", V.int rank), (Str.ofString "minus", V.int minus), (Str.ofString "home", ho), (Str.ofString "raw", ra), (Str.ofString "trail", V.ref tr)] (List.take 1 (List.drop 12 (bdy w 224))) (Fl.next [(Str.ofString "p", V.int p), (Str.ofString "span", V.int span), (Str.ofString "rank", V.int rank), (Str.ofString "minus", V.int minus), (Str.ofString "home", ho), (Str.ofString "raw", ra), (Str.ofString "trail", V.ref tr), (Str.ofString "last", V.int rank)]) := run [] (by kernel_rfl!) h
theorem l_u_m {w : World} {k : Nat} {p last minus : Int} {ho ra u : V} {much : Int} {kind : Str} (h : All [(kind == Str.ofString "mirror") = true, Cz w k (nat_lit 91) [ra] u]) : Dz w k 224 [(Str.ofString "p", V.int p), (Str.ofString "last", V.int last), (Str.ofString "minus", V.int minus), (Str.ofString "home", ho), (Str.ofString "raw", ra), (Str.ofString "kind", V.str kind), (Str.ofString "much", V.int much)] (undoB w) (Fl.next [(Str.ofString "p", V.int p), (Str.ofString "last", V.int last), (Str.ofString "minus", V.int ((1 : Int) - minus)), (Str.ofString "home", ho), (Str.ofString "raw", u), (Str.ofString "kind", V.str kind), (Str.ofString "much", V.int much)]) := run [Tk.t, Tk.r (u)] (by kernel_rfl!) h
theorem l_u_l {w : World} {k : Nat} {p last minus : Int} {ho ra u : V} {much : Int} {kind : Str} (h : All [(kind == Str.ofString "mirror") = false, (kind == Str.ofString "leap") = true, Cz w k (nat_lit 153) [ra, V.int (-much)] u]) : Dz w k 224 [(Str.ofString "p", V.int p), (Str.ofString "last", V.int last), (Str.ofString "minus", V.int minus), (Str.ofString "home", ho), (Str.ofString "raw", ra), (Str.ofString "kind", V.str kind), (Str.ofString "much", V.int much)] (undoB w) (Fl.next [(Str.ofString "p", V.int p), (Str.ofString "last", V.int last), (Str.ofString "minus", V.int minus), (Str.ofString "home", ho), (Str.ofString "raw", u), (Str.ofString "kind", V.str kind), (Str.ofString "much", V.int much)]) := run [Tk.f, Tk.t, Tk.r (u)] (by kernel_rfl!) h
theorem l_u_p {w : World} {k : Nat} {p last minus : Int} {ho ra u : V} {much : Int} {kind : Str} (h : All [(kind == Str.ofString "mirror") = false, (kind == Str.ofString "leap") = false, (much == (1 : Int)) = true, Cz w k (nat_lit 184) [ra, V.int ((1 : Int) - minus), V.int p, V.str (Str.ofString "d")] u]) : Dz w k 224 [(Str.ofString "p", V.int p), (Str.ofString "last", V.int last), (Str.ofString "minus", V.int minus), (Str.ofString "home", ho), (Str.ofString "raw", ra), (Str.ofString "kind", V.str kind), (Str.ofString "much", V.int much)] (undoB w) (Fl.next [(Str.ofString "p", V.int p), (Str.ofString "last", V.int last), (Str.ofString "minus", V.int minus), (Str.ofString "home", ho), (Str.ofString "raw", u), (Str.ofString "kind", V.str kind), (Str.ofString "much", V.int much)]) := run [Tk.f, Tk.f, Tk.t, Tk.r (u)] (by kernel_rfl!) h
theorem l_u_d {w : World} {k : Nat} {p last minus : Int} {ho ra u : V} {much : Int} {kind : Str} (h : All [(kind == Str.ofString "mirror") = false, (kind == Str.ofString "leap") = false, (much == (1 : Int)) = false, (much == (-1 : Int)) = true, Cz w k (nat_lit 184) [ra, V.int minus, V.int p, V.str (Str.ofString "u")] u]) : Dz w k 224 [(Str.ofString "p", V.int p), (Str.ofString "last", V.int last), (Str.ofString "minus", V.int minus), (Str.ofString "home", ho), (Str.ofString "raw", ra), (Str.ofString "kind", V.str kind), (Str.ofString "much", V.int much)] (undoB w) (Fl.next [(Str.ofString "p", V.int p), (Str.ofString "last", V.int last), (Str.ofString "minus", V.int minus), (Str.ofString "home", ho), (Str.ofString "raw", u), (Str.ofString "kind", V.str kind), (Str.ofString "much", V.int much)]) := run [Tk.f, Tk.f, Tk.f, Tk.t, Tk.r (u)] (by kernel_rfl!) h
theorem l_u_z {w : World} {k : Nat} {p last minus : Int} {ho ra : V} {much : Int} {kind : Str} (h : All [(kind == Str.ofString "mirror") = false, (kind == Str.ofString "leap") = false, (much == (1 : Int)) = false, (much == (-1 : Int)) = false]) : Dz w k 224 [(Str.ofString "p", V.int p), (Str.ofString "last", V.int last), (Str.ofString "minus", V.int minus), (Str.ofString "home", ho), (Str.ofString "raw", ra), (Str.ofString "kind", V.str kind), (Str.ofString "much", V.int much)] (undoB w) (Fl.next [(Str.ofString "p", V.int p), (Str.ofString "last", V.int last), (Str.ofString "minus", V.int minus), (Str.ofString "home", ho), (Str.ofString "raw", ra), (Str.ofString "kind", V.str kind), (Str.ofString "much", V.int much)]) := run [Tk.f, Tk.f, Tk.f, Tk.f] (by kernel_rfl!) h
theorem l_c {w : World} {k : Nat} {q last : Int} {fo ra u : V} {i : Int} (h : All [Cz w k (nat_lit 184) [ra, V.int (0 : Int), V.int q, V.str (Str.ofString "c")] u, Cz w k (nat_lit 75) [ra, u] (V.bool true), true = true]) : Dz w k 224 [(Str.ofString "q", V.int q), (Str.ofString "last", V.int last), (Str.ofString "foot", fo), (Str.ofString "raw", ra), (Str.ofString "_", V.int i)] (climbB w) (Fl.next [(Str.ofString "q", V.int q), (Str.ofString "last", V.int last), (Str.ofString "foot", fo), (Str.ofString "raw", u), (Str.ofString "_", V.int i), (Str.ofString "higher", u)]) := run [Tk.r (u), Tk.r (V.bool true), Tk.t] (by kernel_rfl!) h
theorem l_end {w : World} {k : Nat} {last : Int} {hs ho_ hx hb rs ro rx rb : Int} {f : V} {vs vo vx vb gs go gx gb : Int} (h : All [(!Mine.same (V.tup [V.int rs, V.int ro, V.int rx, V.int rb]) (V.tup [V.int hs, V.int ho_, V.int hx, V.int hb])) = false, (4 : Int) ≠ (0 : Int), Cz w k (nat_lit 153) [V.tup [V.int (0 : Int), V.int (1 : Int), V.int (0 : Int), V.int (1 : Int)], V.int last] f, Ez w k (224 : Addr) [(Str.ofString "last", V.int last), (Str.ofString "home", V.tup [V.int hs, V.int ho_, V.int hx, V.int hb]), (Str.ofString "raw", f), (Str.ofString "q", V.int ((1 : Int) + Int.fmod last (4 : Int))), (Str.ofString "foot", f)] ((((bdy w 224).drop 18).headD default)) [(Str.ofString "raw", V.tup [V.int vs, V.int vo, V.int vx, V.int vb]), (Str.ofString "foot", f)], Cz w k (nat_lit 153) [f, V.int (1 : Int)] (V.tup [V.int gs, V.int go, V.int gx, V.int gb])]) : Dz w k 224 [(Str.ofString "last", V.int last), (Str.ofString "home", V.tup [V.int hs, V.int ho_, V.int hx, V.int hb]), (Str.ofString "raw", V.tup [V.int rs, V.int ro, V.int rx, V.int rb])] (List.drop 14 (bdy w 224)) (Fl.ret (V.bool (Mine.same (V.tup [V.int vs, V.int vo, V.int vx, V.int vb]) (V.tup [V.int gs, V.int go, V.int gx, V.int gb])))) := run [Tk.f, Tk.r (f), Tk.s 0 [(Str.ofString "raw", V.tup [V.int vs, V.int vo, V.int vx, V.int vb]), (Str.ofString "foot", f)], Tk.r (V.tup [V.int gs, V.int go, V.int gx, V.int gb])] (by kernel_rfl!) h
theorem l_tail {w : World} {k : Nat} {p span rank minus : Int} {ho ra ra2 : V} {tl : List V} (h : All [Ez w k (224 : Addr) [(Str.ofString "p", V.int p), (Str.ofString "span", V.int span), (Str.ofString "rank", V.int rank), (Str.ofString "minus", V.int minus), (Str.ofString "home", ho), (Str.ofString "raw", ra), (Str.ofString "trail", V.lst tl), (Str.ofString "last", V.int rank)] ((((bdy w 224).drop 13).headD default)) [(Str.ofString "last", V.int rank), (Str.ofString "home", ho), (Str.ofString "raw", ra2)], Dz w k (224 : Addr) [(Str.ofString "last", V.int rank), (Str.ofString "home", ho), (Str.ofString "raw", ra2)] (List.drop 14 (bdy w 224)) (Fl.ret (V.bool true))]) : Dz w k 224 [(Str.ofString "p", V.int p), (Str.ofString "span", V.int span), (Str.ofString "rank", V.int rank), (Str.ofString "minus", V.int minus), (Str.ofString "home", ho), (Str.ofString "raw", ra), (Str.ofString "trail", V.lst tl)] (List.drop 12 (bdy w 224)) (Fl.ret (V.bool true)) := run [Tk.s 0 [(Str.ofString "last", V.int rank), (Str.ofString "home", ho), (Str.ofString "raw", ra2)], Tk.c 0 (Fl.ret (V.bool true))] (by kernel_rfl!) h
end Mine
end
section
set_option Elab.async false
set_option maxRecDepth 100000
set_option autoImplicit false
open PySem PySem.W PySem.Calls PyProof.Rows PySem.Spec
namespace Mine

/-! A ledger that keeps the data -/
def IsD (o : Obj) : Prop := o.cls = .type "tuple" ∨ o.cls = .type "list"
section
variable {K : Frag} {news news2 : List (Addr × Obj)}
theorem Has.sel {a : Addr} {o : Obj} (s : ∀ p ∈ news, IsD p.2 → p ∈ news2) (d : IsD o) (h : Has K news a o) : Has K news2 a o := h.imp (fun m => s _ m d) id
mutual
theorem Rep.sel (s : ∀ p ∈ news, IsD p.2 → p ∈ news2) : ∀ {v : Value} {d : V}, Rep K news v d → Rep K news2 v d
  | _, _, .int => .int
  | _, _, .bool => .bool
  | _, _, .str => .str
  | _, _, .none => .none
  | _, _, .ref => .ref
  | _, _, .tup h c d r => .tup (h.sel s (.inl c)) c d (Reps.sel s r)
  | _, _, .lst h c d r => .lst (h.sel s (.inr c)) c d (Reps.sel s r)
theorem Reps.sel (s : ∀ p ∈ news, IsD p.2 → p ∈ news2) : ∀ {vs : List Value} {ds : List V}, Reps K news vs ds → Reps K news2 vs ds
  | _, _, .nil => .nil
  | _, _, .cons h r => .cons (Rep.sel s h) (Reps.sel s r)
end
theorem EnRep.sel {m : Str → Option Value} {e : En} (s : ∀ p ∈ news, IsD p.2 → p ∈ news2) (h : EnRep K news m e) : EnRep K news2 m e :=
  fun x v q => let ⟨val, a, b⟩ := h x v q; ⟨val, a, b.sel s⟩

/-! values without a list -/
mutual
def noL : V → Bool
  | .lst _ => false
  | .tup vs => noLs vs
  | _ => true
def noLs : List V → Bool
  | [] => true
  | v :: r => noL v && noLs r
end
mutual
theorem Rep.selT (s : ∀ p ∈ news, p.2.cls = .type "tuple" → p ∈ news2) : ∀ {v : Value} {d : V}, noL d = true → Rep K news v d → Rep K news2 v d
  | _, _, _, .int => .int
  | _, _, _, .bool => .bool
  | _, _, _, .str => .str
  | _, _, _, .none => .none
  | _, _, _, .ref => .ref
  | _, _, q, .tup h c d r => .tup (h.imp (fun m => s _ m c) id) c d (Reps.selT s (by simpa [noL] using q) r)
  | _, _, q, .lst h c d r => by simp [noL] at q
theorem Reps.selT (s : ∀ p ∈ news, p.2.cls = .type "tuple" → p ∈ news2) : ∀ {vs : List Value} {ds : List V}, noLs ds = true → Reps K news vs ds → Reps K news2 vs ds
  | _, _, _, .nil => .nil
  | _, _, q, .cons h r => .cons (Rep.selT s (by simp [noLs] at q; exact q.1) h) (Reps.selT s (by simp [noLs] at q; exact q.2) r)
end
theorem EnRep.selT {m : Str → Option Value} {e : En} (s : ∀ p ∈ news, p.2.cls = .type "tuple" → p ∈ news2) (q : ∀ x v, e.lookup x = some v → noL v = true) (h : EnRep K news m e) : EnRep K news2 m e :=
  fun x v e => let ⟨val, a, b⟩ := h x v e; ⟨val, a, b.selT s (q x v e)⟩
theorem EnRep.some {m : Str → Option Value} {e e' : En} (h : EnRep K news m e) (s : ∀ p ∈ e', e.lookup p.1 = some p.2) : EnRep K news m e' := by
  intro x v q
  have hm : (x, v) ∈ e' := by
    clear h s
    induction e' with
    | nil => cases q
    | cons p r ih =>
      rw [List.lookup_cons] at q
      split at q
      · rename_i hx
        cases q
        rw [beq_iff_eq.mp hx]
        exact .head _
      · exact .tail _ (ih q)
  exact h _ _ (s _ hm)

/-- the ledger without an iterator's objects -/
def off (wr : List Addr) (news : List (Addr × Obj)) : List (Addr × Obj) := news.filter fun p => decide (p.1 ∉ wr)
theorem off_sub {wr : List Addr} : ∀ p ∈ off wr news, p ∈ news := fun p h => (List.mem_filter.mp h).1
theorem off_off {wr : List Addr} : ∀ p ∈ off wr news, p.1 ∉ wr := fun p h => by simpa using (List.mem_filter.mp h).2
theorem mem_off {wr : List Addr} {p : Addr × Obj} (h : p ∈ news) (h2 : p.1 ∉ wr) : p ∈ off wr news := List.mem_filter.mpr ⟨h, by simpa using h2⟩
end

theorem news_app {h₀ h : Heap} {L : Addr} {a b : List (Addr × Obj)} (N : News h₀ L h b) (s : ∀ p ∈ a, p ∈ b) : News h₀ L h a := fun p hp => N p (s p hp)

/-! One loop for all that is walked. -/
structure Wk (prog : Program) (w : World) (A : Around) (target : Expr) (I : Addr) (fp wr : List Addr) (n : Nat) (Got : Nat → Value → Heap → Prop) (St : Nat → Heap → Prop) : Prop where
  sub : ∀ b ∈ wr, b ∈ fp
  frame : ∀ i h h', St i h → (∀ b ∈ fp, ∀ o, h.get? b = some o → h'.get? b = some o) → St i h'
  item : ∀ i (s : Shared) (Q : Option Value → Shared → Prop) (E : Value → Shared → Prop), i < n → St i s.heap →
    (∀ v h' tk, (∀ b o, b ∉ wr → s.heap.get? b = some o → h'.get? b = some o) →
      (∀ (Q' : Unit → Shared → Prop) (E' : Value → Shared → Prop), (∀ h'', Got i v h'' → St (i + 1) h'' → (∀ b o, b ∉ wr → h'.get? b = some o → h''.get? b = some o) → Q' () { s with heap := h'', toks := tk }) →
        wpAny (model prog w) A (letOwnedTupleGo target (.ref I) v) Q' E' { s with heap := h', toks := tk }) → Q (some v) { s with heap := h', toks := tk }) →
    wpAny (model prog w) A (pyNext (.ref I)) Q E s
  done : ∀ (s : Shared) (Q : Option Value → Shared → Prop) (E : Value → Shared → Prop), St n s.heap →
    (∀ h' tk, (∀ b o, b ∉ wr → s.heap.get? b = some o → h'.get? b = some o) → Q none { s with heap := h', toks := tk }) → wpAny (model prog w) A (pyNext (.ref I)) Q E s
theorem Wk.ofWalks {prog : Program} {w : World} {A : Around} {I : Addr} {fp wr : List Addr} {n : Nat} {P : Nat → Value → Prop} {St : Nat → Heap → Prop} {x : Str} {px : Pos} (W : Walks prog w A I fp wr n P St) : Wk prog w A (.Name x px) I fp wr n (fun i v _ => P i v) St where
  sub := W.sub
  frame := W.frame
  item := fun i s Q E hi st q => W.item i s Q E hi st fun v h' tk hP st' hk => q v h' tk hk fun Q' E' q' => wpAny_pure (q' h' hP st' fun _ _ _ e => e)
  done := W.done
theorem Wk.ofU {prog : Program} {w : World} {A : Around} {elts : List Expr} {kk : Nat} {pos : Pos} {I : Addr} {fp wr : List Addr} {n : Nat} {Pt : Nat → Array Value → Prop} {St : Nat → Heap → Prop} {Mid : Nat → Addr → Heap → Prop} (W : WalksU prog w A I fp wr n Pt St Mid) :
    Wk prog w A (.Tuple elts kk pos) I fp wr n (fun i v h => ∃ T vals, v = .ref T ∧ Pt i vals ∧ h.IsTuple T vals) St where
  sub := W.sub
  frame := W.frame
  item := fun i s Q E hi st q => W.item i s Q E hi st fun T vals h' tk hP hT hM hk => q (.ref T) h' tk hk fun Q' E' q' =>
    W.go elts kk pos i T _ Q' E' hM fun h'' st'' hk'' => q' h'' ⟨T, vals, rfl, hP, hT.at fun o e => hk'' T o (W.apart i T h' hM) e⟩ st'' hk''
  done := W.done

section
variable {prog : Program} {w : World} {A : Around} {s : Shared} {env : Env} {h₀ : Heap}
theorem loop_gen {R : Result → Shared → Prop} {target : Expr} {body : List Stmt} {I : Addr} {fp wr : List Addr} {n : Nat} {Got : Nat → Value → Heap → Prop} {St : Nat → Heap → Prop} {m : Str → Option Value} {news : List (Addr × Obj)}
    (W : Wk prog w A target I fp wr n Got St)
    (hLf : env.locals ∉ fp) (hwr : ∀ b ∈ wr, h₀.get? b = none) (hnw : ∀ p ∈ news, p.1 ∉ wr)
    (hst : St 0 s.heap) (F : Fr h₀ env.locals s.heap m) (N : News h₀ env.locals s.heap news)
    (J : Nat → (Str → Option Value) → List (Addr × Obj) → Prop) (h0 : J 0 m news)
    (step : ∀ (E' : Value → Shared → Prop) i v m₁ news₁ s₁, (∃ h tk, s₁ = { s with heap := h, toks := tk }) → i < n → Got i v s₁.heap → St (i + 1) s₁.heap → J i m₁ news₁ → (∀ p ∈ news₁, p.1 ∉ wr) →
      Fr h₀ env.locals s₁.heap m₁ → News h₀ env.locals s₁.heap (ownOf h₀ fp s₁.heap ++ news₁) →
      wpAny (model prog w) A (assign target env v) (fun _ s₂ => wpAny (model prog w) A (execs body env) (LoopStepU h₀ env.locals wr (ownOf h₀ fp s₁.heap) (J (i + 1)) s₁) E' s₂) E' s₁)
    (hR : ∀ h' tk m' news', Fr h₀ env.locals h' m' → News h₀ env.locals h' news' → J n m' news' → R (.ok .next) { s with heap := h', toks := tk }) :
    codeAny (model prog w) A (.forLoop target (.ref I) body [] env) R s := by
  have hLw : env.locals ∉ wr := fun h => hLf (W.sub _ h)
  have old : ∀ b o, h₀.get? b = some o → b ∉ wr := fun b o e hb => by rw [hwr b hb] at e; cases e
  refine codeAny_forLoop_any
    (fun k s' => ∃ h' tk m' news' i, s' = { s with heap := h', toks := tk } ∧ St i h' ∧ Fr h₀ env.locals h' m' ∧ News h₀ env.locals h' news' ∧ (∀ p ∈ news', p.1 ∉ wr) ∧ J i m' news' ∧ i ≤ n ∧ k = n + 1 - i) ?_ (n + 1)
    ⟨s.heap, s.toks, m, news, 0, rfl, hst, F, N, hnw, h0, Nat.zero_le _, rfl⟩
  rintro k s' ⟨h', tk, m', news', i, rfl, hst', F', N', hnw', hJ, hi, rfl⟩
  by_cases hlt : i < n
  · refine W.item i _ _ _ hlt hst' fun v h₁ tk₁ hk₁ go => ?_
    refine go _ _ fun h₂ hG hst₂ hk₂ => ?_
    have up : ∀ b o, b ∉ wr → h'.get? b = some o → h₂.get? b = some o := fun b o hb e => hk₂ b o hb (hk₁ b o hb e)
    have F₁ : Fr h₀ env.locals h₂ m' := ⟨F'.ns.at' fun o e => up _ o hLw e, fun b o e => up b o (old b o e) (F'.keep b o e), F'.above⟩
    have N₁ : News h₀ env.locals h₂ news' := fun p hp => ⟨up _ _ (hnw' p hp) (N' p hp).1, (N' p hp).2⟩
    have Nown : News h₀ env.locals h₂ (ownOf h₀ fp h₂) := news_ownOf hLf
    refine wpAny_mono (step _ i v m' news' { s with heap := h₂, toks := tk₁ } ⟨_, _, rfl⟩ hlt hG hst₂ hJ hnw' F₁ (Nown.append N₁))
      (fun _ s₂ h₂' => wpAny_mono h₂' (fun f s₃ h₃ => ?_) fun _ _ e => e) fun _ _ e => e
    obtain ⟨rfl, h₃', tk₃, m₂, news₂, rfl, F₃, N₃, ha₃, hJ₃⟩ := h₃
    refine ⟨n + 1 - (i + 1), by omega, h₃', tk₃, m₂, news₂, i + 1, rfl, ?_, F₃, N₃.right, ha₃, hJ₃, hlt, rfl⟩
    refine W.frame _ _ _ hst₂ fun b hb o e => ?_
    cases hn : h₀.get? b with
    | some o₀ =>
      have : o₀ = o := by have := F₁.keep b o₀ hn; rw [e] at this; exact (Option.some.inj this).symm
      exact this ▸ F₃.keep b o₀ hn
    | none => exact (N₃ _ (List.mem_append_left _ (mem_ownOf hb hn e))).1
  · have hin : i = n := by omega
    subst hin
    refine W.done _ _ _ hst' fun h₁ tk₁ hk₁ => wpAny_execs_nil ?_
    exact hR h₁ tk₁ m' news' ⟨F'.ns.at' fun o e => hk₁ _ o hLw e, fun b o e => hk₁ b o (old b o e) (F'.keep b o e), F'.above⟩ (fun p hp => ⟨hk₁ _ _ (hnw' p hp) (N' p hp).1, (N' p hp).2⟩) hJ

/-- what a turn's end is, when the block ran by the evaluator -/
theorem turn_end {h₀ h' : Heap} {L : Addr} {wr fp : List Addr} {own news' : List (Addr × Obj)} {Jn : (Str → Option Value) → List (Addr × Obj) → Prop} {s₁ : Shared} {tk : Nat} {m₂ : Str → Option Value}
    (F : Fr h₀ L h' m₂) (N : News h₀ L h' news') (s : ∀ p ∈ own, p ∈ news') (hJ : Jn m₂ (off wr news')) : LoopStepU h₀ L wr own Jn s₁ .next { s₁ with heap := h', toks := tk } :=
  LoopStepU.intro F (News.append (news_app N s) (news_app N off_sub)) off_off hJ
end

section
variable {prog : Program} {w : World} {K : Frag} {k : Nat} {sc : Scope}
theorem does_for {x : Str} {px pos : Pos} {iter : Expr} {body : List Stmt} {vs : List V} (en : Nat → En) (hx : sc.names.lookup x = some .local)
    (hs : ∀ env z, foldedSetIterable iter env z = pure z)
    (hit : Gives prog w K k sc (en 0) (eval iter) (.lst vs))
    (turn : ∀ i v, vs[i]? = some v → Does prog w K k sc ((en i).put x v) (execs body) (.next (en (i + 1)))) : Does prog w K k sc (en 0) (exec (.For (.Name x px) iter body [] pos)) (.next (en vs.length)) := by
  intro A env h₀ m news s Q E a hsc F N R q
  refine wpAny_For ?_ (hs env)
  refine hit A env h₀ m news s _ E a hsc F N R ?_
  intro v1 h1 t1 n1 F1 N1 s1 r1
  cases r1 with | lst H c d rs =>
  rename_i ad o items n
  have R1 := R.mono s1
  have X1 := a.In F1
  have ho := H.get N1 X1
  have hl : h1.IsList ad items := ⟨o, ho, c, n, d⟩
  refine wpAny_pyIter_list hl ?_
  have hlt : ad < h1.objs.size := Heap.lt_size ho
  have hne : ad ≠ h1.objs.size := Nat.ne_of_lt hlt
  have W := Wk.ofWalks (x := x) (px := px) (Walks.list (prog := prog) (w := w) (A := A) a.hh h1.objs.size ad hne items)
  have hlen : items.size = vs.length := by have := rs.length; simpa using this
  rw [hlen] at W
  have hadL : env.locals ≠ ad := by
    rcases H with m1 | m1
    · exact (N1 _ m1).2.1.symm
    · intro e
      have g1 : ad < h₀.objs.size := Heap.lt_size (a.X _ _ m1)
      have g2 : h₀.objs.size ≤ env.locals := F1.above
      exact absurd (Nat.lt_of_lt_of_le g1 g2) (e ▸ Nat.lt_irrefl _)
  have hLlt := F1.ns.lt
  refine loop_gen (R := fun r s' => match r with | .ok f => Q f s' | .error e => cameBackBy (model prog w) A env E e s') (h₀ := h₀) (m := m) (news := n1) W ?_ ?_ ?_ ?_ (F1.push _) (fun p hp => ⟨Heap.get?_push_of_some _ (N1 p hp).1, (N1 p hp).2⟩)
    (fun i m' news' => EnRep K news' m' (en i) ∧ (∀ p ∈ n1, p ∈ news')) ⟨R1, fun _ h => h⟩ ?_ ?_
  · intro hm
    rcases List.mem_cons.mp hm with e | hm
    · exact absurd hLlt (e ▸ Nat.lt_irrefl _)
    · exact hadL (List.mem_singleton.mp hm)
  · intro b hb
    rw [List.mem_singleton.mp hb]
    exact next_is_new F1
  · intro p hp hI
    exact absurd (Heap.lt_size (N1 p hp).1) ((List.mem_singleton.mp hI) ▸ Nat.lt_irrefl _)
  · exact ⟨⟨_, Heap.get?_push_size _ rfl, rfl, rfl⟩, hl.at fun o e => Heap.get?_push_of_some _ e⟩
  · intro E' i v m₁ news₁ s₁ hs1 hi hG hst hJ hoff F₁ N₁
    obtain ⟨R₁, sub₁⟩ := hJ
    obtain ⟨dv, hdv⟩ : ∃ dv, vs[i]? = some dv := ⟨vs[i], by simp [hi]⟩
    obtain ⟨v', hv', rv⟩ := rs.get hdv
    have e1 : items[i]? = some v' := by simpa using hv'
    have e2 : v = v' := by
      have : items[i]? = some v := hG
      rw [e1] at this
      exact (Option.some.inj this).symm
    subst e2
    have sR : ∀ p ∈ n1, p ∈ ownOf h₀ [h1.objs.size, ad] s₁.heap ++ news₁ := fun p hp => List.mem_append_right _ (sub₁ p hp)
    refine wpAny_assign_Name (store_ok a (by rw [hsc]; exact hx) F₁ N₁ (R₁.mono fun p hp => List.mem_append_right _ hp) (rv.mono sR) ?_)
    intro h2 t2 m2 F2 N2 R2
    refine turn i dv hdv A env h₀ m2 _ _ _ _ a hsc F2 N2 R2 ?_
    intro f h3 t3 m3 n3 F3 N3 s3 r3
    obtain ⟨rfl, r3⟩ := r3
    refine turn_end (fp := []) F3 N3 (fun p hp => s3 p (List.mem_append_left _ hp)) ⟨?_, ?_⟩
    · refine r3.sel fun p hp hd => mem_off hp fun hI => ?_
      have hI' : p.1 = h1.objs.size := List.mem_singleton.mp hI
      obtain ⟨oi, hoi, hcl, _⟩ := hst.1
      have m1 : (h1.objs.size, oi) ∈ ownOf h₀ [h1.objs.size, ad] s₁.heap := mem_ownOf (.head _) (next_is_new F1) hoi
      have g1 := (N3 _ (s3 _ (List.mem_append_left _ m1))).1
      have g2 := (N3 _ hp).1
      rw [hI', g1] at g2
      have : oi = p.2 := Option.some.inj g2
      rw [← this] at hd
      rcases hd with hd | hd <;> rw [hcl] at hd <;> exact absurd hd (by decide)
    · intro p hp
      exact mem_off (s3 p (sR p hp)) (by
        intro hI
        exact absurd (Heap.lt_size (N1 p hp).1) ((List.mem_singleton.mp hI) ▸ Nat.lt_irrefl _))
  · intro h' tk m' news' F' N' hJ
    exact q .next h' tk m' news' F' N' (fun p hp => hJ.2 p (s1 p hp)) ⟨rfl, hJ.1⟩
end
end Mine
end
section
set_option Elab.async false
set_option maxRecDepth 100000
set_option autoImplicit false
open PySem PySem.W PySem.Calls PyProof.Rows PySem.Spec
namespace Mine

theorem ib_neg {a : Int} : ib (-a) = ib a := by
  have e : (-a == 0) = (a == 0) := by
    rw [Bool.eq_iff_iff]
    simp
  unfold ib Builtin.Int.intBits
  rw [Int.natAbs_neg, e]
theorem Does.conv {prog : Program} {w : World} {K : Frag} {k : Nat} {sc : Scope} {e1 e1' e2 e2' : En} {t : Env → Sem Flow} (D : Does prog w K k sc e1 t (.next e2)) (h1 : ∀ p ∈ e1, e1'.lookup p.1 = some p.2) (h2 : ∀ p ∈ e2', e2.lookup p.1 = some p.2) : Does prog w K k sc e1' t (.next e2') := by
  intro A env h₀ m news s Q E a hsc F N R q
  refine D A env h₀ m news s Q E a hsc F N (R.some h1) ?_
  intro f h' tk' m' news' F' N' s' r
  obtain ⟨rfl, r⟩ := r
  exact q .next h' tk' m' news' F' N' s' ⟨rfl, r.some h2⟩
theorem sub_all {e en : En} (h : e.map (fun p => en.lookup p.1) = e.map (fun p => some p.2)) : ∀ p ∈ e, en.lookup p.1 = some p.2 := List.map_inj_left.mp h
def posT : Stmt → Pos
  | .For (.Name _ p) _ _ _ _ => p
  | .For (.Tuple _ _ p) _ _ _ _ => p
  | _ => default
def posS : Stmt → Pos
  | .For _ _ _ _ p => p
  | _ => default
def itE : Stmt → Expr
  | .For _ i _ _ _ => i
  | _ => default
def posE : Expr → Pos
  | .Name _ p => p
  | _ => default

variable {w : World} {k : Nat}
theorem for_sum : stm w 130 4 = .For (.Name (Str.ofString "x") (posT (stm w 130 4))) (.Name (Str.ofString "xs") (posE (itE (stm w 130 4)))) (sumBody w) [] (posS (stm w 130 4)) := by kernel_rfl!

section
variable {s M E : Int} {prec : Nat} {rnd : Str}
theorem sum_for {xs xo xx xb mx mm ee : Int} {e2 : En}
    (D : Dz w k 130 [(Str.ofString "absolute", V.bool false), (Str.ofString "rnd", V.str rnd), (Str.ofString "prec", V.int prec), (Str.ofString "man", V.int 0), (Str.ofString "exp", V.int 0), (Str.ofString "max_extra_prec", V.int mx), (Str.ofString "special", V.none), (Str.ofString "x", V.tup [V.int xs, V.int xo, V.int xx, V.int xb])] (sumBody w) (.next e2))
    (h : ∀ p ∈ ([(Str.ofString "absolute", V.bool false), (Str.ofString "rnd", V.str rnd), (Str.ofString "prec", V.int prec), (Str.ofString "man", V.int mm), (Str.ofString "exp", V.int ee), (Str.ofString "max_extra_prec", V.int mx), (Str.ofString "special", V.none)] : En), e2.lookup p.1 = some p.2) :
    Ez w k 130 [(Str.ofString "absolute", V.bool false), (Str.ofString "rnd", V.str rnd), (Str.ofString "prec", V.int prec), (Str.ofString "xs", V.lst [V.tup [V.int xs, V.int xo, V.int xx, V.int xb]]), (Str.ofString "man", V.int 0), (Str.ofString "exp", V.int 0), (Str.ofString "max_extra_prec", V.int mx), (Str.ofString "special", V.none)] (stm w 130 4) [(Str.ofString "absolute", V.bool false), (Str.ofString "rnd", V.str rnd), (Str.ofString "prec", V.int prec), (Str.ofString "man", V.int mm), (Str.ofString "exp", V.int ee), (Str.ofString "max_extra_prec", V.int mx), (Str.ofString "special", V.none)] := by
  show Does PG w (KK w) k (scp w 130) _ (exec (stm w 130 4)) _
  rw [for_sum]
  have G : Gives PG w (KK w) k (scp w 130) [(Str.ofString "absolute", V.bool false), (Str.ofString "rnd", V.str rnd), (Str.ofString "prec", V.int prec), (Str.ofString "xs", V.lst [V.tup [V.int xs, V.int xo, V.int xx, V.int xb]]), (Str.ofString "man", V.int 0), (Str.ofString "exp", V.int 0), (Str.ofString "max_extra_prec", V.int mx), (Str.ofString "special", V.none)]
      (eval (.Name (Str.ofString "xs") (posE (itE (stm w 130 4))))) (.lst [V.tup [V.int xs, V.int xo, V.int xx, V.int xb]]) := runE (n := 60) (ps := []) [] (by kernel_rfl!) trivial
  refine does_for (en := fun i => match i with
    | 0 => [(Str.ofString "absolute", V.bool false), (Str.ofString "rnd", V.str rnd), (Str.ofString "prec", V.int prec), (Str.ofString "xs", V.lst [V.tup [V.int xs, V.int xo, V.int xx, V.int xb]]), (Str.ofString "man", V.int 0), (Str.ofString "exp", V.int 0), (Str.ofString "max_extra_prec", V.int mx), (Str.ofString "special", V.none)]
    | _ => [(Str.ofString "absolute", V.bool false), (Str.ofString "rnd", V.str rnd), (Str.ofString "prec", V.int prec), (Str.ofString "man", V.int mm), (Str.ofString "exp", V.int ee), (Str.ofString "max_extra_prec", V.int mx), (Str.ofString "special", V.none)]) (by kernel_rfl!) (fun _ _ => rfl) G ?_
  intro i v hv
  cases i with
  | succ i => simp at hv
  | zero =>
    simp at hv
    subst hv
    exact D.conv (sub_all (by kernel_rfl!)) h
theorem c_sum (hM : 0 < M) (hs : Sg s) (hp : 1 ≤ prec) (hp2 : prec ≤ 20) (hr : Way rnd) (hb : ib M ≤ 900) : Cz w (k + 5) 130 [.lst [nm s M E], .int prec, .str rnd] (nr rnd prec s M E) := by
  obtain ⟨e1, e2, e3⟩ := od_tz hM
  have hib := ib_od hM
  have hbp := ib_pos e3
  have a1 := od_ne hM
  have a2 : decide (0 ≤ E + (tz M : Int)) = true ∨ decide (0 ≤ E + (tz M : Int)) = false := by cases decide (0 ≤ E + (tz M : Int)) <;> simp
  -- what the loop leaves
  have key : ∀ mm ee : Int, Ez w (k + 4) 130 [(Str.ofString "absolute", V.bool false), (Str.ofString "rnd", V.str rnd), (Str.ofString "prec", V.int prec), (Str.ofString "xs", V.lst [V.tup [V.int s, V.int (od M), V.int (E + tz M), V.int (ib (od M))]]), (Str.ofString "man", V.int 0), (Str.ofString "exp", V.int 0), (Str.ofString "max_extra_prec", V.int (prec * 2)), (Str.ofString "special", V.none)] (stm w 130 4) [(Str.ofString "absolute", V.bool false), (Str.ofString "rnd", V.str rnd), (Str.ofString "prec", V.int prec), (Str.ofString "man", V.int mm), (Str.ofString "exp", V.int ee), (Str.ofString "max_extra_prec", V.int (prec * 2)), (Str.ofString "special", V.none)] →
      mm ≠ 0 → ib (av mm) ≤ 1000 → nr rnd prec (sgv mm) (av mm) ee = nr rnd prec s M E → Cz w (k + 5) 130 [.lst [nm s M E], .int prec, .str rnd] (nr rnd prec s M E) := by
    intro mm ee D h0 h1 h2
    have hf := c_fme (w := w) (k := k) (E := ee) h0 hp hr h1
    rw [h2] at hf
    exact in_mpf_sum_3 (r_sum2 (xs := s) (xo := od M) (xx := E + tz M) (xb := ib (od M)) ⟨mulOk (by have := ib_mono (a := (prec : Int)) (b := 1000) (by omega) (by omega); have : ib 1000 ≤ 10 := (ib_le (by decide)).mpr (by decide); omega) (by decide), bne0 (by omega), D, rfl, hf, trivial⟩)
  have sgn : ∀ o : Int, 0 < o → sgv (-o) = 1 ∧ av (-o) = o ∧ sgv o = 0 ∧ av o = o := by
    intro o ho
    unfold sgv av
    refine ⟨if_pos (by omega), ?_, if_neg (by omega), if_neg (by omega)⟩
    rw [if_pos (by omega)]
    omega
  have hz : ((0 : Int) != 0) = false := rfl
  by_cases c1 : 0 ≤ E + (tz M : Int)
  · have d1 := decide_eq_true c1
    by_cases c2 : (prec : Int) * 2 < E + (tz M : Int) - 0
    · have d2 := decide_eq_true c2
      rcases hs with rfl | rfl
      · refine key (od M) (E + tz M) (sum_for (r_sumb_pa ⟨a1, rfl, d1, d2, hz, trivial⟩) (sub_all (by kernel_rfl!))) (by omega) ?_ ?_
        · rw [(sgn _ e3).2.2.2]; omega
        · rw [(sgn _ e3).2.2.1, (sgn _ e3).2.2.2, nr_od hM]
      · refine key (-(od M)) (E + tz M) (sum_for (r_sumb_ma ⟨a1, rfl, rfl, d1, d2, hz, trivial⟩) (sub_all (by kernel_rfl!))) (by omega) ?_ ?_
        · rw [(sgn _ e3).2.1]; omega
        · rw [(sgn _ e3).1, (sgn _ e3).2.1, nr_od hM]
    · have d2 := decide_eq_false c2
      have hpp := p2pos (Int.toNat (E + (tz M : Int) - 0))
      have hpo := Int.mul_pos e3 hpp
      have ej : ∀ j : Nat, (j : Int) = E + (tz M : Int) → nr rnd prec s (od M * 2 ^ j) 0 = nr rnd prec s M E := by
        intro j hj
        rw [nr_mul e3, ← nr_od hM]
        congr 1
        omega
      have hbits : ib (od M * 2 ^ Int.toNat (E + (tz M : Int) - 0)) ≤ 1000 := by
        rw [ib_mul e3]
        omega
      have e27 : (2 : Int) ^ 27 = 134217728 := by decide
      rcases hs with rfl | rfl
      · refine key (0 + od M * 2 ^ Int.toNat (E + (tz M : Int) - 0)) 0 (sum_for (r_sumb_pb ⟨a1, rfl, d1, d2, ⟨by omega, by rw [e27]; have : ib (od M) = Builtin.Int.intBits (od M) := rfl; omega⟩, trivial⟩) (sub_all (by kernel_rfl!))) (by omega) ?_ ?_
        · rw [Int.zero_add, (sgn _ hpo).2.2.2]; exact hbits
        · rw [Int.zero_add, (sgn _ hpo).2.2.2, (sgn _ hpo).2.2.1]
          exact ej _ (by omega)
      · refine key (0 + -(od M) * 2 ^ Int.toNat (E + (tz M : Int) - 0)) 0 (sum_for (r_sumb_mb ⟨a1, rfl, rfl, d1, d2, ⟨by omega, by rw [e27]; have : Builtin.Int.intBits (-(od M)) = ib (od M) := ib_neg; omega⟩, trivial⟩) (sub_all (by kernel_rfl!))) (by rw [Int.neg_mul]; omega) ?_ ?_
        · rw [Int.zero_add, Int.neg_mul, (sgn _ hpo).2.1]; exact hbits
        · rw [Int.zero_add, Int.neg_mul, (sgn _ hpo).1, (sgn _ hpo).2.1]
          exact ej _ (by omega)
  · have d1 := decide_eq_false c1
    by_cases c2 : (prec : Int) * 2 < -(E + (tz M : Int) - 0) - (ib (od M) : Int)
    · have d2 := decide_eq_true c2
      rcases hs with rfl | rfl
      · refine key (od M) (E + tz M) (sum_for (r_sumb_pc ⟨a1, rfl, d1, d2, hz, trivial⟩) (sub_all (by kernel_rfl!))) (by omega) ?_ ?_
        · rw [(sgn _ e3).2.2.2]; omega
        · rw [(sgn _ e3).2.2.1, (sgn _ e3).2.2.2, nr_od hM]
      · refine key (-(od M)) (E + tz M) (sum_for (r_sumb_mc ⟨a1, rfl, rfl, d1, d2, hz, trivial⟩) (sub_all (by kernel_rfl!))) (by omega) ?_ ?_
        · rw [(sgn _ e3).2.1]; omega
        · rw [(sgn _ e3).1, (sgn _ e3).2.1, nr_od hM]
    · have d2 := decide_eq_false c2
      have sh : ShOk 0 (-(E + (tz M : Int) - 0)) := by
        have e27 : (2 : Int) ^ 27 = 134217728 := by decide
        have z : Builtin.Int.intBits 0 = 0 := by decide
        exact ⟨by omega, by rw [e27, z]; omega⟩
      rcases hs with rfl | rfl
      · refine key (0 * 2 ^ Int.toNat (-(E + (tz M : Int) - 0)) + od M) (E + tz M) (sum_for (r_sumb_pd ⟨a1, rfl, d1, d2, sh, trivial⟩) (sub_all (by kernel_rfl!))) (by rw [Int.zero_mul]; omega) ?_ ?_
        · rw [Int.zero_mul, Int.zero_add, (sgn _ e3).2.2.2]; omega
        · rw [Int.zero_mul, Int.zero_add, (sgn _ e3).2.2.1, (sgn _ e3).2.2.2, nr_od hM]
      · refine key (0 * 2 ^ Int.toNat (-(E + (tz M : Int) - 0)) + -(od M)) (E + tz M) (sum_for (r_sumb_md ⟨a1, rfl, rfl, d1, d2, sh, trivial⟩) (sub_all (by kernel_rfl!))) (by rw [Int.zero_mul]; omega) ?_ ?_
        · rw [Int.zero_mul, Int.zero_add, (sgn _ e3).2.1]; omega
        · rw [Int.zero_mul, Int.zero_add, (sgn _ e3).1, (sgn _ e3).2.1, nr_od hM]
theorem c_roads (hM : 0 < M) (hs : Sg s) (hp : 1 ≤ prec) (hp2 : prec ≤ 20) (hr : Way rnd) (hb : ib M ≤ 900) : Cz w (k + 6) 219 [nm s M E, .int prec, .str rnd] (.lst (List.replicate 12 (nr rnd prec s M E))) := by
  refine in_law_roads_3 ?_
  have hb' : ib M ≤ 1000 := by omega
  have e3 := (od_tz hM).2.2
  have hib := ib_od_le hM
  have x1 := (c_pos (w := w) (k := k + 1) (E := E) hM hs hp hr hb')
  have x2 := (c_add_yz (w := w) (k := k + 1) (E := E) hM hs hp hr hb')
  have x3 := (c_add_zy (w := w) (k := k + 1) (E := E) hM hs hp hr hb')
  have x4 := (c_sub_yz (w := w) (k := k) (E := E) hM hs hp hr hb')
  have xn := (c_neg0 (w := w) (k := k + 4) (s := s) (E := E) hM)
  have x5 := (c_sub_zy (w := w) (k := k) (E := E) hM hs hp hr hb')
  have x6 := (c_mul_y1 (w := w) (k := k + 1) (E := E) hM hs hp hr hb')
  have x7 := (c_div_y1 (w := w) (k := k + 1) (E := E) hM hs hp hr hb')
  have x8 := (c_muli (w := w) (k := k + 1) (E := E) hM hs hp hr hb')
  have x9 := (c_sum (w := w) (k := k) (E := E) hM hs hp hp2 hr hb)
  have x10 := (c_neg (w := w) (k := k + 1) (s := 1 - s) (E := E) hM (sg_flip hs) hp hr hb')
  have x12 := (c_powi (w := w) (k := k) (E := E) hM hs hp hr hb')
  have ss : 1 - (1 - s) = s := by omega
  rw [ss] at x10
  rcases hs with rfl | rfl
  · have x11 := c_fme (w := w) (k := k + 1) (man := od M) (E := E + tz M) (prec := prec) (rnd := rnd) (by omega) hp hr (by unfold av; rw [if_neg (by omega)]; omega)
    have e1 : sgv (od M) = 0 := if_neg (by omega)
    have e2 : av (od M) = od M := if_neg (by omega)
    rw [e1, e2, nr_od hM] at x11
    exact r_roads_p ⟨x1, x2, x3, x4, xn, x5, x6, x7, x8, x9, xn, x10, rfl, x11, x12, trivial⟩
  · have x11 := c_fme (w := w) (k := k + 1) (man := -(od M)) (E := E + tz M) (prec := prec) (rnd := rnd) (by omega) hp hr (by
      have e : av (-(od M)) = od M := by unfold av; rw [if_pos (by omega)]; omega
      rw [e]
      omega)
    have e1 : sgv (-(od M)) = 1 := if_pos (by omega)
    have e2 : av (-(od M)) = od M := by unfold av; rw [if_pos (by omega)]; omega
    rw [e1, e2, nr_od hM] at x11
    exact r_roads_m ⟨x1, x2, x3, x4, xn, x5, x6, x7, x8, x9, xn, x10, rfl, x11, x12, trivial⟩
end

/-- does it round to the far one -/
def hiB (way : Str) (s M a : Int) (b : Nat) : Bool := if way = "n" then decide (2 ^ b < 2 * a ∨ (2 * a = 2 ^ b ∧ M % 2 = 1)) else outw way s
theorem c_high {s a r : Int} {p b : Nat} {way : Str} (hs : Sg s) (hr : Way way) (hp : 1 ≤ p) (hp2 : p ≤ 20) (hb : b ≤ 20) (ha : 0 < a) (ha2 : a < 2 ^ b) : Cz w (k + 2) 212 [.int a, .int b, .int r, .int p, .int s, .str way] (.bool (hiB way s (rM p r) a b)) := by
  refine in_law_higher_6 ?_
  by_cases hn : way = "n"
  · have hpp := p2pos (p - 1)
    have e1 : (1 : Int) * 2 ^ Int.toNat ((p : Int) - 1) = 2 ^ (p - 1) := by
      have : Int.toNat ((p : Int) - 1) = p - 1 := by omega
      rw [this, Int.one_mul]
    have e2 : (1 : Int) * 2 ^ Int.toNat (b : Int) = 2 ^ b := by rw [Int.toNat_natCast, Int.one_mul]
    have e3 : (2 : Int) ^ (p - 1) + Int.fmod r (2 ^ (p - 1)) = rM p r := by rw [Int.fmod_eq_emod_of_nonneg _ (by omega)]; rfl
    have e4 : Int.fmod (rM p r) 2 = rM p r % 2 := Int.fmod_eq_emod_of_nonneg _ (by omega)
    have h0 : (way != "n") = false := by rw [hn]; rfl
    have i1 : Builtin.Int.intBits 1 = 1 := ib_one
    have e27 : (2 : Int) ^ 27 = 134217728 := by decide
    have s1 : ShOk 1 ((p : Int) - 1) := ⟨by omega, by rw [e27, i1]; omega⟩
    have s2 : ShOk 1 (b : Int) := ⟨by omega, by rw [e27, i1]; omega⟩
    have n1 : (1 : Int) * 2 ^ Int.toNat ((p : Int) - 1) ≠ 0 := by rw [e1]; omega
    have mo : IntMulOk 2 a := mulOk (by decide) (by have := (ib_le (by omega : 0 ≤ a)).mpr ha2; omega)
    unfold hiB
    rw [if_pos hn]
    by_cases c1 : (2 : Int) ^ b < 2 * a
    · have x := r_high_a (q := true) (w := w) (k := k + 1) (way := way) (minus := s) (p := p) (rank := r) (b := b) (a := a) ⟨h0, s1, n1, by decide, mo, s2, by rw [e2]; exact decide_eq_true c1, trivial⟩
      rw [e2] at x
      have : decide ((2 : Int) ^ b < 2 * a) = decide (2 ^ b < 2 * a ∨ (2 * a = 2 ^ b ∧ rM p r % 2 = 1)) := by simp [c1]
      rw [this] at x
      exact x
    · by_cases c2 : 2 * a = (2 : Int) ^ b
      · have x := r_high_b (q := true) (w := w) (k := k + 1) (way := way) (minus := s) (p := p) (rank := r) (b := b) (a := a) ⟨h0, s1, n1, by decide, mo, s2, by rw [e2]; exact decide_eq_false c1, mo, s2, by rw [e2]; simpa using c2, trivial⟩
        rw [e1, e3, e4] at x
        have : (rM p r % 2 == 1) = decide (2 ^ b < 2 * a ∨ (2 * a = 2 ^ b ∧ rM p r % 2 = 1)) := by
          rw [Bool.eq_iff_iff]
          simp only [beq_iff_eq, decide_eq_true_eq]
          constructor
          · exact fun h => .inr ⟨c2, h⟩
          · rintro (h | h)
            · exact absurd h c1
            · exact h.2
        rw [this] at x
        exact x
      · have x := r_high_c (q := true) (w := w) (k := k + 1) (way := way) (minus := s) (p := p) (rank := r) (b := b) (a := a) ⟨h0, s1, n1, by decide, mo, s2, by rw [e2]; exact decide_eq_false c1, mo, s2, by rw [e2, beq_eq_false_iff_ne]; exact c2, trivial⟩
        rw [e2] at x
        have : (2 * a == (2 : Int) ^ b) = decide (2 ^ b < 2 * a ∨ (2 * a = 2 ^ b ∧ rM p r % 2 = 1)) := by
          rw [Bool.eq_iff_iff]
          simp only [beq_iff_eq, decide_eq_true_eq]
          constructor
          · exact fun h => absurd h c2
          · rintro (h | h)
            · exact absurd h c1
            · exact h.1
        rw [this] at x
        exact x
  · have h0 : (way != "n") = true := by rw [bne_iff_ne]; exact hn
    unfold hiB
    rw [if_neg hn]
    exact r_high_o ⟨h0, c_outw hs hr hn, trivial⟩
end Mine
end
section
set_option Elab.async false
set_option maxRecDepth 100000
set_option autoImplicit false
open PySem PySem.W PySem.Calls PyProof.Rows PySem.Spec
namespace Mine
theorem ns_range (w : World) : nsIn (KK w) mainGlobals (Str.ofString "range") = some none := by kernel_rfl!
theorem ns_enum (w : World) : nsIn (KK w) mainGlobals (Str.ofString "enumerate") = some none := by kernel_rfl!
theorem ns_all (w : World) : nsIn (KK w) mainGlobals (Str.ofString "all") = some none := by kernel_rfl!
theorem ns_type (w : World) : nsIn (KK w) mainGlobals (Str.ofString "type") = some none := by kernel_rfl!
theorem ns_abs (w : World) : nsIn (KK w) mainGlobals (Str.ofString "abs") = some none := by kernel_rfl!
theorem bt_range : bootBuiltins "range" = some (.type "range") := by decide +kernel

section
variable {w : World} {k : Nat} {sc : Scope}
theorem does_range {x : Str} {px pos cp fp : Pos} {e : Expr} {body : List Stmt} (en : Nat → En) (n : Nat) (hn : n ≤ 1000000) (hx : sc.names.lookup x = some .local) (hr : sc.names.lookup (Str.ofString "range") = some .globalImplicit)
    (hns : noStar e = true)
    (hit : Gives PG w (KK w) k sc (en 0) (eval e) (.int n))
    (turn : ∀ i, i < n → Does PG w (KK w) k sc ((en i).put x (.int i)) (execs body) (.next (en (i + 1)))) : Does PG w (KK w) k sc (en 0) (exec (.For (.Name x px) (.Call (.Name (Str.ofString "range") fp) [e] [] cp) body [] pos)) (.next (en n)) := by
  intro A env h₀ m news s Q E a hsc F N R q
  refine wpAny_For ?_ (fun _ => rfl)
  refine Call_ ?_
  refine builtin_name a F (by rw [hsc]; exact hr) (ns_range w) bt_range (by decide) (by decide) ?_
  refine Pv.callWith_type1 ?_ (starEach_plain hns) rfl
  refine spliced_more ?_ (starEach_plain hns)
  refine hit A env h₀ m news s _ E a hsc F N R ?_
  intro v1 h1 t1 n1 F1 N1 s1 r1
  refine spliced_none ?_
  cases r1
  rename_i tk
  refine call_range_1 ?_
  have hsz : Builtin.Range.rangeSize 0 (n : Int) 1 = n := by
    rw [rangeSize_one]
    split <;> omega
  refine wpAny_pyIter_range (IsRange.new h1 0 n 1 _ _ _) (small_one (by decide) (by decide) (by omega) (by omega)) ?_
  rw [hsz]
  have R1 := R.mono s1
  -- the heap: range object, then its iterator
  generalize hgA : ({ cls := .type "range", data := .fields #[.int 0 t1, .int n tk, .int 1 (t1 + 1)] } : Obj) = oR
  generalize hgB : ({ cls := .type "range_iterator", data := .fields #[rawInt 0, rawInt n, rawInt 1] } : Obj) = oI
  have W := Wk.ofWalks (x := x) (px := px) (Walks.range (prog := PG) (w := w) (A := A) a.hh (h1.push oR).objs.size 0 1 n)
  have F2 := F1.push oR
  have N2 : News h₀ env.locals (h1.push oR) n1 := fun p hp => ⟨Heap.get?_push_of_some _ (N1 p hp).1, (N1 p hp).2⟩
  refine loop_gen (R := fun r s' => match r with | .ok f => Q f s' | .error e => cameBackBy (model PG w) A env E e s') (h₀ := h₀) (m := m) (news := n1) W ?_ ?_ ?_ ?_ (F2.push _) (fun p hp => ⟨Heap.get?_push_of_some _ (N2 p hp).1, (N2 p hp).2⟩)
    (fun i m' news' => EnRep (KK w) news' m' (en i) ∧ (∀ p ∈ n1, p ∈ news')) ⟨R1, fun _ h => h⟩ ?_ ?_
  · intro hm
    exact absurd F2.ns.lt ((List.mem_singleton.mp hm) ▸ Nat.lt_irrefl _)
  · intro b hb
    rw [List.mem_singleton.mp hb]
    exact next_is_new F2
  · intro p hp hI
    exact absurd (Heap.lt_size (N2 p hp).1) ((List.mem_singleton.mp hI) ▸ Nat.lt_irrefl _)
  · have := Heap.get?_push_size (h1.push oR) (o := oI) (by subst hgB; rfl)
    show IsRangeIter _ _ _ _ _
    subst hgB
    simpa using this
  · intro E' i v m₁ news₁ s₁ hs1 hi hG hst hJ hoff F₁ N₁
    obtain ⟨R₁, sub₁⟩ := hJ
    obtain ⟨tv, rfl⟩ := hG
    have ev : (0 : Int) + (i : Int) * 1 = i := by omega
    rw [ev]
    have sR : ∀ p ∈ n1, p ∈ ownOf h₀ [(h1.push oR).objs.size] s₁.heap ++ news₁ := fun p hp => List.mem_append_right _ (sub₁ p hp)
    refine wpAny_assign_Name (store_ok a (by rw [hsc]; exact hx) F₁ N₁ (R₁.mono fun p hp => List.mem_append_right _ hp) .int ?_)
    intro h2 t2 m2 F3 N3 R2
    refine turn i hi A env h₀ m2 _ _ _ _ a hsc F3 N3 R2 ?_
    intro f h3 t3 m3 n3 F4 N4 s3 r3
    obtain ⟨rfl, r3⟩ := r3
    refine turn_end (fp := []) F4 N4 (fun p hp => s3 p (List.mem_append_left _ hp)) ⟨?_, ?_⟩
    · refine r3.sel fun p hp hd => mem_off hp fun hI => ?_
      have hI' : p.1 = (h1.push oR).objs.size := List.mem_singleton.mp hI
      have hst' : IsRangeIter _ _ _ _ _ := hst
      have m1 := mem_ownOf (fp := [(h1.push oR).objs.size]) (.head _) (next_is_new F2) hst'
      have g1 := (N4 _ (s3 _ (List.mem_append_left _ m1))).1
      have g2 := (N4 _ hp).1
      rw [hI', g1] at g2
      have e5 := Option.some.inj g2
      rw [← e5] at hd
      rcases hd with hd | hd <;> exact absurd hd (by simp)
    · intro p hp
      exact mem_off (s3 p (sR p hp)) (by
        intro hI
        exact absurd (Heap.lt_size (N2 p hp).1) ((List.mem_singleton.mp hI) ▸ Nat.lt_irrefl _))
  · intro h' tk m' news' F' N' hJ
    exact q .next h' tk m' news' F' N' (fun p hp => hJ.2 p (s1 p hp)) ⟨rfl, hJ.1⟩
end
end Mine
end
section
set_option Elab.async false
set_option maxRecDepth 100000
set_option autoImplicit false
open PySem PySem.W PySem.Calls PyProof.Rows PySem.Spec
namespace Mine
def argE : Expr → Expr
  | .Call _ (e :: _) _ _ => e
  | _ => default
def posF : Expr → Pos
  | .Call (.Name _ p) _ _ _ => p
  | _ => default
def posC : Expr → Pos
  | .Call _ _ _ p => p
  | _ => default
variable {w : World}
theorem for_climb : stm w 224 18 = .For (.Name (Str.ofString "_") (posT (stm w 224 18))) (.Call (.Name (Str.ofString "range") (posF (itE (stm w 224 18)))) [argE (itE (stm w 224 18))] [] (posC (itE (stm w 224 18)))) (climbB w) [] (posS (stm w 224 18)) := by kernel_rfl!
theorem climb_arg {k : Nat} {q last : Int} {fo ra : V} (h : All [ShOk 1 (q - 1)]) : Gives PG w (KK w) k (scp w 224) [(Str.ofString "q", V.int q), (Str.ofString "last", V.int last), (Str.ofString "foot", fo), (Str.ofString "raw", ra)] (eval (argE (itE (stm w 224 18)))) (.int (1 * 2 ^ Int.toNat (q - 1))) :=
  runE (n := 60) [] (by kernel_rfl!) h

theorem foot_rg {last : Int} {Q : Nat} (h : 1 ≤ Q) : nm 0 1 last = rg 0 Q ((last - ((Q - 1 : Nat) : Int)) * 2 ^ (Q - 1)) := by
  have hp := p2pos (Q - 1)
  rw [rg_of (M := 2 ^ (Q - 1)) (E := last - ((Q - 1 : Nat) : Int)) (by omega) (by omega) (by omega)]
  have e : (2 : Int) ^ (Q - 1) = 1 * 2 ^ (Q - 1) := by omega
  rw [e, nm_mul (by decide)]
  congr 1
  omega

theorem climb {last : Int} {Q : Nat} {ho : V} (hq : (Q : Int) = 1 + Int.fmod last 4) : Ez w 30 224 [(Str.ofString "last", V.int last), (Str.ofString "home", ho), (Str.ofString "raw", nm 0 1 last), (Str.ofString "q", V.int (1 + Int.fmod last 4)), (Str.ofString "foot", nm 0 1 last)] (stm w 224 18) [(Str.ofString "raw", nm 0 1 (last + 1)), (Str.ofString "foot", nm 0 1 last)] := by
  have f0 := Int.fmod_nonneg_of_pos last (by decide : (0 : Int) < 4)
  have f1 := Int.fmod_lt_of_pos last (by decide : (0 : Int) < 4)
  have h1 : 1 ≤ Q := by omega
  have h4 : Q ≤ 4 := by omega
  have hp := p2pos (Q - 1)
  have tn : Int.toNat ((Q : Int) - 1) = Q - 1 := by omega
  have nn : (1 : Int) * 2 ^ Int.toNat ((Q : Int) - 1) = ((2 ^ (Q - 1) : Nat) : Int) := by
    rw [tn, Int.one_mul]
    push_cast
    rfl
  have small : 2 ^ (Q - 1) ≤ 1000000 := by
    have : 2 ^ (Q - 1) ≤ 2 ^ 3 := Nat.pow_le_pow_right (by decide) (by omega)
    omega
  show Does PG w (KK w) 30 (scp w 224) _ (exec (stm w 224 18)) _
  rw [← hq, for_climb]
  generalize hr0 : (last - ((Q - 1 : Nat) : Int)) * 2 ^ (Q - 1) = r0
  have ef : nm 0 1 last = rg 0 Q r0 := by rw [← hr0]; exact foot_rg h1
  have eg : nm 0 1 (last + 1) = rg 0 Q (r0 + ((2 ^ (Q - 1) : Nat) : Int)) := by
    rw [foot_rg h1, ← hr0]
    congr 1
    have : last + 1 - ((Q - 1 : Nat) : Int) = last - ((Q - 1 : Nat) : Int) + 1 := by omega
    rw [this, Int.add_mul]
    push_cast
    omega
  have i1 : Builtin.Int.intBits 1 = 1 := ib_one
  have e27 : (2 : Int) ^ 27 = 134217728 := by decide
  have sh : ShOk 1 ((Q : Int) - 1) := ⟨by omega, by rw [i1, e27]; omega⟩
  have L := does_range (w := w) (k := 30) (sc := scp w 224) (x := Str.ofString "_") (px := posT (stm w 224 18)) (pos := posS (stm w 224 18)) (cp := posC (itE (stm w 224 18))) (fp := posF (itE (stm w 224 18))) (e := argE (itE (stm w 224 18))) (body := climbB w)
    (fun i => [(Str.ofString "q", V.int Q), (Str.ofString "last", V.int last), (Str.ofString "foot", rg 0 Q r0), (Str.ofString "raw", rg 0 Q (r0 + (i : Nat)))]) (2 ^ (Q - 1)) small (by kernel_rfl!) (by kernel_rfl!) (by kernel_rfl!)
    (by have g := climb_arg (w := w) (k := 30) (q := Q) (last := last) (fo := rg 0 Q r0) (ra := rg 0 Q (r0 + ((0 : Nat) : Int))) ⟨sh, trivial⟩
        rw [nn] at g
        exact g)
    (fun i hi => by
      have c1 := c_pert (w := w) (k := 25) (s := 0) (eps := 0) (p := Q) (r := r0 + i) (rnd := Str.ofString "c") (.inl rfl) (.inl rfl) h1 (by omega) (.inr (.inr (.inl rfl)))
      have e1 : stepI 0 0 (Str.ofString "c") = 1 := by decide
      rw [e1] at c1
      have c2 := c_lt (w := w) (k := 23) (s := 0) (M1 := rM Q (r0 + i)) (M2 := rM Q (r0 + i) + 1) (E := rE Q (r0 + i)) (rM_pos _ _) (by have := rM_pos Q (r0 + i); omega) (by rw [rM_ib h1]; omega) (by
        have := rM_hi h1 (r0 + i)
        have l0 := rM_pos Q (r0 + i)
        have : ib (rM Q (r0 + i) + 1) ≤ Q + 1 := (ib_le (by omega)).mpr (by rw [p2succ]; have := p2pos Q; omega)
        omega) (.inl rfl)
      rw [rg_succ h1] at c2
      have e2 : decide (cmpI 0 (rM Q (r0 + i)) (rM Q (r0 + i) + 1) < 0) = true := by
        unfold cmpI
        rw [if_neg (by omega), if_pos (by omega)]
        rfl
      rw [e2] at c2
      have D := l_c (w := w) (k := 30) (q := Q) (last := last) (i := i) (fo := rg 0 Q r0) ⟨c1, c2, rfl, trivial⟩
      refine D.conv (sub_all (by kernel_rfl!)) (sub_all ?_)
      have e3 : r0 + ((i + 1 : Nat) : Int) = r0 + (i : Int) + 1 := by omega
      rw [e3]
      kernel_rfl!)
  refine L.conv (sub_all ?_) (sub_all ?_)
  · rw [ef]
    have : r0 + ((0 : Nat) : Int) = r0 := by omega
    rw [this]
    kernel_rfl!
  · rw [ef, eg]
    kernel_rfl!

theorem same_self (v : V) : same v v = true := by unfold same; simp
theorem law_end {last : Int} {s r : Int} {p : Nat} : Dz w 30 224 [(Str.ofString "last", V.int last), (Str.ofString "home", rg s p r), (Str.ofString "raw", rg s p r)] (List.drop 14 (bdy w 224)) (.ret (.bool true)) := by
  have f0 := Int.fmod_nonneg_of_pos last (by decide : (0 : Int) < 4)
  obtain ⟨Q, hQ⟩ : ∃ Q : Nat, (Q : Int) = 1 + Int.fmod last 4 := ⟨(1 + Int.fmod last 4).toNat, by omega⟩
  have c1 : Cz w 30 153 [O1, .int last] (nm 0 1 last) := by
    have := c_shift (w := w) (k := 29) (s := 0) (M := 1) (E := 0) (n := last) (by decide)
    rw [nm_odd (o := 1) (by decide) (by decide), Int.zero_add] at this
    exact this
  have c2 := c_shift (w := w) (k := 29) (s := 0) (M := 1) (E := last) (n := 1) (by decide)
  have c3 := climb (w := w) (ho := rg s p r) hQ
  have D := l_end (w := w) (k := 30) ⟨by rw [same_self]; rfl, by decide, c1, c3, c2, trivial⟩
  exact (same_self (nm 0 1 (last + 1))) ▸ D
end Mine
end
section
set_option Elab.async false
set_option maxRecDepth 100000
set_option autoImplicit false
open PySem PySem.W PySem.Calls PyProof.Rows PySem.Spec
namespace Mine

section
variable {K : Frag} {news : List (Addr × Obj)}
theorem Reps.app : ∀ {a b : List Value} {c d : List V}, Reps K news a c → Reps K news b d → Reps K news (a ++ b) (c ++ d)
  | _, _, _, _, .nil, r => r
  | _, _, _, _, .cons h q, r => .cons h (Reps.app q r)
theorem Reps.rev : ∀ {a : List Value} {c : List V}, Reps K news a c → Reps K news a.reverse c.reverse
  | _, _, .nil => .nil
  | _, _, .cons h q => by
    rw [List.reverse_cons, List.reverse_cons]
    exact Reps.app (Reps.rev q) (.cons h .nil)
theorem Reps.drop : ∀ {a : List Value} {c : List V} (n : Nat), Reps K news a c → Reps K news (a.drop n) (c.drop n)
  | _, _, 0, r => by simpa using r
  | _, _, n + 1, .nil => by simpa using .nil
  | _, _, n + 1, .cons h q => by simpa using Reps.drop n q
theorem Has.neL {h₀ h : Heap} {L a : Addr} {o : Obj} (H : Has K news a o) (N : News h₀ L h news) (X : K.In h₀) (ab : h₀.objs.size ≤ L) : a ≠ L := by
  rcases H with m1 | m1
  · exact (N _ m1).2.1
  · intro e
    have g1 : a < h₀.objs.size := Heap.lt_size (X _ _ m1)
    exact absurd (Nat.lt_of_lt_of_le g1 ab) (e ▸ Nat.lt_irrefl _)
end

section
variable {prog : Program} {w : World} {K : Frag} {k : Nat} {sc : Scope}
theorem does_for2 {x y : Str} {px py pt pos : Pos} {kk : Nat} {iter : Expr} {body : List Stmt} {vs : List V} (en : Nat → En) (hx : sc.names.lookup x = some .local) (hy : sc.names.lookup y = some .local)
    (hs : ∀ env z, foldedSetIterable iter env z = pure z)
    (hit : Gives prog w K k sc (en 0) (eval iter) (.lst vs)) (hvs : ∀ (i : Nat) (v : V), vs[i]? = some v → ∃ a b, v = V.tup [a, b])
    (turn : ∀ (i : Nat) (a b : V), vs[i]? = some (.tup [a, b]) → Does prog w K k sc (((en i).put x a).put y b) (execs body) (.next (en (i + 1)))) : Does prog w K k sc (en 0) (exec (.For (.Tuple [.Name x px, .Name y py] kk pt) iter body [] pos)) (.next (en vs.length)) := by
  intro A env h₀ m news s Q E a hsc F N R q
  refine wpAny_For ?_ (hs env)
  refine hit A env h₀ m news s _ E a hsc F N R ?_
  intro v1 h1 t1 n1 F1 N1 s1 r1
  cases r1 with | lst H c d rs =>
  rename_i ad o items n
  have R1 := R.mono s1
  have X1 := a.In F1
  have ho := H.get N1 X1
  have hl : h1.IsList ad items := ⟨o, ho, c, n, d⟩
  refine wpAny_pyIter_list hl ?_
  have hlt : ad < h1.objs.size := Heap.lt_size ho
  have hne : ad ≠ h1.objs.size := Nat.ne_of_lt hlt
  have hlen : items.size = vs.length := by have := rs.length; simpa using this
  have hLlt := F1.ns.lt
  -- the tuples
  have each : ∀ j : Nat, ∃ tv : Addr × Array Value, j < items.size → items[j]? = some (.ref tv.1) ∧ h1.IsTuple tv.1 tv.2 ∧ tv.1 ≠ env.locals ∧ ∃ da db, vs[j]? = some (.tup [da, db]) ∧ Reps K n1 tv.2.toList [da, db] := by
    intro j
    by_cases hj : j < items.size
    · have hj' : j < vs.length := by omega
      have hv : vs[j]? = some vs[j] := by simp [hj']
      obtain ⟨da, db, hab⟩ := hvs j _ hv
      rw [hab] at hv
      obtain ⟨v', hv', rv⟩ := rs.get hv
      cases rv with | tup H2 c2 d2 r2 =>
      rename_i T o2 it2 n2
      refine ⟨(T, it2), fun _ => ⟨by simpa using hv', ⟨o2, H2.get N1 X1, c2, n2, d2⟩, H2.neL N1 a.X F1.above, da, db, hv, r2⟩⟩
    · exact ⟨(0, #[]), fun h => absurd h hj⟩
  obtain ⟨f, hf⟩ := Classical.skolem.mp each
  have W := Wk.ofU (elts := [.Name x px, .Name y py]) (kk := kk) (pos := pt) (WalksU.listOfTuples (prog := prog) (w := w) (A := A) a.hh h1.objs.size ad hne items (fun j => (f j).1) (fun j => (f j).2) (fun j hj => (hf j hj).1)
    (fun j hj => by
      obtain ⟨o3, ho3, _⟩ := (hf j hj).2.1
      exact Nat.ne_of_lt (Heap.lt_size ho3)))
  refine loop_gen (R := fun r s' => match r with | .ok f => Q f s' | .error e => cameBackBy (model prog w) A env E e s') (h₀ := h₀) (m := m) (news := n1) W ?_ ?_ ?_ ?_ (F1.push _) (fun p hp => ⟨Heap.get?_push_of_some _ (N1 p hp).1, (N1 p hp).2⟩)
    (fun i m' news' => EnRep K news' m' (en i) ∧ (∀ p ∈ n1, p ∈ news')) ⟨R1, fun _ h => h⟩ ?_ ?_
  · intro hm
    rcases List.mem_cons.mp hm with e | hm
    · exact absurd hLlt (e ▸ Nat.lt_irrefl _)
    · rcases List.mem_cons.mp hm with e | hm
      · exact H.neL N1 a.X F1.above e.symm
      · obtain ⟨j, hj, e⟩ := List.mem_map.mp hm
        exact (hf j (List.mem_range.mp hj)).2.2.1 e
  · intro b hb
    rw [List.mem_singleton.mp hb]
    exact next_is_new F1
  · intro p hp hI
    exact absurd (Heap.lt_size (N1 p hp).1) ((List.mem_singleton.mp hI) ▸ Nat.lt_irrefl _)
  · exact ⟨⟨_, Heap.get?_push_size _ rfl, rfl, rfl⟩, hl.at fun o e => Heap.get?_push_of_some _ e, fun j hj => (hf j hj).2.1.at fun o e => Heap.get?_push_of_some _ e⟩
  · intro E' i v m₁ news₁ s₁ hs1 hi hG hst hJ hoff F₁ N₁
    obtain ⟨R₁, sub₁⟩ := hJ
    obtain ⟨T, vals, rfl, hvals, hT⟩ := hG
    subst hvals
    obtain ⟨_, _, _, da, db, hd, hr⟩ := hf i hi
    have sR : ∀ p ∈ n1, p ∈ ownOf h₀ (h1.objs.size :: ad :: (List.range items.size).map fun j => (f j).1) s₁.heap ++ news₁ := fun p hp => List.mem_append_right _ (sub₁ p hp)
    generalize hown : ownOf h₀ (h1.objs.size :: ad :: (List.range items.size).map fun j => (f j).1) s₁.heap = own at *
    generalize hva : (f i).2 = va at hr hT
    obtain ⟨vl⟩ := va
    cases hr with | cons ra hr =>
    cases hr with | cons rb hr =>
    cases hr
    rename_i va vb
    refine wpAny_assign_Tuple a.hh hT rfl rfl fun h₃ hx₃ => ?_
    replace hx₃ : Heap.ExtBut s₁.heap.objs.size s₁.heap h₃ := hx₃
    have up₃ : ∀ b o, s₁.heap.get? b = some o → h₃.get? b = some o := fun b o x => hx₃ b o (Nat.ne_of_lt (Heap.lt_size x)) x
    have F₃ : Fr h₀ env.locals h₃ m₁ := ⟨F₁.ns.at' fun o e => up₃ _ o e, fun b o e => up₃ b o (F₁.keep b o e), F₁.above⟩
    have N₃ : News h₀ env.locals h₃ (own ++ news₁) := fun p hp => ⟨up₃ _ _ (N₁ p hp).1, (N₁ p hp).2⟩
    show wpAny _ A (do holding [vb] (assign (.Name x px) env va); do holding [] (assign (.Name y py) env vb); pure ()) _ _ _
    refine wpAny_bind (wpAny_holding (wpAny_assign_Name (store_ok (s := { s₁ with heap := h₃ }) a (by rw [hsc]; exact hx) F₃ N₃ (R₁.mono fun p hp => List.mem_append_right _ hp) (ra.mono sR) ?_)))
    intro h4 t4 m4 F4 N4 R4
    refine wpAny_bind (wpAny_holding (wpAny_assign_Name (store_ok a (by rw [hsc]; exact hy) F4 N4 R4 (rb.mono sR) ?_)))
    intro h5 t5 m5 F5 N5 R5
    refine wpAny_pure ?_
    refine turn i da db hd A env h₀ m5 _ _ _ _ a hsc F5 N5 R5 ?_
    intro fl h6 t6 m6 n6 F6 N6 s6 r6
    obtain ⟨rfl, r6⟩ := r6
    refine turn_end (s₁ := s₁) (fp := []) F6 N6 (fun p hp => s6 p (List.mem_append_left _ hp)) ⟨?_, ?_⟩
    · refine r6.sel fun p hp hd => mem_off hp fun hI => ?_
      have hI' : p.1 = h1.objs.size := List.mem_singleton.mp hI
      obtain ⟨oi, hoi, hcl, _⟩ := hst.1
      have m1 : (h1.objs.size, oi) ∈ own := hown ▸ mem_ownOf (.head _) (next_is_new F1) hoi
      have g1 := (N6 _ (s6 _ (List.mem_append_left _ m1))).1
      have g2 := (N6 _ hp).1
      rw [hI', g1] at g2
      have : oi = p.2 := Option.some.inj g2
      rw [← this] at hd
      rcases hd with hd | hd <;> rw [hcl] at hd <;> exact absurd hd (by decide)
    · intro p hp
      exact mem_off (s6 p (sR p hp)) (by
        intro hI
        exact absurd (Heap.lt_size (N1 p hp).1) ((List.mem_singleton.mp hI) ▸ Nat.lt_irrefl _))
  · intro h' tk m' news' F' N' hJ
    exact q .next h' tk m' news' F' N' (fun p hp => hJ.2 p (s1 p hp)) ⟨rfl, hlen ▸ hJ.1⟩

theorem slice_rev {x : Str} {p1 p2 p3 p4 p5 : Pos} {tl : List V} {en : En} (hn : Gives prog w K k sc en (eval (.Name x p1)) (.lst tl)) (hm : Gives prog w K k sc en (eval (.UnaryOp .USub (.Constant (.int 1) 0 p2) p3)) (.int (-1))) (hz : tl.length ≤ 1000) :
    Gives prog w K k sc en (eval (.Subscript (.Name x p1) (.Slice none none (some (.UnaryOp .USub (.Constant (.int 1) 0 p2) p3)) p4) p5)) (.lst tl.reverse) := by
  intro A env h₀ m news s Q E a hsc F N R q
  refine Subscript_ ?_
  refine hn A env h₀ m news s _ E a hsc F N R ?_
  intro v1 h1 t1 n1 F1 N1 s1 r1
  refine wpAny_Slice ?_
  rw [evalPart_none, evalPart_some]
  refine wpAny_pure (wpAny_pure ?_)
  refine hm A env h₀ m n1 _ _ E a hsc F1 N1 (R.mono s1) ?_
  intro v2 h2 t2 n2 F2 N2 s2 r2
  cases r2
  cases r1 with | lst H c d rs =>
  rename_i ad o items n
  have X2 := a.In F2
  have H2 := H.mono s2
  have hl : h2.IsList ad items := ⟨o, H2.get N2 X2, c, n, d⟩
  have hlen : items.size = tl.length := by have := rs.length; simpa using this
  refine krv_lit (s := ⟨h2, _, _, t2, _⟩) F2 N2 hl (IsPart.int _ _) rfl ?_ (by with_unfolding_all rfl) (by intro _; with_unfolding_all rfl) (by rw [sizeLine_eq]; omega)
  intro D h3 F3 N3 _
  exact q _ h3 t2 _ F3 N3 (fun p hp => .tail _ (s2 p (s1 p hp))) (.lst (.inl (.head _)) rfl rfl (by simpa using (rs.mono fun p hp => List.mem_cons_of_mem _ (s2 p hp)).rev))
end
end Mine
end
section
set_option Elab.async false
set_option maxRecDepth 100000
set_option autoImplicit false
open PySem PySem.W PySem.Calls PyProof.Rows PySem.Spec
namespace Mine
def fst2 : Stmt → Pos
  | .For (.Tuple (.Name _ p :: _) _ _) _ _ _ _ => p
  | _ => default
def snd2 : Stmt → Pos
  | .For (.Tuple (_ :: .Name _ p :: _) _ _) _ _ _ _ => p
  | _ => default
/-! what the trail keeps -/
inductive Op where
  | step (d : Int)
  | mirror
  | leap (n : Int)
def Op.v : Op → V
  | .step d => .tup [.str (Str.ofString "step"), .int d]
  | .mirror => .tup [.str (Str.ofString "mirror"), .int 0]
  | .leap n => .tup [.str (Str.ofString "leap"), .int n]
def Op.Ok : Op → Prop
  | .step d => d = 0 ∨ d = 1 ∨ d = -1
  | _ => True
def Op.fwd (p : Nat) : Int × Int → Op → Int × Int
  | (s, r), .step d => (s, r + d)
  | (s, r), .mirror => (1 - s, r)
  | (s, r), .leap n => (s, r + n * 2 ^ (p - 1))

theorem rg_leap {s r n : Int} {p : Nat} : rg s p (r + n * 2 ^ (p - 1)) = nm s (rM p r) (rE p r + n) := by
  have l := rM_lo p r
  have hp := p2pos (p - 1)
  have e := rk_eq p r
  have u : rM p r < 2 * 2 ^ (p - 1) := by
    have := Int.emod_lt_of_pos r hp
    unfold rM
    omega
  refine rg_of (by omega) u ?_
  rw [Int.add_mul]
  omega
variable {w : World}
theorem c_leap {s r n : Int} {p : Nat} {k : Nat} : Cz w (k + 1) 153 [rg s p r, .int n] (rg s p (r + n * 2 ^ (p - 1))) := by
  rw [rg_leap]
  exact c_shift (rM_pos p r)
theorem c_mirror {s r : Int} {p : Nat} {k : Nat} : Cz w (k + 1) 91 [rg s p r] (rg (1 - s) p r) := c_neg0 (rM_pos p r)

abbrev uen (p last s : Int) (ho ra : V) : En := [(Str.ofString "p", V.int p), (Str.ofString "last", V.int last), (Str.ofString "minus", V.int s), (Str.ofString "home", ho), (Str.ofString "raw", ra)]

theorem sg_fwd {p : Nat} {s r : Int} {o : Op} (hs : Sg s) : Sg (Op.fwd p (s, r) o).1 := by
  cases o
  · exact hs
  · exact sg_flip hs
  · exact hs

/-- one turn of the way back -/
theorem undo1 {p : Nat} (hp : 1 ≤ p) (hp2 : p ≤ 20) {last s r : Int} {ho : V} {o : Op} (ok : o.Ok) (hs : Sg s) {kd mu : V} (ho' : o.v = .tup [kd, mu]) :
    Dz w 30 224 (uen p last (Op.fwd p (s, r) o).1 ho (rg (Op.fwd p (s, r) o).1 p (Op.fwd p (s, r) o).2) ++ [(Str.ofString "kind", kd), (Str.ofString "much", mu)]) (undoB w) (.next (uen p last s ho (rg s p r))) := by
  have hu : Way (Str.ofString "u") := .inr (.inr (.inr (.inl rfl)))
  have hd : Way (Str.ofString "d") := .inr (.inr (.inr (.inr rfl)))
  cases o with
  | mirror =>
    simp only [Op.v, V.tup.injEq, List.cons.injEq, and_true] at ho'
    obtain ⟨rfl, rfl⟩ := ho'
    have c := c_mirror (w := w) (s := 1 - s) (r := r) (p := p) (k := 29)
    have D := l_u_m (w := w) (k := 30) (p := p) (last := last) (minus := 1 - s) (ho := ho) (much := 0) (kind := Str.ofString "mirror") ⟨by kernel_rfl!, c, trivial⟩
    have e : 1 - (1 - s) = s := by omega
    rw [e] at D
    exact D.conv (sub_all (by kernel_rfl!)) (sub_all (by kernel_rfl!))
  | leap n =>
    simp only [Op.v, V.tup.injEq, List.cons.injEq, and_true] at ho'
    obtain ⟨rfl, rfl⟩ := ho'
    have c := c_leap (w := w) (s := s) (r := r + n * 2 ^ (p - 1)) (n := -n) (p := p) (k := 29)
    have e : r + n * 2 ^ (p - 1) + -n * 2 ^ (p - 1) = r := by rw [Int.neg_mul]; omega
    rw [e] at c
    have D := l_u_l (w := w) (k := 30) (p := p) (last := last) (minus := s) (ho := ho) (much := n) (kind := Str.ofString "leap") ⟨by kernel_rfl!, by kernel_rfl!, c, trivial⟩
    exact D.conv (sub_all (by kernel_rfl!)) (sub_all (by kernel_rfl!))
  | step d =>
    simp only [Op.v, V.tup.injEq, List.cons.injEq, and_true] at ho'
    obtain ⟨rfl, rfl⟩ := ho'
    rcases ok with rfl | rfl | rfl
    · have D := l_u_z (w := w) (k := 30) (p := p) (last := last) (minus := s) (ho := ho) (ra := rg s p r) (much := 0) (kind := Str.ofString "step") ⟨by kernel_rfl!, by kernel_rfl!, by decide, by decide, trivial⟩
      refine D.conv (sub_all ?_) (sub_all (by kernel_rfl!))
      have : Op.fwd p (s, r) (.step 0) = (s, r) := by simp [Op.fwd]
      rw [this]
      kernel_rfl!
    · have c := c_pert (w := w) (k := 25) (s := s) (eps := 1 - s) (p := p) (r := r + 1) (rnd := Str.ofString "d") hs (sg_flip hs) hp hp2 hd
      have e : r + 1 + stepI s (1 - s) (Str.ofString "d") = r := by
        have : stepI s (1 - s) (Str.ofString "d") = -1 := by rcases hs with rfl | rfl <;> decide
        omega
      rw [e] at c
      have D := l_u_p (w := w) (k := 30) (p := p) (last := last) (minus := s) (ho := ho) (much := 1) (kind := Str.ofString "step") ⟨by kernel_rfl!, by kernel_rfl!, by decide, c, trivial⟩
      exact D.conv (sub_all (by kernel_rfl!)) (sub_all (by kernel_rfl!))
    · have c := c_pert (w := w) (k := 25) (s := s) (eps := s) (p := p) (r := r + -1) (rnd := Str.ofString "u") hs hs hp hp2 hu
      have e : r + -1 + stepI s s (Str.ofString "u") = r := by
        have : stepI s s (Str.ofString "u") = 1 := by rcases hs with rfl | rfl <;> decide
        omega
      rw [e] at c
      have D := l_u_d (w := w) (k := 30) (p := p) (last := last) (minus := s) (ho := ho) (much := -1) (kind := Str.ofString "step") ⟨by kernel_rfl!, by kernel_rfl!, by decide, by decide, c, trivial⟩
      exact D.conv (sub_all (by kernel_rfl!)) (sub_all (by kernel_rfl!))

theorem for_undo : stm w 224 13 = .For (.Tuple [.Name (Str.ofString "kind") (fst2 (stm w 224 13)), .Name (Str.ofString "much") (snd2 (stm w 224 13))] 0 (posT (stm w 224 13))) (itE (stm w 224 13)) (undoB w) [] (posS (stm w 224 13)) := by kernel_rfl!
end Mine
end
section
set_option Elab.async false
set_option maxRecDepth 100000
set_option autoImplicit false
open PySem PySem.W PySem.Calls PyProof.Rows PySem.Spec
namespace Mine
def sx1 : Expr → Pos
  | .Subscript (.Name _ p) _ _ => p
  | _ => default
def sx2 : Expr → Pos
  | .Subscript _ (.Slice _ _ (some (.UnaryOp _ (.Constant _ _ p) _)) _) _ => p
  | .Subscript _ (.Slice (some (.Constant _ _ p)) _ _ _) _ => p
  | .Subscript _ (.Slice _ (some (.Constant _ _ p)) _ _) _ => p
  | _ => default
def sx3 : Expr → Pos
  | .Subscript _ (.Slice _ _ (some (.UnaryOp _ _ p)) _) _ => p
  | _ => default
def sx4 : Expr → Pos
  | .Subscript _ (.Slice _ _ _ p) _ => p
  | _ => default
def sx5 : Expr → Pos
  | .Subscript _ _ p => p
  | _ => default
variable {w : World}
theorem it_undo : itE (stm w 224 13) = .Subscript (.Name (Str.ofString "trail") (sx1 (itE (stm w 224 13)))) (.Slice none none (some (.UnaryOp .USub (.Constant (.int 1) 0 (sx2 (itE (stm w 224 13)))) (sx3 (itE (stm w 224 13))))) (sx4 (itE (stm w 224 13)))) (sx5 (itE (stm w 224 13))) := by kernel_rfl!

abbrev ten (p span r s : Int) (ho ra : V) (tl : List V) : En := [(Str.ofString "p", V.int p), (Str.ofString "span", V.int span), (Str.ofString "rank", V.int r), (Str.ofString "minus", V.int s), (Str.ofString "home", ho), (Str.ofString "raw", ra), (Str.ofString "trail", V.lst tl), (Str.ofString "last", V.int r)]

theorem gives_rev {p span r s : Int} {ho ra : V} {tl : List V} (hz : tl.length ≤ 1000) : Gives PG w (KK w) 30 (scp w 224) (ten p span r s ho ra tl) (eval (itE (stm w 224 13))) (.lst tl.reverse) := by
  rw [it_undo]
  exact slice_rev (runE (n := 60) (ps := []) [] (by kernel_rfl!) trivial) (runE (n := 60) (ps := []) [] (by kernel_rfl!) trivial) hz

/-- where the trail stands after its first j entries -/
def at_ (p : Nat) (s0 r0 : Int) (ops : List Op) (j : Nat) : Int × Int := (ops.take j).foldl (Op.fwd p) (s0, r0)
theorem at_succ {p : Nat} {s0 r0 : Int} {ops : List Op} {j : Nat} {o : Op} (h : ops[j]? = some o) : at_ p s0 r0 ops (j + 1) = Op.fwd p (at_ p s0 r0 ops j) o := by
  unfold at_
  rw [List.take_add_one, h, List.foldl_append]
  rfl
theorem at_sg {p : Nat} {s0 r0 : Int} (hs : Sg s0) {ops : List Op} (j : Nat) : Sg (at_ p s0 r0 ops j).1 := by
  induction j with
  | zero => exact hs
  | succ j ih =>
    cases h : ops[j]? with
    | none =>
      have : at_ p s0 r0 ops (j + 1) = at_ p s0 r0 ops j := by
        unfold at_
        rw [List.take_add_one, h]
        simp
      rw [this]
      exact ih
    | some o =>
      rw [at_succ h]
      exact sg_fwd (r := (at_ p s0 r0 ops j).2) ih

theorem undo_all {p : Nat} (hp : 1 ≤ p) (hp2 : p ≤ 20) {s0 r0 span : Int} {ops : List Op} {ho : V} (hs : Sg s0) (ok : ∀ o ∈ ops, o.Ok) (hl : ops.length ≤ 1000) :
    Ez w 30 224 (ten p span (at_ p s0 r0 ops ops.length).2 (at_ p s0 r0 ops ops.length).1 ho (rg (at_ p s0 r0 ops ops.length).1 p (at_ p s0 r0 ops ops.length).2) (ops.map Op.v)) (stm w 224 13)
      [(Str.ofString "last", V.int (at_ p s0 r0 ops ops.length).2), (Str.ofString "home", ho), (Str.ofString "raw", rg s0 p r0)] := by
  generalize hlast : (at_ p s0 r0 ops ops.length).2 = last
  show Does PG w (KK w) 30 (scp w 224) _ (exec (stm w 224 13)) _
  have hG := gives_rev (w := w) (p := p) (span := span) (r := last) (s := (at_ p s0 r0 ops ops.length).1) (ho := ho) (ra := rg (at_ p s0 r0 ops ops.length).1 p last) (tl := ops.map Op.v) (by simpa using hl)
  rw [for_undo]
  have L := does_for2 (w := w) (prog := PG) (K := KK w) (k := 30) (sc := scp w 224) (x := Str.ofString "kind") (y := Str.ofString "much") (px := fst2 (stm w 224 13)) (py := snd2 (stm w 224 13)) (pt := posT (stm w 224 13)) (pos := posS (stm w 224 13)) (kk := 0) (iter := itE (stm w 224 13)) (body := undoB w) (vs := (ops.map Op.v).reverse)
    (fun i => match i with
      | 0 => ten p span last (at_ p s0 r0 ops ops.length).1 ho (rg (at_ p s0 r0 ops ops.length).1 p last) (ops.map Op.v)
      | i + 1 => uen p last (at_ p s0 r0 ops (ops.length - (i + 1))).1 ho (rg (at_ p s0 r0 ops (ops.length - (i + 1))).1 p (at_ p s0 r0 ops (ops.length - (i + 1))).2))
    (by kernel_rfl!) (by kernel_rfl!) (fun _ _ => by rw [it_undo]; rfl) hG
    (fun i v hv => by
      rw [← List.map_reverse, List.getElem?_map] at hv
      cases ho : ops.reverse[i]? with
      | none => rw [ho] at hv; cases hv
      | some o =>
        rw [ho] at hv
        cases hv
        cases o <;> exact ⟨_, _, rfl⟩)
    (fun i a b hv => by
      rw [← List.map_reverse, List.getElem?_map] at hv
      cases hoo : ops.reverse[i]? with
      | none => rw [hoo] at hv; cases hv
      | some o =>
        rw [hoo] at hv
        have hv' : o.v = .tup [a, b] := Option.some.inj hv
        have hi : i < ops.length := by
          have := (List.getElem?_eq_some_iff.mp hoo).1
          simpa using this
        have hj : ops[ops.length - (i + 1)]? = some o := by
          rw [List.getElem?_reverse (by omega)] at hoo
          rw [← hoo]
          congr 1
          omega
        have hom : o ∈ ops := List.mem_of_getElem? hj
        have e1 := at_succ (p := p) (s0 := s0) (r0 := r0) hj
        have e2 : ops.length - (i + 1) + 1 = ops.length - i := by omega
        rw [e2] at e1
        have U := undo1 (w := w) hp hp2 (last := last) (s := (at_ p s0 r0 ops (ops.length - (i + 1))).1) (r := (at_ p s0 r0 ops (ops.length - (i + 1))).2) (ho := ho) (ok o hom) (at_sg hs _) hv'
        rw [show ((at_ p s0 r0 ops (ops.length - (i + 1))).1, (at_ p s0 r0 ops (ops.length - (i + 1))).2) = at_ p s0 r0 ops (ops.length - (i + 1)) from rfl, ← e1] at U
        cases i with
        | zero =>
          rw [Nat.sub_zero, hlast] at U
          refine U.conv (sub_all (by kernel_rfl!)) (sub_all (by kernel_rfl!))
        | succ i =>
          refine U.conv (sub_all (by kernel_rfl!)) (sub_all (by kernel_rfl!)))
  refine L.conv (sub_all (by kernel_rfl!)) ?_
  have e : (ops.map Op.v).reverse.length = ops.length := by simp
  rw [e]
  have z : at_ p s0 r0 ops 0 = (s0, r0) := rfl
  cases hn : ops.length with
  | zero =>
    rw [hn] at hlast
    rw [z] at hlast ⊢
    subst hlast
    exact sub_all (by kernel_rfl!)
  | succ n =>
    show ∀ q : Str × V, q ∈ _ → List.lookup q.1 (uen p last (at_ p s0 r0 ops (n + 1 - (n + 1))).1 ho (rg (at_ p s0 r0 ops (n + 1 - (n + 1))).1 p (at_ p s0 r0 ops (n + 1 - (n + 1))).2)) = some q.2
    rw [Nat.sub_self, z]
    exact sub_all (by kernel_rfl!)

theorem tail_ok {p : Nat} (hp : 1 ≤ p) (hp2 : p ≤ 20) {s0 r0 span : Int} {ops : List Op} (hs : Sg s0) (ok : ∀ o ∈ ops, o.Ok) (hl : ops.length ≤ 1000) :
    Dz w 30 224 [(Str.ofString "p", V.int p), (Str.ofString "span", V.int span), (Str.ofString "rank", V.int (at_ p s0 r0 ops ops.length).2), (Str.ofString "minus", V.int (at_ p s0 r0 ops ops.length).1), (Str.ofString "home", rg s0 p r0), (Str.ofString "raw", rg (at_ p s0 r0 ops ops.length).1 p (at_ p s0 r0 ops ops.length).2), (Str.ofString "trail", V.lst (ops.map Op.v))]
      (List.drop 12 (bdy w 224)) (.ret (.bool true)) :=
  l_tail ⟨undo_all hp hp2 hs ok hl, law_end, trivial⟩
end Mine
end
section
set_option Elab.async false
set_option maxRecDepth 100000
set_option autoImplicit false
open PySem PySem.W PySem.Calls PyProof.Rows PySem.Spec
namespace Mine
section
variable {prog : Program} {w : World} {K : Frag} {k : Nat} {sc : Scope}
theorem append_stmt {A : Around} {env : Env} {h₀ : Heap} {m : Str → Option Value} {news : List (Addr × Obj)} {s : Shared} {Q : Flow → Shared → Prop} {E : Value → Shared → Prop} {en : En} {x : Str} {p1 ap pos ep : Pos} {arg : Expr} {tr : Addr} {rv : V} {its : Array Value} {n : Nat}
    (a : At w K k A env h₀) (hsc : env.scope = sc) (hl : (ap.endLine == pos.line) = true) (hns : noStar arg = true)
    (hn : Gives prog w K k sc en (eval (.Name x p1)) (.ref tr)) (harg : Gives prog w K k sc en (eval arg) rv)
    (F : Fr h₀ env.locals s.heap m) (N : News h₀ env.locals s.heap news) (R : EnRep K news m en) (hm : (tr, listOf its n) ∈ news) (hz : its.size ≤ 1000)
    (q : ∀ h' tk' news' val, Fr h₀ env.locals h' m → News h₀ env.locals h' ((tr, listOf (its.push val) (n + 1)) :: off [tr] news') → (∀ p ∈ news, p ∈ news') → (∀ p ∈ news', p.1 = tr → p.2 = listOf its n) → Rep K news' val rv → Q .next { s with heap := h', toks := tk' }) :
    wpAny (model prog w) A (exec (.Expr (.Call (.Attribute (.Name x p1) (Str.ofString "append") ap) [arg] [] pos) ep) env) Q E s := by
  have hi : interactive env = false := by
    obtain ⟨cn, cs', L, fa, ccd, cl, rfl, hk⟩ := a.fn
    unfold interactive
    simp [hk]
  refine wpAny_Expr ?_ hi (swapsWith_no rfl)
  have he : eval (.Call (.Attribute (.Name x p1) (Str.ofString "append") ap) [arg] [] pos) env = (do
      let ov ← eval (.Name x p1) env
      standAt ap.atName
      methodCall (.Name x p1) (Str.ofString "append") ap pos env ov 1 (backTo pos (starEach [arg] env)) []) := rfl
  rw [he]
  refine wpAny_bind ?_
  refine hn A env h₀ m news s _ E a hsc F N R ?_
  intro v1 h1 t1 n1 F1 N1 s1 r1
  cases r1
  refine wpAny_bind (wpAny_standAt ?_)
  unfold methodCall calleeOf methodCallPos
  refine wpAny_bind (wpAny_holding ?_)
  have hform : methodCallForm 1 (backTo pos (starEach [arg] env)) [] = true := by
    rw [starEach_plain hns]
    rfl
  rw [if_pos hform]
  refine listMethod_K N1 (s1 _ hm) PySem.F.slot_list_append PySem.F.type_list_append ?_
  refine wpAny_bind ?_
  rw [if_pos (by rw [hl, hform]; rfl)]
  refine wpAny_pure ?_
  refine callWith_method1 ?_ (starEach_plain hns) rfl
  refine spliced_more ?_ (starEach_plain hns)
  refine harg A env h₀ m n1 _ _ E a hsc F1 N1 (R.mono s1) ?_
  intro v2 h2 t2 n2 F2 N2 s2 r2
  refine spliced_none ?_
  have hm2 := s2 _ (s1 _ hm)
  have z := N2 _ hm2
  refine append_at (its := its) (n := n) (x := v2) (D := tr) z.1 (fun h3 hs ho => ?_) (by rw [sizeLine_eq]; omega)
  refine q h3 t2 n2 v2 (F2.change hs z.2.1 z.2.2) ?_ (fun p hp => s2 p (s1 p hp)) (fun p hp e => ?_) r2
  · intro p hp
    rcases List.mem_cons.mp hp with rfl | hp
    · exact ⟨ho, z.2⟩
    · have h5 : p.1 ≠ tr := by have := off_off p hp; simpa using this
      have h6 := N2 p (off_sub p hp)
      exact ⟨(hs.2 _ h5).trans h6.1, h6.2⟩
  · have h6 := (N2 p hp).1
    rw [e, z.1] at h6
    exact (Option.some.inj h6).symm
end
end Mine
end
section
set_option Elab.async false
set_option maxRecDepth 100000
set_option autoImplicit false
open PySem PySem.W PySem.Calls PyProof.Rows PySem.Spec
namespace Mine
theorem bt_all : bootBuiltins "all" = some (.builtin "all") := by boot_fast
theorem bt_type : bootBuiltins "type" = some (.type "type") := by boot_fast

abbrev tabO (ps : Array Value) : Obj := { cls := .none, data := .fields ps }
theorem code_any {M : Model} {A : Around} {E : Value → Shared → Prop} {s : Shared} {env : Env} {c P : Addr} {ps : Array Value} {pos : Pos} {qn : Str} {scope : Scope} {Q : Value → Shared → Prop}
    (hc : env.code = .ref c) (hok : s.heap.IsCode c P ps) (htab : s.heap.TableAt c P ps) (hps : codeAmong pos ps.toList = none ∨ ∃ c', codeAmong pos ps.toList = some (.ref c'))
    (hQ : ∀ c' h' tk ps', Heap.ExtBut P s.heap h' → s.heap.objs.size ≤ h'.objs.size → h'.IsCode c P ps' → h'.TableAt c P ps' → codeAmong pos ps'.toList = some (.ref c') → Q (.ref c') { s with heap := h', toks := tk }) :
    wpAny M A (genexprCode env pos qn scope) Q E s := by
  rcases hps with hn | ⟨c', hs⟩
  · refine wpAny_genexprCodeX hc hok htab hn fun c' h' tk hx h1 h2 hcode _ htab' _ => hQ c' h' tk _ hx (by omega) hcode htab' ?_
    obtain ⟨o, vs, file, tf, flags, tg, inF, text, tt, op, ho, hd, h11, h2, h7, h9, h10, hop, hpd, htr, hne⟩ := hok
    have := codeAmong_snoc (pos := pos) (c := .ref c') ps.toList htr hn
    simpa using this
  · obtain ⟨o, vs, file, tf, flags, tg, inF, text, tt, op, ho, hd, h11, h2, h7, h9, h10, hop, hpd, htr, hne⟩ := id hok
    unfold genexprCode codeAt
    rw [hc, if_neg (show ¬ ((Value.ref c == Value.none) = true) from Bool.false_ne_true)]
    refine wpAny_bind (wpAny_fieldsOf ho hd ?_)
    rw [h11]
    refine wpAny_bind (wpAny_fieldsOf hop hpd ?_)
    rw [hs]
    exact wpAny_pure (hQ c' s.heap s.toks ps (fun _ _ _ e => e) (Nat.le_refl _) hok htab hs)

section
variable {w : World} {k : Nat}
theorem gen_all {A : Around} {env : Env} {e : Heap} {m : Str → Option Value} {s : Shared} {Q E : Value → Shared → Prop} {c P bm : Addr} {ob : Obj} {mg : Str → Option Value} {ps : Array Value} {T : Addr} {items : Array Value}
    {p1 p2 p3 p4 p5 p6 pp pr gpos cpos : Pos} {scope : Scope}
    (a : At w (KK w) (k + 1) A env e) (hall : env.scope.names.lookup (Str.ofString "all") = some .globalImplicit) (hraw : env.scope.names.lookup (Str.ofString "raw") = some .local)
    (hsn : scope.names = [(Str.ofString ".0", .local), (Str.ofString "piece", .local), (Str.ofString "type", .globalImplicit), (Str.ofString "int", .globalImplicit)]) (hsk : scope.kind = .function) (hco : scope.isCoroutine = false)
    (hcode : env.code = .ref c) (M : BMod e mainGlobals mg bm ob) (hPL : P ≠ env.locals) (heP : e.get? P = none)
    (F : Fr e env.locals s.heap m) (G : AllBare s.gens) (C0 : s.heap.IsCode c P ps) (T0 : s.heap.TableAt c P ps) (hps : codeAmong gpos ps.toList = none ∨ ∃ c', codeAmong gpos ps.toList = some (.ref c'))
    (hm : m (Str.ofString "raw") = some (.ref T)) (hT : s.heap.IsTuple T items) (hints : ∀ (i : Nat) (v : Value), items[i]? = some v → ∃ z t, v = Value.int z t)
    (q : ∀ s' ps', s'.os = s.os → AllBare s'.gens → Fr e env.locals s'.heap m → (∀ b o, b ≠ P → s.heap.get? b = some o → s'.heap.get? b = some o) → s'.heap.IsCode c P ps' → s'.heap.TableAt c P ps' → (∃ c', codeAmong gpos ps'.toList = some (.ref c')) → Q (.bool true) s') :
    wpAny (model PG w) A (eval (.Call (.Name (Str.ofString "all") p1) [.GeneratorExp (.Compare (.Call (.Name (Str.ofString "type") p2) [.Name (Str.ofString "piece") p3] [] p4) [.Is] [.Name (Str.ofString "int") p5] p6) [⟨.Name (Str.ofString "piece") pp, .Name (Str.ofString "raw") pr, [], 0⟩] scope gpos] [] cpos) env) Q E s := by
  have X := a.X
  have hd := a.dep
  have hh := a.hh
  obtain ⟨pg, loose, mgt, mbt, tp⟩ := id a.T
  refine Call_ ?_
  refine builtin_name a F hall (ns_all w) bt_all (by decide) (by decide) ?_
  refine callWith_builtin1 ?_ rfl rfl
  refine spliced_more ?_ rfl
  have hLs := F.ns.lt
  have hab := F.above
  refine wpAny_GeneratorExp_walksQD (cl := []) hh hco ?_ ?_ ?_ ?_ hsk (by omega) ?_ (fun _ => rfl)
  · unfold closureFor
    rw [hsn]
    rfl
  · rw [hsn]; decide
  · rw [hsn]; rfl
  · rw [hsn]; rfl
  -- the source
  have hgl : env.globals = mainGlobals := by obtain ⟨cn, cs', L, fa, ccd, cl, rfl, hk⟩ := a.fn; rfl
  have hbi : env.builtins = builtinsNs := by obtain ⟨cn, cs', L, fa, ccd, cl, rfl, hk⟩ := a.fn; rfl
  have hnr : wpAny (model PG w) A (eval (.Name (Str.ofString "raw") pr) env) (fun v s' => v = .ref T ∧ s' = s) E s := by
    obtain ⟨cn, cs', L, fa, ccd, cl, rfl, hk⟩ := a.fn
    exact nameX_L F hm ⟨rfl, rfl⟩ hk hraw
  refine wpAny_mono hnr (fun v s' h => ?_) fun _ _ x => x
  obtain ⟨rfl, rfl⟩ := h
  have hlt : T < s'.heap.objs.size := by obtain ⟨_, z, _⟩ := hT; exact Heap.lt_size z
  have hPlt : P < s'.heap.objs.size := Heap.lt_size T0.2
  have hTP : T ≠ P := fun z => by
    obtain ⟨o, ho, hc, _⟩ := hT
    rw [z, T0.2] at ho; cases ho; exact absurd hc (by simp)
  refine wpAny_pyIter_tuple hT ?_
  generalize hit : ({ cls := .type "tuple_iterator", data := .fields #[.ref T, .int 0 0] } : Obj) = oI
  have up0 : ∀ b o, s'.heap.get? b = some o → (s'.heap.push oI).get? b = some o := fun b o z => Heap.get?_push_of_some _ z
  have hlim : (s'.heap.push oI).NoLimit := (tp.nolimit.keeps F.keep).push _
  refine ⟨hlim, ?_⟩
  refine code_any hcode (C0.keeps up0) (T0.keeps up0) hps fun c' h3 tk3 ps' hx3 hge hcode3 htab3 hfound => ?_
  have hge : (s'.heap.push oI).objs.size ≤ h3.objs.size := hge
  have hLs : env.locals < s'.heap.objs.size := F.ns.lt
  have hab : e.objs.size ≤ env.locals := F.above
  have hsz1 : (s'.heap.push oI).objs.size = s'.heap.objs.size + 1 := Heap.size_push ..
  have hcP : cStatics ≠ P := fun z => by
    obtain ⟨_, hns, _⟩ := hlim
    obtain ⟨o, es, ep, ho, hd, _⟩ := hns
    rw [z, (T0.keeps up0).2] at ho; cases ho; cases hd
  have hl3 : h3.NoLimit := hlim.extBut hx3 hcP
  have M3 : BMod h3 mainGlobals mg bm ob := ((M.keeps F.keep).keeps up0).extBut (T0.keeps up0) hx3
  have upe : ∀ b o, e.get? b = some o → h3.get? b = some o := fun b o z => hx3 b o (fun y => by rw [y, heP] at z; cases z) (up0 b o (F.keep b o z))
  have F3 : Fr e env.locals h3 m := ⟨F.ns.at' fun o z => hx3 _ o (Ne.symm hPL) (up0 _ o z), upe, hab⟩
  rw [hgl, hbi]
  refine wpAny_builtinsFor M3.ns M3.name M3.ne M3.obj M3.cls M3.dict M3.data ?_
  have hst3 : h3.IsTupleIter s'.heap.objs.size T 0 ∧ h3.IsTuple T items := by
    have z1 : (s'.heap.push oI).IsTupleIter s'.heap.objs.size T 0 := ⟨_, Heap.get?_push_size _ (by subst hit; rfl), by subst hit; rfl, by subst hit; rfl⟩
    have z2 : (s'.heap.push oI).IsTuple T items := hT.push _
    obtain ⟨o1, g1, r1⟩ := z1
    obtain ⟨o2, g2, r2⟩ := z2
    exact ⟨⟨o1, hx3 _ _ (Nat.ne_of_gt hPlt) g1, r1⟩, ⟨o2, hx3 _ _ hTP g2, r2⟩⟩
  refine ⟨s'.heap.objs.size, [s'.heap.objs.size, T], [s'.heap.objs.size], items.size, _, _, (fun _ => true), (fun _ y => y = .bool true), rfl,
    (fun A' hA => Walks.tuple hA _ _ (Nat.ne_of_lt hlt) items), hst3, ?_, hl3, ?_, ?_, ?_⟩
  · intro b hb
    show @LT.lt Nat _ b h3.objs.size
    rcases List.mem_cons.mp hb with rfl | hb
    · exact Nat.lt_of_lt_of_le (by omega) hge
    · rcases List.mem_cons.mp hb with rfl | hb
      · exact Nat.lt_of_lt_of_le (Nat.lt_of_lt_of_le hlt (by omega)) hge
      · cases hb
  · intro hmem
    have z := List.mem_singleton.mp hmem
    obtain ⟨_, hns, _⟩ := tp.nolimit
    have z2 : cStatics < e.objs.size := hns.lt
    exact absurd (Nat.lt_of_lt_of_le z2 (Nat.le_trans hab (Nat.le_of_lt hLs))) (z ▸ Nat.lt_irrefl _)
  · intro href hhref
    have inB : ∀ (t : Shared), (∀ b ∈ List.range h3.objs.size, b ∉ [s'.heap.objs.size] → ∀ o, href.get? b = some o → t.heap.get? b = some o) → ∀ b o, e.get? b = some o → t.heap.get? b = some o := fun t hkp b o z => by
      have z3 := upe b o z
      refine hkp b (List.mem_range.mpr (Heap.lt_size z3)) (fun hmem => ?_) o (hhref b o z3)
      have z4 : b < e.objs.size := Heap.lt_size z
      have z5 : b = s'.heap.objs.size := List.mem_singleton.mp hmem
      exact absurd (Nat.lt_of_lt_of_le z4 (Nat.le_trans hab (Nat.le_of_lt hLs))) (z5 ▸ Nat.lt_irrefl _)
    refine ⟨fun A' E' i v t m2 hA hD hU hP hn hmv hkp => wpAny_pure ⟨rfl, t.heap, t.toks, rfl, fun _ _ z => z⟩, fun A' E' i v t m2 hA hD hU hP _ hn hmv hkp => ?_⟩
    have kp := inB t hkp
    obtain ⟨z, tz, rfl⟩ := hints i v hP
    have glob : ∀ {x : Str} {px : Pos} {bv : Value} {Q' : Value → Shared → Prop} {E'' : Value → Shared → Prop} {tt : Shared}, (∀ b o, e.get? b = some o → tt.heap.get? b = some o) → scope.names.lookup x = some .globalImplicit → nsIn (KK w) mainGlobals x = some none → bootBuiltins x = some bv → x ≠ "__name__" → (x == ("__debug__" : Str)) = false → Q' bv tt →
        wpAny (model PG w) A' (eval (.Name x px) (genEnv scope [] h3.objs.size (.ref c') builtinsNs env)) Q' E'' tt := by
      intro x px bv Q' E'' tt kt hx hns hb hnm hdb hq
      refine Name_function_global hsk hx (loadGlobal_builtin (env := genEnv scope [] h3.objs.size (.ref c') builtinsNs env) (mg := mgt) (mb := mbt) ?_ (mg_none_of X tp.g hns) (tp.b.keeps kt) ((tp.builtins x hnm).trans hb) hq) hdb
      show tt.heap.Ns env.globals mgt
      rw [hgl]
      exact tp.g.keeps kt
    refine wpAny_Compare1 ?_ rfl
    refine Call_ ?_
    refine glob kp (by rw [hsn]; rfl) (ns_type w) bt_type (by decide) (by decide) ?_
    refine Pv.callWith_type1 ?_ rfl rfl
    refine spliced_more ?_ rfl
    refine wpAny_Name (wpAny_loadName_local hsk (by show scope.names.lookup _ = _; rw [hsn]; rfl) hn hmv ?_) (by decide)
    refine spliced_none ?_
    refine call_type_of (Tx := "int") rfl (by decide) ?_
    refine glob kp (by rw [hsn]; rfl) ((tab_ok w).int) boot_int' (by decide) (by decide) ?_
    exact wpAny_is_self rfl ⟨rfl, t.heap, t.toks, rfl, fun _ _ z => z⟩
  · intro ga h5 tk gs hgb hag hsz5 hk5 W hat
    refine spliced_none ?_
    have up5 : ∀ b o, b ≠ P → s'.heap.get? b = some o → h5.get? b = some o := fun b o hb z => hk5 b o (hx3 b o hb (up0 b o z))
    refine all_rowsK (h₀ := e) (L := env.locals) (m := m) (K := s'.heap.objs.size - 1) (F3.keeps hk5) (G.push hgb) ⟨_, _, _, _, W, hat, (fun i s' st => st.1.typeIs), List.mem_cons_self, ?_, ?_⟩ (Nat.le_sub_one_of_lt hLs) (fun _ => true) (fun i v s Q E hv hQ => ?_) ?_
    · intro b hb
      show @LT.lt Nat _ b h5.objs.size
      rw [hsz5]
      have ag : h3.objs.size < ga := hag
      rcases List.mem_cons.mp hb with rfl | hb
      · exact Nat.lt_succ_self _
      · rcases List.mem_cons.mp hb with rfl | hb
        · exact Nat.lt_succ_of_lt ag
        · exact Nat.lt_succ_of_lt (Nat.lt_trans (List.mem_range.mp hb) ag)
    · intro b hb
      have z9 : s'.heap.objs.size - 1 < s'.heap.objs.size := Nat.sub_lt (Nat.lt_of_le_of_lt (Nat.zero_le _) hLs) (by decide)
      rcases List.mem_cons.mp hb with rfl | hb
      · exact Nat.lt_of_lt_of_le z9 (Nat.le_trans (by omega) hge)
      · rw [List.mem_singleton.mp hb]
        exact z9
    · obtain ⟨_, _, rfl⟩ := hv
      exact wpAny_truthy_bool hQ
    · intro s6 F6 G6 hos hk6
      have hall' : (List.range (passing (fun _ => true) items.size 0).length).all (fun _ => true) = true := by simp
      rw [hall']
      have hk7 : ∀ b o, b < s'.heap.objs.size → h5.get? b = some o → s6.heap.get? b = some o := fun b o hb z => hk6 b o (Nat.le_sub_one_of_lt hb) z
      have hclt : c < s'.heap.objs.size := by
        obtain ⟨⟨o, vs, g1, _⟩, _⟩ := T0
        exact Heap.lt_size g1
      obtain ⟨o, vs, file, tf, flags, tg, inF, text, tt, op, ho, hdd, h11, h2, h7, h9, h10, hop, hpd, htr, hne⟩ := hcode3
      obtain ⟨⟨o', vs', g1, g2⟩, g3⟩ := htab3
      refine q s6 ps' hos G6 F6 (fun b o hb z => hk7 b o (Heap.lt_size z) (up5 b o hb z)) ?_ ?_ ⟨c', hfound⟩
      · exact ⟨o, vs, file, tf, flags, tg, inF, text, tt, op, hk7 _ _ hclt (hk5 _ _ ho), hdd, h11, h2, h7, h9, h10, hk7 _ _ hPlt (hk5 _ _ hop), hpd, htr, hne⟩
      · exact ⟨⟨o', vs', hk7 _ _ hclt (hk5 _ _ g1), g2⟩, hk7 _ _ hPlt (hk5 _ _ g3)⟩
end
end Mine
end
section
set_option Elab.async false
set_option maxRecDepth 100000
set_option autoImplicit false
open PySem PySem.W PySem.Calls PyProof.Rows PySem.Spec
namespace Mine
section
variable {w : World} {s a r : Int} {p b : Nat}

theorem p2_le {m n : Nat} (h : m ≤ n) : (2 : Int) ^ m ≤ 2 ^ n := by
  have e : n = m + (n - m) := by omega
  rw [e, p2add]
  have h1 := p2pos m
  have h2 := p2pos (n - m)
  have : (2 : Int) ^ m * 1 ≤ 2 ^ m * 2 ^ (n - m) := Int.mul_le_mul_of_nonneg_left (by omega) (by omega)
  omega
theorem sgv_up {s x y : Int} (hs : Sg s) (h : 0 < x + y) : sgv (sv s x + sv s y) = s ∧ av (sv s x + sv s y) = x + y ∧ sv s x + sv s y ≠ 0 := by
  unfold sgv av sv
  rcases hs with rfl | rfl
  · simp only [if_neg (by decide : ¬ (0 : Int) = 1)]
    rw [if_neg (by omega), if_neg (by omega)]
    exact ⟨rfl, rfl, by omega⟩
  · simp only [if_true]
    rw [if_pos (by omega), if_pos (by omega)]
    exact ⟨rfl, by omega, by omega⟩
theorem sgv_dn {s x y : Int} (hs : Sg s) (h : y < x) : sgv (sv s x + sv (1 - s) y) = s ∧ av (sv s x + sv (1 - s) y) = x - y ∧ sv s x + sv (1 - s) y ≠ 0 := by
  unfold sgv av sv
  rcases hs with rfl | rfl
  · simp only [if_neg (by decide : ¬ (0 : Int) = 1), Int.sub_zero, if_true]
    rw [if_neg (by omega), if_neg (by omega)]
    exact ⟨rfl, by omega, by omega⟩
  · simp only [if_true, Int.sub_self, if_neg (by decide : ¬ (0 : Int) = 1)]
    rw [if_pos (by omega), if_pos (by omega)]
    exact ⟨rfl, by omega, by omega⟩

variable (hs : Sg s) (hp : 1 ≤ p) (hp2 : p ≤ 20)
include hs hp hp2
theorem ib_next : ib (rM p r + 1) ≤ 21 := by
  have l := rM_pos p r
  have u := rM_hi hp r
  have := p2_le (m := p) (n := 20) hp2
  exact (ib_le (by omega)).mpr (by have : (2 : Int) ^ 21 = 2 * 2 ^ 20 := by decide
                                   omega)
theorem y_gap : Cz w 30 122 [rg s p (r + 1), rg s p r] (mp s 1 (rE p r) 1) := by
  obtain ⟨h1, h2, h3⟩ := sgv_dn hs (by omega : rM p r < rM p r + 1)
  have c := c_sub2 (w := w) (k := 25) (s1 := s) (s2 := s) (M1 := rM p r + 1) (M2 := rM p r) (E := rE p r) (by have := rM_pos p r; omega) (rM_pos p r) (by have := ib_next (r := r) hs hp hp2; omega) (by rw [rM_ib hp]; omega) hs hs h3
  rw [h1, h2] at c
  have e : rM p r + 1 - rM p r = 1 := by omega
  rw [e, nm_odd (o := 1) (by decide) (by decide), rg_succ hp] at c
  have e1 : ib 1 = 1 := ib_one
  rw [e1] at c
  exact c

variable (hb : b ≤ 20) (ha : 0 < a) (ha2 : a < 2 ^ b)
include hb ha ha2
theorem a_ib : ib a ≤ 20 := by
  have := (ib_le (by omega : 0 ≤ a)).mpr ha2
  omega
theorem y_fme : Cz w 30 53 [.int a, .int (-(b : Int))] (nm 0 a (-(b : Int))) := c_fme0 (k := 28) ha
theorem y_mul : Cz w 30 138 [mp s 1 (rE p r) 1, nm 0 a (-(b : Int))] (nm s a (rE p r - b)) := by
  have hab := a_ib hs hp hp2 hb ha ha2
  have c := c_mul0 (w := w) (k := 29) (s := s) (M := 1) (E := rE p r) (s2 := 0) (M2 := a) (E2 := -(b : Int)) (by decide) ha hs (.inl rfl) (by decide) (by omega)
  rw [nm_odd (o := 1) (by decide) (by decide), (sub_xor hs (.inl rfl)).2.1 rfl, Int.one_mul] at c
  have e1 : ib 1 = 1 := ib_one
  rw [e1] at c
  exact c
/-- the number between -/
theorem Y_bits : ib (rM p r * 2 ^ b + a) = p + b := by
  have hM := rM_pos p r
  have l := rM_lo p r
  have u := rM_hi hp r
  have hbp := p2pos b
  have e1 : (2 : Int) ^ (p + b - 1) ≤ rM p r * 2 ^ b + a := by
    have e : p + b - 1 = p - 1 + b := by omega
    rw [e, p2add]
    have := Int.mul_le_mul_of_nonneg_right l (Int.le_of_lt hbp)
    omega
  have e2 : rM p r * 2 ^ b + a < 2 ^ (p + b) := by
    rw [p2add]
    have h1 : rM p r + 1 ≤ 2 ^ p := by omega
    have := Int.mul_le_mul_of_nonneg_right h1 (Int.le_of_lt hbp)
    rw [Int.add_mul] at this
    omega
  have := ib_eq (M := rM p r * 2 ^ b + a) (n := p + b - 1) e1 (by rw [show p + b - 1 + 1 = p + b by omega]; exact e2)
  omega
theorem near_y : rg s p r = nm s (rM p r * 2 ^ b) (rE p r - b) := by
  rw [nm_mul (rM_pos p r)]
  unfold rg
  congr 1
  omega
theorem far_y : rg s p (r + 1) = nm s ((rM p r + 1) * 2 ^ b) (rE p r - b) := by
  rw [nm_mul (by have := rM_pos p r; omega), ← rg_succ hp]
  congr 1
  omega
theorem near_pos : 0 < rM p r * 2 ^ b ∧ ib (rM p r * 2 ^ b) ≤ 64 := by
  refine ⟨Int.mul_pos (rM_pos p r) (p2pos b), ?_⟩
  rw [ib_mul (rM_pos p r), rM_ib hp]
  omega
theorem far_pos : 0 < (rM p r + 1) * 2 ^ b ∧ ib ((rM p r + 1) * 2 ^ b) ≤ 64 := by
  have h := rM_pos p r
  refine ⟨Int.mul_pos (by omega) (p2pos b), ?_⟩
  rw [ib_mul (by omega)]
  have := ib_next (r := r) hs hp hp2
  omega
theorem Y_lt : rM p r * 2 ^ b < rM p r * 2 ^ b + a ∧ rM p r * 2 ^ b + a < (rM p r + 1) * 2 ^ b := by
  rw [Int.add_mul]
  omega
theorem y_add : Cz w 30 114 [rg s p r, nm s a (rE p r - b)] (nm s (rM p r * 2 ^ b + a) (rE p r - b)) := by
  have hn := near_pos (r := r) hs hp hp2 hb ha ha2
  have hab := a_ib hs hp hp2 hb ha ha2
  obtain ⟨h1, h2, h3⟩ := sgv_up hs (by omega : 0 < rM p r * 2 ^ b + a)
  have c := c_add2 (w := w) (k := 26) (s1 := s) (s2 := s) (E := rE p r - b) hn.1 ha hn.2 (by omega) hs hs h3
  rw [h1, h2, ← near_y hs hp hp2 hb ha ha2] at c
  exact c
theorem y_right {way : Str} (hr : Way way) : nr way p s (rM p r * 2 ^ b + a) (rE p r - b) = if hiB way s (rM p r) a b = true then rg s p (r + 1) else rg s p r := by
  have hY := Y_bits (r := r) hs hp hp2 hb ha ha2
  have hbp := p2pos b
  have hb1 : 1 ≤ b := by
    apply Nat.pos_of_ne_zero
    rintro rfl
    simp at ha2
    omega
  have ediv : (rM p r * 2 ^ b + a) / 2 ^ b = rM p r := by
    rw [Int.add_comm, Int.add_mul_ediv_right _ _ (by omega), Int.ediv_eq_zero_of_lt (by omega) ha2]
    omega
  have emod : (rM p r * 2 ^ b + a) % 2 ^ b = a := by
    rw [Int.add_comm, Int.add_mul_emod_self_right, Int.emod_eq_of_lt (by omega) ha2]
  have eneg : -(-(rM p r * 2 ^ b + a) / 2 ^ b) = rM p r + 1 := by
    have : -(rM p r * 2 ^ b + a) / 2 ^ b = -(rM p r + 1) := by
      have e : -(rM p r * 2 ^ b + a) = (2 ^ b - a) + (-(rM p r + 1)) * 2 ^ b := by
        rw [Int.neg_mul, Int.add_mul]
        omega
      rw [e, Int.add_mul_ediv_right _ _ (by omega), Int.ediv_eq_zero_of_lt (by omega) (by omega)]
      omega
    rw [this]
    omega
  have rqe : rq way s (rM p r * 2 ^ b + a) b = if hiB way s (rM p r) a b = true then rM p r + 1 else rM p r := by
    unfold rq hiB
    rw [ediv, emod, eneg]
    by_cases hn : way = "n"
    · rw [if_pos hn, if_pos hn]
      simp only [decide_eq_true_eq]
    · rw [if_neg hn, if_neg hn]
  have e1 : ib (rM p r * 2 ^ b + a) - p = b := by omega
  have e2 : rE p r - (b : Int) + (b : Int) = rE p r := by omega
  unfold nr
  rw [if_neg (by omega), e1, rqe, e2]
  split
  · exact rg_succ hp r
  · rfl
theorem y_roads {way : Str} (hr : Way way) : Cz w 30 219 [nm s (rM p r * 2 ^ b + a) (rE p r - b), .int p, .str way] (.lst (List.replicate 12 (if hiB way s (rM p r) a b = true then rg s p (r + 1) else rg s p r))) := by
  have hn := near_pos (r := r) hs hp hp2 hb ha ha2
  have c := c_roads (w := w) (k := 24) (s := s) (M := rM p r * 2 ^ b + a) (E := rE p r - b) (prec := p) (rnd := way) (by omega) hs hp hp2 hr (by rw [Y_bits hs hp hp2 hb ha ha2]; omega)
  rw [y_right hs hp hp2 hb ha ha2 hr] at c
  exact c
theorem Y_ib : ib (rM p r * 2 ^ b + a) ≤ 64 := by rw [Y_bits hs hp hp2 hb ha ha2]; omega
theorem cmp_lt {x y : Int} (h : x < y) : cmpI s x y = (if s = 1 then 1 else -1) ∧ cmpI s y x = -(if s = 1 then 1 else -1) := by
  unfold cmpI
  rw [if_neg (by omega : ¬ x = y), if_pos h, if_neg (by omega : ¬ y = x), if_neg (by omega : ¬ y < x)]
  refine ⟨rfl, ?_⟩
  split <;> rfl
theorem y_cmp : Cz w 30 68 [rg s p r, nm s (rM p r * 2 ^ b + a) (rE p r - b)] (.int (if s = 1 then 1 else -1)) ∧
    Cz w 30 68 [nm s (rM p r * 2 ^ b + a) (rE p r - b), rg s p (r + 1)] (.int (if s = 1 then 1 else -1)) ∧
    Cz w 30 68 [rg s p (r + 1), nm s (rM p r * 2 ^ b + a) (rE p r - b)] (.int (-(if s = 1 then 1 else -1))) := by
  have hn := near_pos (r := r) hs hp hp2 hb ha ha2
  have hf := far_pos (r := r) hs hp hp2 hb ha ha2
  have hy := Y_ib (r := r) hs hp hp2 hb ha ha2
  obtain ⟨l1, l2⟩ := Y_lt (r := r) hs hp hp2 hb ha ha2
  have c1 := c_cmp (w := w) (k := 24) (s := s) (E := rE p r - b) hn.1 (by omega : 0 < rM p r * 2 ^ b + a) hn.2 hy hs
  have c2 := c_cmp (w := w) (k := 24) (s := s) (E := rE p r - b) (by omega : 0 < rM p r * 2 ^ b + a) hf.1 hy hf.2 hs
  have c3 := c_cmp (w := w) (k := 24) (s := s) (E := rE p r - b) hf.1 (by omega : 0 < rM p r * 2 ^ b + a) hf.2 hy hs
  rw [← near_y hs hp hp2 hb ha ha2, (cmp_lt hs hp hp2 hb ha ha2 l1).1] at c1
  rw [← far_y hs hp hp2 hb ha ha2, (cmp_lt hs hp hp2 hb ha ha2 l2).1] at c2
  rw [← far_y hs hp hp2 hb ha ha2, (cmp_lt hs hp hp2 hb ha ha2 l2).2] at c3
  exact ⟨c1, c2, c3⟩
theorem y_dist : Cz w 30 122 [nm s (rM p r * 2 ^ b + a) (rE p r - b), rg s p r] (nm s a (rE p r - b)) ∧ Cz w 30 99 [nm s a (rE p r - b)] (nm 0 a (rE p r - b)) ∧
    Cz w 30 122 [rg s p (r + 1), nm s (rM p r * 2 ^ b + a) (rE p r - b)] (nm s (2 ^ b - a) (rE p r - b)) ∧ Cz w 30 99 [nm s (2 ^ b - a) (rE p r - b)] (nm 0 (2 ^ b - a) (rE p r - b)) ∧
    Cz w 30 68 [nm 0 a (rE p r - b), nm 0 (2 ^ b - a) (rE p r - b)] (.int (cmpI 0 a (2 ^ b - a))) := by
  have hn := near_pos (r := r) hs hp hp2 hb ha ha2
  have hf := far_pos (r := r) hs hp hp2 hb ha ha2
  have hy := Y_ib (r := r) hs hp hp2 hb ha ha2
  have hab := a_ib hs hp hp2 hb ha ha2
  obtain ⟨l1, l2⟩ := Y_lt (r := r) hs hp hp2 hb ha ha2
  have hcb : ib (2 ^ b - a) ≤ 20 := by
    have : ib (2 ^ b - a) ≤ b := (ib_le (by omega)).mpr (by omega)
    omega
  obtain ⟨h1, h2, h3⟩ := sgv_dn hs l1
  have c1 := c_sub2 (w := w) (k := 25) (s1 := s) (s2 := s) (E := rE p r - b) (by omega : 0 < rM p r * 2 ^ b + a) hn.1 hy hn.2 hs hs h3
  rw [h1, h2, ← near_y hs hp hp2 hb ha ha2, show rM p r * 2 ^ b + a - rM p r * 2 ^ b = a by omega] at c1
  obtain ⟨g1, g2, g3⟩ := sgv_dn hs l2
  have c2 := c_sub2 (w := w) (k := 25) (s1 := s) (s2 := s) (E := rE p r - b) hf.1 (by omega : 0 < rM p r * 2 ^ b + a) hf.2 hy hs hs g3
  rw [g1, g2, ← far_y hs hp hp2 hb ha ha2, show (rM p r + 1) * 2 ^ b - (rM p r * 2 ^ b + a) = 2 ^ b - a by rw [Int.add_mul]; omega] at c2
  exact ⟨c1, c_abs (k := 29) ha hs, c2, c_abs (k := 29) (by omega) hs, c_cmp (k := 24) ha (by omega) (by omega) (by omega) (.inl rfl)⟩
end
end Mine
end
section
set_option Elab.async false
set_option maxRecDepth 100000
set_option autoImplicit false
open PySem PySem.W PySem.Calls PyProof.Rows PySem.Spec
namespace Mine

/-! How the law's frame stands. -/
def CA (gpos : Pos) (ps : Array Value) : Prop := codeAmong gpos ps.toList = none ∨ ∃ c', codeAmong gpos ps.toList = some (.ref c')
structure Stg (w : World) (e : Heap) (L P : Addr) (gpos : Pos) (tr : Addr) (os : OsState) (own : List (Addr × Obj)) (bad : List Addr) (en : En) (ops : List Op) (s : Shared) : Prop where
  ex : ∃ m news items n ps, Fr e L s.heap m ∧ News e L s.heap news ∧ EnRep (KK w) news m en ∧ (tr, listOf items n) ∈ news ∧ Reps (KK w) news items.toList (ops.map Op.v) ∧ (P, tabO ps) ∈ news ∧ TriplesOk ps.toList ∧ CA gpos ps ∧ (∀ p ∈ own, p ∈ news) ∧ (∀ p ∈ news, p.1 ∉ bad)
  bare : AllBare s.gens
  os : s.os = os

section
variable {w : World} {k : Nat} {e : Heap} {P tr : Addr} {gpos : Pos} {os : OsState} {own : List (Addr × Obj)} {bad : List Addr} {en en' : En} {ops : List Op} {s : Shared} {A : Around} {env : Env} {Q : Flow → Shared → Prop} {E : Value → Shared → Prop} {sc : Scope}

theorem Stg.weak {L : Addr} (S : Stg w e L P gpos tr os own bad en ops s) (h : ∀ p ∈ en', en.lookup p.1 = some p.2) : Stg w e L P gpos tr os own bad en' ops s :=
  let ⟨m, news, items, n, ps, F, N, R, r⟩ := S.ex
  ⟨⟨m, news, items, n, ps, F, N, R.some h, r⟩, S.bare, S.os⟩

theorem Stg.does {t : Env → Sem Flow} (S : Stg w e env.locals P gpos tr os own [] en ops s) (a : At w (KK w) k A env e) (hsc : env.scope = sc) (D : Does PG w (KK w) k sc en t (.next en')) (q : ∀ s', Stg w e env.locals P gpos tr os own [] en' ops s' → Q .next s') :
    wpAny (model PG w) A (t env) Q E s := by
  obtain ⟨m, news, items, n, ps, F, N, R, ht, hr, hP, hT, hc, ho, hb⟩ := S.ex
  refine D A env e m news s Q E a hsc F N R ?_
  intro f h' tk' m' news' F' N' s' r
  obtain ⟨rfl, r⟩ := r
  exact q _ ⟨⟨m', news', items, n, ps, F', N', r, s' _ ht, hr.mono s', s' _ hP, hT, hc, fun p hp => s' _ (ho p hp), fun _ _ => by simp⟩, S.bare, S.os⟩
theorem Stg.test {t : Env → Sem Bool} {b : Bool} {Q : Bool → Shared → Prop} (S : Stg w e env.locals P gpos tr os own [] en ops s) (a : At w (KK w) k A env e) (hsc : env.scope = sc) (D : GivesT PG w (KK w) k sc en t b) (q : ∀ s', Stg w e env.locals P gpos tr os own [] en ops s' → Q b s') :
    wpAny (model PG w) A (t env) Q E s := by
  obtain ⟨m, news, items, n, ps, F, N, R, ht, hr, hP, hT, hc, ho, hb⟩ := S.ex
  refine D A env e m news s Q E a hsc F N R ?_
  intro h' tk' news' F' N' s'
  exact q _ ⟨⟨m, news', items, n, ps, F', N', R.mono s', s' _ ht, hr.mono s', s' _ hP, hT, hc, fun p hp => s' _ (ho p hp), fun _ _ => by simp⟩, S.bare, S.os⟩

def NoLs (en : En) : Prop := ∀ x v, en.lookup x = some v → noL v = true
theorem noLs_of {en : En} (h : en.all (fun p => noL p.2) = true) : NoLs en := by
  intro x v q
  induction en with
  | nil => cases q
  | cons p r ih =>
    rw [List.all_cons, Bool.and_eq_true] at h
    rw [List.lookup_cons] at q
    split at q
    · cases q
      exact h.1
    · exact ih h.2 q
theorem ops_noL : ∀ ops : List Op, noLs (ops.map Op.v) = true
  | [] => rfl
  | o :: r => by
    show (noL o.v && noLs (r.map Op.v)) = true
    rw [ops_noL r, Bool.and_true]
    cases o <;> rfl

theorem Stg.append {x : Str} {p1 ap pos ep : Pos} {arg : Expr} {op : Op} (S : Stg w e env.locals P gpos tr os own [] en ops s) (a : At w (KK w) k A env e) (hsc : env.scope = sc) (hl : (ap.endLine == pos.line) = true) (hns : noStar arg = true)
    (hn : Gives PG w (KK w) k sc en (eval (.Name x p1)) (.ref tr)) (harg : Gives PG w (KK w) k sc en (eval arg) op.v) (hz : ops.length ≤ 1000) (hen : NoLs en) (hown : ∀ p ∈ own, p.1 ≠ tr)
    (q : ∀ s', Stg w e env.locals P gpos tr os own [] en (ops ++ [op]) s' → Q .next s') :
    wpAny (model PG w) A (exec (.Expr (.Call (.Attribute (.Name x p1) (Str.ofString "append") ap) [arg] [] pos) ep) env) Q E s := by
  obtain ⟨m, news, items, n, ps, F, N, R, ht, hr, hP, hT, hc, ho, hb⟩ := S.ex
  have hlen : items.size = ops.length := by have := hr.length; simpa using this
  refine append_stmt a hsc hl hns hn harg F N R ht (by omega) ?_
  intro h' tk' news' val F' N' s' hu rv
  have keep : ∀ p ∈ news', p.2.cls = .type "tuple" → p ∈ (tr, listOf (items.push val) (n + 1)) :: off [tr] news' := by
    intro p hp hcl
    refine .tail _ (mem_off hp ?_)
    intro hI
    have := hu p hp (List.mem_singleton.mp hI)
    rw [this] at hcl
    exact absurd hcl (show Value.type "list" ≠ Value.type "tuple" by decide)
  have hPt : P ≠ tr := by
    intro z
    have h1 := (N _ hP).1
    have h2 := (N _ ht).1
    rw [z] at h1
    rw [h1] at h2
    have := Option.some.inj h2
    exact absurd (congrArg Obj.cls this) (show Value.none ≠ Value.type "list" by decide)
  refine q _ ⟨⟨m, _, items.push val, n + 1, ps, F', N', (R.mono s').selT keep hen, .head _, ?_, .tail _ (mem_off (s' _ hP) (by simpa using hPt)), hT, hc, fun p hp => .tail _ (mem_off (s' _ (ho p hp)) (by simpa using hown p hp)), fun _ _ => by simp⟩, S.bare, S.os⟩
  rw [List.map_append, Array.toList_push]
  exact Reps.app (Reps.selT keep (ops_noL ops) (hr.mono s')) (.cons (rv.selT keep (by cases op <;> rfl)) .nil)
end
end Mine
end
section
set_option Elab.async false
set_option maxRecDepth 100000
set_option autoImplicit false
open PySem PySem.W PySem.Calls PyProof.Rows PySem.Spec
namespace Mine
def orL : Expr → Expr
  | .BoolOp _ (e :: _) _ => e
  | _ => default
def orR : Expr → Expr
  | .BoolOp _ (_ :: e :: _) _ => e
  | _ => default
def notE : Expr → Expr
  | .UnaryOp _ e _ => e
  | _ => default
def cmpL : Expr → Expr
  | .Compare e _ _ _ => e
  | _ => default
def cmpR : Expr → Expr
  | .Compare _ _ (e :: _) _ => e
  | _ => default
def binL : Expr → Expr
  | .BinOp e _ _ _ => e
  | _ => default
def binR : Expr → Expr
  | .BinOp _ _ e _ => e
  | _ => default
def callF : Expr → Expr
  | .Call f _ _ _ => f
  | _ => default
def genElt : Expr → Expr
  | .GeneratorExp e _ _ _ => e
  | _ => default
def genS : Expr → Scope
  | .GeneratorExp _ _ s _ => s
  | _ => { kind := .function, names := [], isGenerator := false, isCoroutine := false }
def genT : Expr → Pos
  | .GeneratorExp _ (g :: _) _ _ => g.target.pos
  | _ => default
def genI : Expr → Pos
  | .GeneratorExp _ (g :: _) _ _ => g.iter.pos
  | _ => default
def ifP : Stmt → Pos
  | .If _ _ _ p => p
  | _ => default
def lstE : Expr → List Expr
  | .List es _ => es
  | _ => []
noncomputable abbrev T6 (w : World) : Expr := ifT (lawS w 6)
noncomputable abbrev N6 (w : World) : Expr := notE (orR (T6 w))
noncomputable abbrev g6 (w : World) : Expr := argE (N6 w)
noncomputable abbrev G6 (w : World) : Expr := genElt (g6 w)
noncomputable abbrev gposOf (w : World) : Pos := (g6 w).pos
theorem s6 (w : World) : lawS w 6 = .If (.BoolOp .Or [orL (T6 w), .UnaryOp .Not (.Call (.Name (Str.ofString "all") (callF (N6 w)).pos) [.GeneratorExp (.Compare (.Call (.Name (Str.ofString "type") (callF (cmpL (G6 w))).pos) [.Name (Str.ofString "piece") (argE (cmpL (G6 w))).pos] [] (cmpL (G6 w)).pos) [.Is] [.Name (Str.ofString "int") (cmpR (G6 w)).pos] (G6 w).pos) [⟨.Name (Str.ofString "piece") (genT (g6 w)), .Name (Str.ofString "raw") (genI (g6 w)), [], 0⟩] (genS (g6 w)) (gposOf w)] [] (N6 w).pos) (orR (T6 w)).pos] (T6 w).pos) (ifB (lawS w 6)) [] (ifP (lawS w 6)) := by kernel_rfl!
theorem gs_names (w : World) : (genS (g6 w)).names = [(Str.ofString ".0", .local), (Str.ofString "piece", .local), (Str.ofString "type", .globalImplicit), (Str.ofString "int", .globalImplicit)] := by kernel_rfl!
theorem gs_kind (w : World) : (genS (g6 w)).kind = .function := by kernel_rfl!
theorem gs_co (w : World) : (genS (g6 w)).isCoroutine = false := by kernel_rfl!
theorem sc_all (w : World) : (scp w 224).names.lookup (Str.ofString "all") = some .globalImplicit := by kernel_rfl!
theorem sc_raw (w : World) : (scp w 224).names.lookup (Str.ofString "raw") = some .local := by kernel_rfl!

noncomputable abbrev T14 (w : World) : Expr := ifT (lawS w 14)
theorem s14 (w : World) : lawS w 14 = .If (.Compare (cmpL (T14 w)) [.NotEq] [.BinOp (.List (lstE (binL (cmpR (T14 w)))) (binL (cmpR (T14 w))).pos) .Mult (.Constant (.int 12) 0 (binR (cmpR (T14 w))).pos) (cmpR (T14 w)).pos] (T14 w).pos) (ifB (lawS w 14)) [] (ifP (lawS w 14)) := by kernel_rfl!

/-- what does not change about the law's frame -/
structure Lw (w : World) (A : Around) (env : Env) (e : Heap) (P : Addr) : Prop where
  a : At w (KK w) 40 A env e
  hsc : env.scope = scp w 224
  heP : e.get? P = none
  code : ∃ c oc, env.code = .ref c ∧ e.get? c = some oc ∧ ∀ (h : Heap) (ps : Array Value), h.get? c = some oc → h.get? P = some (tabO ps) → TriplesOk ps.toList → h.IsCode c P ps ∧ h.TableAt c P ps
  M : ∃ mg bm ob, BMod e mainGlobals mg bm ob

section
variable {w : World} {e : Heap} {P tr : Addr} {os : OsState} {own : List (Addr × Obj)} {en : En} {ops : List Op} {s : Shared} {A : Around} {env : Env} {Q : Flow → Shared → Prop} {E : Value → Shared → Prop}

theorem Stg.all6 (S : Stg w e env.locals P (gposOf w) tr os own [] en ops s) (I : Lw w A env e P) (hown : ∀ p ∈ own, p.1 ≠ P) (hen : NoLs en) {a1 a2 a3 a4 : Int} (hraw : en.lookup (Str.ofString "raw") = some (.tup [.int a1, .int a2, .int a3, .int a4]))
    (hne : GivesT PG w (KK w) 30 (scp w 224) en (fun env => isTrue (orL (T6 w)) env (eval (orL (T6 w)) env)) false)
    (q : ∀ s', Stg w e env.locals P (gposOf w) tr os own [] en ops s' → Q .next s') : wpAny (model PG w) A (exec (lawS w 6) env) Q E s := by
  rw [s6]
  refine wpAny_If (wpAny_isTrue_BoolOp (wpAny_allTrue_Or_cons ?_))
  refine S.test (I.a.le (by decide)) I.hsc hne fun s1 S1 => ?_
  refine wpAny_allTrue_Or_cons (wpAny_isTrue_Not (isTrue_plain ?_ rfl))
  obtain ⟨m, news, items, n, ps, F, N, R, ht, hr, hP, hT, hc, ho, hb⟩ := S1.ex
  obtain ⟨c, oc, hcode, hec, hcf⟩ := I.code
  obtain ⟨mg, bm, ob, M⟩ := I.M
  obtain ⟨val, hval, rv⟩ := R _ _ hraw
  obtain ⟨C0, T0⟩ := hcf s1.heap ps (F.keep _ _ hec) (N _ hP).1 hT
  cases rv with | tup H c2 d2 rs =>
  rename_i T oT iT nT
  have hTup : s1.heap.IsTuple T iT := ⟨oT, H.get N (I.a.In F), c2, nT, d2⟩
  have hPL : P ≠ env.locals := (N _ hP).2.1
  refine gen_all (k := 29) (I.a.le (by decide)) (by rw [I.hsc]; exact sc_all w) (by rw [I.hsc]; exact sc_raw w) (gs_names w) (gs_kind w) (gs_co w) hcode M hPL I.heP F S1.bare C0 T0 hc hval hTup ?_ ?_
  · intro i v hv
    obtain ⟨iL⟩ := iT
    have hv' : iL[i]? = some v := by simpa using hv
    have rs : Reps (KK w) news iL _ := rs
    cases rs with | cons r1 rs =>
    cases rs with | cons r2 rs =>
    cases rs with | cons r3 rs =>
    cases rs with | cons r4 rs =>
    cases rs
    have hm := List.mem_of_getElem? hv'
    simp only [List.mem_cons, List.not_mem_nil, or_false] at hm
    rcases hm with rfl | rfl | rfl | rfl
    · cases r1; exact ⟨_, _, rfl⟩
    · cases r2; exact ⟨_, _, rfl⟩
    · cases r3; exact ⟨_, _, rfl⟩
    · cases r4; exact ⟨_, _, rfl⟩
  · intro s' ps' hos hg F' hk hC' hT' hfd
    refine wpAny_truthy_bool ?_
    show wpAny _ _ _ _ _ _
    refine wpAny_allTrue_Or_nil ?_
    refine wpAny_execs_nil ?_
    have hPt : tr ≠ P := by
      intro z
      have h1 := (N _ ht).1
      have h2 := (N _ hP).1
      rw [z, h2] at h1
      exact absurd (congrArg Obj.cls (Option.some.inj h1)) (show Value.none ≠ Value.type "list" by decide)
    have keep : ∀ p ∈ news, p.2.cls = .type "tuple" → p ∈ (P, tabO ps') :: off [P] news := by
      intro p hp hcl
      refine .tail _ (mem_off hp ?_)
      intro hI
      have h1 := (N _ hp).1
      rw [List.mem_singleton.mp hI, (N _ hP).1] at h1
      have := Option.some.inj h1
      rw [← this] at hcl
      exact absurd hcl (show Value.none ≠ Value.type "tuple" by decide)
    refine q s' ⟨⟨m, (P, tabO ps') :: off [P] news, items, n, ps', F', ?_, R.selT keep hen, .tail _ (mem_off ht (by simpa using hPt)), Reps.selT keep (ops_noL ops) hr, .head _, ?_, .inr hfd, fun p hp => .tail _ (mem_off (ho p hp) (by simpa using hown p hp)), fun _ _ => by simp⟩, hg, hos.trans S1.os⟩
    · intro p hp
      rcases List.mem_cons.mp hp with rfl | hp
      · exact ⟨hT'.2, (N _ hP).2⟩
      · have h5 : p.1 ≠ P := by have := off_off p hp; simpa using this
        have h6 := N p (off_sub p hp)
        exact ⟨hk _ _ h5 h6.1, h6.2⟩
    · obtain ⟨o, vs, file, tf, flags, tg, inF, text, tt, op, ho, hdd, h11, h2, h7, h9, h10, hop, hpd, htr, hne⟩ := hC'
      exact htr
end
end Mine
end
section
set_option Elab.async false
set_option maxRecDepth 100000
set_option autoImplicit false
open PySem PySem.W PySem.Calls PyProof.Rows PySem.Spec
namespace Mine
section
variable {w : World}
theorem way_item {i : Int} (h0 : 0 ≤ i) (h5 : i < 5) : Way (Txt.item (Str.ofString "nfcud") i) := by
  have : i = 0 ∨ i = 1 ∨ i = 2 ∨ i = 3 ∨ i = 4 := by omega
  rcases this with rfl | rfl | rfl | rfl | rfl
  · exact .inl (by decide)
  · exact .inr (.inl (by decide))
  · exact .inr (.inr (.inl (by decide)))
  · exact .inr (.inr (.inr (.inl (by decide))))
  · exact .inr (.inr (.inr (.inr (by decide))))

abbrev ben (p span r s : Int) (ho ra : V) (tr : Addr) : En := [(Str.ofString "p", V.int p), (Str.ofString "span", V.int span), (Str.ofString "rank", V.int r), (Str.ofString "minus", V.int s), (Str.ofString "home", ho), (Str.ofString "raw", ra), (Str.ofString "trail", V.ref tr)]
abbrev ten2 (t x : Int) : En := [(Str.ofString "t", V.int t), (Str.ofString "x", V.int x)]
abbrev nf (ne fa : V) : En := [(Str.ofString "near", ne), (Str.ofString "far", fa)]

/-- the block before the roads -/
theorem blk7 {p b : Nat} {s r t x : Int} {ho : V} {tr : Addr} {aa : Int} (hs : Sg s) (hp : 1 ≤ p) (hp2 : p ≤ 20) (hbI : (b : Int) = 1 + Int.fmod (Int.fdiv x 10 + t) 9) (haI : aa = 1 + Int.fmod (Int.fdiv x 90) (2 ^ b - 1)) :
    1 ≤ b ∧ b ≤ 9 ∧ 0 < aa ∧ aa < 2 ^ b ∧ ∃ way, Way way ∧ Dz w 30 224 (ben p (2 ^ (p - 1)) r s ho (rg s p r) tr ++ ten2 t x ++ nf (rg s p r) (rg s p (r + 1))) (List.take 7 (List.drop 7 (lawB w)))
      (.next (ben p (2 ^ (p - 1)) r s ho (rg s p r) tr ++ ten2 t x ++ nf (rg s p r) (rg s p (r + 1)) ++ [(Str.ofString "b", V.int b), (Str.ofString "a", V.int aa), (Str.ofString "y", nm s (rM p r * 2 ^ b + aa) (rE p r - b)), (Str.ofString "way", V.str way), (Str.ofString "right", if hiB way s (rM p r) aa b = true then rg s p (r + 1) else rg s p r)])) := by
  have f0 := Int.fmod_nonneg_of_pos (Int.fdiv x 10 + t) (by decide : (0 : Int) < 9)
  have f1 := Int.fmod_lt_of_pos (Int.fdiv x 10 + t) (by decide : (0 : Int) < 9)
  have hb1 : 1 ≤ b := by omega
  have hb9 : b ≤ 9 := by omega
  have h2b : (2 : Int) ≤ 2 ^ b := by have := p2_le hb1; simpa using this
  have g0 := Int.fmod_nonneg_of_pos (Int.fdiv x 90) (by omega : (0 : Int) < 2 ^ b - 1)
  have g1 := Int.fmod_lt_of_pos (Int.fdiv x 90) (by omega : (0 : Int) < 2 ^ b - 1)
  have w0 := Int.fmod_nonneg_of_pos (Int.fdiv x 7) (by decide : (0 : Int) < 5)
  have w1 := Int.fmod_lt_of_pos (Int.fdiv x 7) (by decide : (0 : Int) < 5)
  have ha : 0 < aa := by omega
  have ha2 : aa < 2 ^ b := by omega
  have hb20 : b ≤ 20 := by omega
  have hway := way_item w0 w1
  refine ⟨hb1, hb9, ha, ha2, _, hway, ?_⟩
  have eb : (1 : Int) * 2 ^ Int.toNat (1 + Int.fmod (Int.fdiv x 10 + t) 9) = 2 ^ b := by rw [← hbI, Int.toNat_natCast, Int.one_mul]
  have ea : 1 + Int.fmod (Int.fdiv x 90) (1 * 2 ^ Int.toNat (1 + Int.fmod (Int.fdiv x 10 + t) 9) - 1) = aa := by rw [eb]; exact haI.symm
  have hpp := p2pos (p - 1)
  have hle : (2 : Int) ^ (p - 1) ≤ 524288 := by have := p2_le (m := p - 1) (n := 19) (by omega); simpa using this
  have i1 : Builtin.Int.intBits 1 = 1 := ib_one
  have e27 : (2 : Int) ^ 27 = 134217728 := by decide
  have dv : DvOk ((2 : Int) ^ (p - 1)) := ⟨by omega, by omega⟩
  have sh : ShOk 1 (1 + Int.fmod (Int.fdiv x 10 + t) 9) := ⟨by omega, by rw [i1, e27]; omega⟩
  have hE : Int.fdiv r (2 ^ (p - 1)) = rE p r := Int.fdiv_eq_ediv_of_nonneg _ (by omega)
  have k1 := y_gap (w := w) (r := r) hs hp hp2
  have k2 := y_fme (w := w) (s := s) (p := p) hs hp hp2 hb20 ha ha2
  have k3 := y_mul (w := w) (r := r) hs hp hp2 hb20 ha ha2
  have k4 := y_add (w := w) (r := r) hs hp hp2 hb20 ha ha2
  have k5 := c_high (w := w) (k := 28) (s := s) (a := aa) (r := r) (p := p) (b := b) hs hway hp hp2 hb20 ha ha2
  have hlen : 0 ≤ Int.fmod (Int.fdiv x 7) 5 ∧ Int.fmod (Int.fdiv x 7) 5 < ((Str.length (Str.ofString "nfcud") : Nat) : Int) ∧ Str.length (Str.ofString "nfcud") < 1000 := ⟨w0, by
    have : Str.length (Str.ofString "nfcud") = 5 := by decide
    omega, by decide⟩
  have hsame : (!same (V.tup [V.int s, V.int 1, V.int (rE p r), V.int ((1 : Nat) : Int)]) (V.tup [V.int s, V.int 1, V.int (Int.fdiv r (2 ^ (p - 1))), V.int 1])) = false := by rw [hE]; rw [show V.tup [V.int s, V.int 1, V.int (rE p r), V.int ((1 : Nat) : Int)] = V.tup [V.int s, V.int 1, V.int (rE p r), V.int 1] from rfl, same_self]; rfl
  have dv7 : DvOk 7 := ⟨by decide, by decide⟩
  have dv10 : DvOk 10 := ⟨by decide, by decide⟩
  have dv90 : DvOk 90 := ⟨by decide, by decide⟩
  have nz : (1 : Int) * 2 ^ Int.toNat (1 + Int.fmod (Int.fdiv x 10 + t) 9) - 1 ≠ 0 := by rw [eb]; omega
  generalize nm 0 aa (-(b : Int)) = u at k2 k3
  generalize nm s aa (rE p r - b) = mm at k3 k4
  generalize nm s (rM p r * 2 ^ b + aa) (rE p r - b) = y at k4 ⊢
  rw [← ea, hbI] at k2 k5
  cases hhi : hiB (Txt.item (Str.ofString "nfcud") (Int.fmod (Int.fdiv x 7) 5)) s (rM p r) aa b with
  | true =>
    rw [ea, hhi, ← ea] at k5
    have D := l_b7_f (w := w) (k := 30) (p := p) (span := 2 ^ (p - 1)) (rank := r) (minus := s) (ho := ho) (ra := rg s p r) (tr := tr) (t := t) (x := x) ⟨k1, dv, hsame, dv10, by decide, dv90, sh, nz, k2, k3, k4, dv7, by decide, hlen, k5, rfl, trivial⟩
    rw [ea, ← hbI] at D
    exact D.conv (sub_all (by kernel_rfl!)) (sub_all (by kernel_rfl!))
  | false =>
    rw [ea, hhi, ← ea] at k5
    have D := l_b7_n (w := w) (k := 30) (p := p) (span := 2 ^ (p - 1)) (rank := r) (minus := s) (ho := ho) (ra := rg s p r) (tr := tr) (t := t) (x := x) ⟨k1, dv, hsame, dv10, by decide, dv90, sh, nz, k2, k3, k4, dv7, by decide, hlen, k5, rfl, trivial⟩
    rw [ea, ← hbI] at D
    exact D.conv (sub_all (by kernel_rfl!)) (sub_all (by kernel_rfl!))
end
end Mine
end
section
set_option Elab.async false
set_option maxRecDepth 100000
set_option autoImplicit false
open PySem PySem.W PySem.Calls PyProof.Rows PySem.Spec
namespace Mine
section
variable {w : World}
/-- the block after the roads -/
theorem blk15 {p b : Nat} {s r t x : Int} {ho : V} {tr : Addr} {a : Int} (hs : Sg s) (hp : 1 ≤ p) (hp2 : p ≤ 20) (hb9 : b ≤ 9) (ha : 0 < a) (ha2 : a < 2 ^ b) :
    Dz w 30 224 (ben p (2 ^ (p - 1)) r s ho (rg s p r) tr ++ ten2 t x ++ nf (rg s p r) (rg s p (r + 1)) ++ [(Str.ofString "b", V.int b), (Str.ofString "a", V.int a), (Str.ofString "y", nm s (rM p r * 2 ^ b + a) (rE p r - b))]) (List.take 4 (List.drop 15 (lawB w)))
      (.next (ben p (2 ^ (p - 1)) r s ho (rg s p r) tr ++ ten2 t x)) := by
  have hb20 : b ≤ 20 := by omega
  obtain ⟨c1, c2, c3⟩ := y_cmp (w := w) (r := r) hs hp hp2 hb20 ha ha2
  obtain ⟨d1, d2, d3, d4, d5⟩ := y_dist (w := w) (r := r) hs hp hp2 hb20 ha ha2
  have i1 : Builtin.Int.intBits 1 = 1 := ib_one
  have e27 : (2 : Int) ^ 27 = 134217728 := by decide
  have sh : ShOk 1 (b : Int) := ⟨by omega, by rw [i1, e27]; omega⟩
  have hab := a_ib hs hp hp2 hb20 ha ha2
  have mo : IntMulOk 2 a := mulOk (by decide) (by omega)
  have eb : (1 : Int) * 2 ^ Int.toNat (b : Int) = 2 ^ b := by rw [Int.toNat_natCast, Int.one_mul]
  have hd : ∀ z : Int, cmpI 0 a (2 ^ b - a) = z → (cmpI 0 a (2 ^ b - a) != z) = false := fun z h => by rw [h]; simp
  rcases hs with rfl | rfl
  · rw [if_neg (by decide)] at c1 c2 c3
    by_cases g : (2 : Int) ^ b < 2 * a
    · have D := l_b15_pg (w := w) (k := 30) (p := p) (span := 2 ^ (p - 1)) (rank := r) (minus := 0) (ho := ho) (ra := rg 0 p r) (tr := tr) (t := t) (x := x) (b := b) (a := a) ⟨rfl, c1, rfl, c2, rfl, c3, rfl, mo, sh, by rw [eb]; exact decide_eq_true g, d1, d2, d3, d4, d5, hd 1 (by unfold cmpI; rw [if_neg (by omega), if_neg (by omega)]; rfl), trivial⟩
      exact D.conv (sub_all (by kernel_rfl!)) (sub_all (by kernel_rfl!))
    · by_cases l : 2 * a < (2 : Int) ^ b
      · have D := l_b15_pl (w := w) (k := 30) (p := p) (span := 2 ^ (p - 1)) (rank := r) (minus := 0) (ho := ho) (ra := rg 0 p r) (tr := tr) (t := t) (x := x) (b := b) (a := a) ⟨rfl, c1, rfl, c2, rfl, c3, rfl, mo, sh, by rw [eb]; exact decide_eq_false g, mo, sh, by rw [eb]; exact decide_eq_true l, d1, d2, d3, d4, d5, hd (-1) (by unfold cmpI; rw [if_neg (by omega), if_pos (by omega)]; rfl), trivial⟩
        exact D.conv (sub_all (by kernel_rfl!)) (sub_all (by kernel_rfl!))
      · have D := l_b15_pe (w := w) (k := 30) (p := p) (span := 2 ^ (p - 1)) (rank := r) (minus := 0) (ho := ho) (ra := rg 0 p r) (tr := tr) (t := t) (x := x) (b := b) (a := a) ⟨rfl, c1, rfl, c2, rfl, c3, rfl, mo, sh, by rw [eb]; exact decide_eq_false g, mo, sh, by rw [eb]; exact decide_eq_false l, d1, d2, d3, d4, d5, hd 0 (by unfold cmpI; rw [if_pos (by omega)]), trivial⟩
        exact D.conv (sub_all (by kernel_rfl!)) (sub_all (by kernel_rfl!))
  · rw [if_pos rfl] at c1 c2 c3
    by_cases g : (2 : Int) ^ b < 2 * a
    · have D := l_b15_mg (w := w) (k := 30) (p := p) (span := 2 ^ (p - 1)) (rank := r) (minus := 1) (ho := ho) (ra := rg 1 p r) (tr := tr) (t := t) (x := x) (b := b) (a := a) ⟨rfl, c1, rfl, c2, rfl, c3, rfl, mo, sh, by rw [eb]; exact decide_eq_true g, d1, d2, d3, d4, d5, hd 1 (by unfold cmpI; rw [if_neg (by omega), if_neg (by omega)]; rfl), trivial⟩
      exact D.conv (sub_all (by kernel_rfl!)) (sub_all (by kernel_rfl!))
    · by_cases l : 2 * a < (2 : Int) ^ b
      · have D := l_b15_ml (w := w) (k := 30) (p := p) (span := 2 ^ (p - 1)) (rank := r) (minus := 1) (ho := ho) (ra := rg 1 p r) (tr := tr) (t := t) (x := x) (b := b) (a := a) ⟨rfl, c1, rfl, c2, rfl, c3, rfl, mo, sh, by rw [eb]; exact decide_eq_false g, mo, sh, by rw [eb]; exact decide_eq_true l, d1, d2, d3, d4, d5, hd (-1) (by unfold cmpI; rw [if_neg (by omega), if_pos (by omega)]; rfl), trivial⟩
        exact D.conv (sub_all (by kernel_rfl!)) (sub_all (by kernel_rfl!))
      · have D := l_b15_me (w := w) (k := 30) (p := p) (span := 2 ^ (p - 1)) (rank := r) (minus := 1) (ho := ho) (ra := rg 1 p r) (tr := tr) (t := t) (x := x) (b := b) (a := a) ⟨rfl, c1, rfl, c2, rfl, c3, rfl, mo, sh, by rw [eb]; exact decide_eq_false g, mo, sh, by rw [eb]; exact decide_eq_false l, d1, d2, d3, d4, d5, hd 0 (by unfold cmpI; rw [if_pos (by omega)]), trivial⟩
        exact D.conv (sub_all (by kernel_rfl!)) (sub_all (by kernel_rfl!))

theorem cmp12 {a1 a2 a3 a4 : Int} : cmpV .NotEq (.lst (List.replicate 12 (V.tup [.int a1, .int a2, .int a3, .int a4]))) (.lst (List.replicate 12 (V.tup [.int a1, .int a2, .int a3, .int a4]))) = some (.bool (!same (.lst (List.replicate 12 (V.tup [.int a1, .int a2, .int a3, .int a4]))) (.lst (List.replicate 12 (V.tup [.int a1, .int a2, .int a3, .int a4])))), []) := by kernel_rfl!
/-- the test of the roads -/
theorem does14 {en : En} {a1 a2 a3 a4 : Int} (hl : Gives PG w (KK w) 30 (scp w 224) en (eval (cmpL (T14 w))) (.lst (List.replicate 12 (V.tup [.int a1, .int a2, .int a3, .int a4]))))
    (hr : Gives PG w (KK w) 30 (scp w 224) en (eval (.List (lstE (binL (cmpR (T14 w)))) (binL (cmpR (T14 w))).pos)) (.lst [V.tup [.int a1, .int a2, .int a3, .int a4]])) : Does PG w (KK w) 30 (scp w 224) en (exec (lawS w 14)) (.next en) := by
  rw [s14]
  intro A env h₀ m news s Q E a hsc F N R q
  refine wpAny_If (wpAny_isTrue_Compare1 ?_ rfl)
  refine hl A env h₀ m news s _ E a hsc F N R ?_
  intro v1 h1 t1 n1 F1 N1 s1 r1
  refine wpAny_BinOp ?_
  refine hr A env h₀ m n1 _ _ E a hsc F1 N1 (R.mono s1) ?_
  intro v2 h2 t2 n2 F2 N2 s2 r2
  refine wpAny_Constant_int ?_
  cases r2 with | lst H c d rs =>
  rename_i ad o items n
  obtain ⟨il⟩ := items
  have rs : Reps (KK w) n2 il _ := rs
  cases rs with | cons rv rs =>
  cases rs
  rename_i v
  have hlst : h2.IsList ad ([v] : List Value).toArray := ⟨o, H.get N2 (a.In F2), c, n, d⟩
  refine KMa.mul (s := ⟨h2, _, _, t2 + 1, _⟩) (vs := [v]) (ws := List.replicate 12 v) F2 N2 hlst (by decide) (by decide) (show (1 : Nat) * Int.toNat 12 ≤ 256 by decide) rfl ?_
  intro D h3 F3 N3 _
  have s3 : ∀ p ∈ n2, p ∈ (D, listOf (List.replicate 12 v).toArray 0) :: n2 := fun p hp => .tail _ hp
  have r3 : Rep (KK w) ((D, listOf (List.replicate 12 v).toArray 0) :: n2) (.ref D) (.lst (List.replicate 12 (V.tup [.int a1, .int a2, .int a3, .int a4]))) := by
    refine .lst (.inl (.head _)) rfl rfl ?_
    have := rv.mono s3
    exact .cons this (.cons this (.cons this (.cons this (.cons this (.cons this (.cons this (.cons this (.cons this (.cons this (.cons this (.cons this .nil)))))))))))
  refine cmpV_ok (op := .NotEq) (v := .bool false) (ps := []) N3 (a.In F3) (by have := a.uni; omega) ((r1.mono s2).mono s3) r3 ?_ ?_
  · rw [cmp12, same_self]
    rfl
  · intro cv hcv
    refine truthyV_ok hcv rfl ?_
    show wpAny _ _ _ _ _ _
    refine wpAny_execs_nil ?_
    exact q .next h3 _ m _ F3 N3 (fun p hp => s3 p (s2 p (s1 p hp))) ⟨rfl, R.mono fun p hp => s3 p (s2 p (s1 p hp))⟩
end
end Mine
end
section
set_option Elab.async false
set_option maxRecDepth 100000
set_option autoImplicit false
open PySem PySem.W PySem.Calls PyProof.Rows PySem.Spec
namespace Mine
theorem wp_execs_app {M : Model} {A : Around} {env : Env} {Q : Flow → Shared → Prop} {E : Value → Shared → Prop} (b : List Stmt) : ∀ (a : List Stmt) (Γ : PySem.Ctx) (p : Pos) (s : Shared), Γ.In A →
    Sem.wp M Γ (execs a env) (fun f _ s' => match f with | .next => wpAny M A (execs b env) Q E s' | f => Q f s') (fun e _ s' => E e s') p s → Sem.wp M Γ (execs (a ++ b) env) (fun f _ s' => Q f s') (fun e _ s' => E e s') p s
  | [], Γ, p, s, hΓ, h => (h : wpAny M A (execs b env) Q E s) Γ p hΓ
  | st :: r, Γ, p, s, hΓ, h => by
    rw [List.cons_append, execs_cons, Sem.wp_bind']
    rw [execs_cons, Sem.wp_bind'] at h
    refine Sem.wp_mono M Γ _ (fun f p' s' h' => ?_) (fun _ _ _ h' => h') _ _ h
    cases f with
    | next => exact wp_execs_app b r Γ p' s' hΓ h'
    | brk => exact h'
    | cont => exact h'
    | ret v => exact h'
theorem execs_take {M : Model} {A : Around} {env : Env} {Q : Flow → Shared → Prop} {E : Value → Shared → Prop} {s : Shared} (n : Nat) {ss : List Stmt}
    (h : wpAny M A (execs (ss.take n) env) (fun f s' => match f with | .next => wpAny M A (execs (ss.drop n) env) Q E s' | f => Q f s') E s) : wpAny M A (execs ss env) Q E s := fun Γ p hΓ => by
  have := wp_execs_app (Q := Q) (E := E) (ss.drop n) (ss.take n) Γ p s hΓ (h Γ p hΓ)
  rw [List.take_append_drop] at this
  exact this
end Mine
end
section
set_option Elab.async false
set_option maxRecDepth 100000
set_option autoImplicit false
open PySem PySem.W PySem.Calls PyProof.Rows PySem.Spec
namespace Mine
def exE : Stmt → Expr
  | .Expr e _ => e
  | _ => default
def exP : Stmt → Pos
  | .Expr _ p => p
  | _ => default
def attO : Expr → Expr
  | .Attribute e _ _ => e
  | _ => default
noncomputable abbrev X4 (w : World) : Expr := exE (lawS w 4)
noncomputable abbrev B19 (w : World) : Stmt := ((ifB (lawS w 19)).drop 2).headD default
noncomputable abbrev B20 (w : World) : Stmt := ((ifB (lawS w 20)).drop 2).headD default
noncomputable abbrev appS (x : Stmt) : Stmt := .Expr (.Call (.Attribute (.Name (Str.ofString "trail") (attO (callF (exE x))).pos) (Str.ofString "append") (callF (exE x)).pos) [argE (exE x)] [] (exE x).pos) (exP x)
theorem s4 (w : World) : lawS w 4 = appS (lawS w 4) := by kernel_rfl!
theorem s19a (w : World) : List.drop 2 (ifB (lawS w 19)) = [appS (B19 w)] := by kernel_rfl!
theorem s20a (w : World) : List.drop 2 (ifB (lawS w 20)) = [appS (B20 w)] := by kernel_rfl!
theorem s19 (w : World) : lawS w 19 = .If (ifT (lawS w 19)) (ifB (lawS w 19)) [] (ifP (lawS w 19)) := by kernel_rfl!
theorem s20 (w : World) : lawS w 20 = .If (ifT (lawS w 20)) (ifB (lawS w 20)) [] (ifP (lawS w 20)) := by kernel_rfl!
theorem l4 (w : World) : List.drop 4 (lawB w) = lawS w 4 :: List.drop 5 (lawB w) := by kernel_rfl!
theorem l6 (w : World) : List.drop 1 (List.drop 5 (lawB w)) = lawS w 6 :: List.drop 7 (lawB w) := by kernel_rfl!
theorem l14 (w : World) : List.drop 7 (List.drop 7 (lawB w)) = lawS w 14 :: List.drop 15 (lawB w) := by kernel_rfl!
theorem l19 (w : World) : List.drop 4 (List.drop 15 (lawB w)) = [lawS w 19, lawS w 20] := by kernel_rfl!
theorem ap4 (w : World) : ((callF (exE (lawS w 4))).pos.endLine == (exE (lawS w 4)).pos.line) = true := by kernel_rfl!
theorem ap19 (w : World) : ((callF (exE (B19 w))).pos.endLine == (exE (B19 w)).pos.line) = true := by kernel_rfl!
theorem ap20 (w : World) : ((callF (exE (B20 w))).pos.endLine == (exE (B20 w)).pos.line) = true := by kernel_rfl!
theorem ns4 (w : World) : noStar (argE (exE (lawS w 4))) = true := by kernel_rfl!
theorem ns19 (w : World) : noStar (argE (exE (B19 w))) = true := by kernel_rfl!
theorem ns20 (w : World) : noStar (argE (exE (B20 w))) = true := by kernel_rfl!
section
variable {w : World} {k : Nat} {p span r s t x : Int} {ho ra : V} {tr : Addr}
theorem tr4 {st : Int} {pos : Pos} : Gives PG w (KK w) k (scp w 224) (ben p span r s ho ra tr ++ ten2 t x ++ [(Str.ofString "step", V.int st)]) (eval (.Name (Str.ofString "trail") pos)) (.ref tr) := runE (n := 60) (ps := []) [] (by kernel_rfl!) trivial
theorem trB {pos : Pos} : Gives PG w (KK w) k (scp w 224) (ben p span r s ho ra tr ++ ten2 t x) (eval (.Name (Str.ofString "trail") pos)) (.ref tr) := runE (n := 60) (ps := []) [] (by kernel_rfl!) trivial
theorem ar4 {st : Int} : Gives PG w (KK w) k (scp w 224) (ben p span r s ho ra tr ++ ten2 t x ++ [(Str.ofString "step", V.int st)]) (eval (argE (exE (lawS w 4)))) (Op.step st).v := runE (n := 60) (ps := []) [] (by kernel_rfl!) trivial
theorem ar19 : Gives PG w (KK w) k (scp w 224) (ben p span r s ho ra tr ++ ten2 t x) (eval (argE (exE (B19 w)))) Op.mirror.v := runE (n := 60) (ps := []) [] (by kernel_rfl!) trivial
theorem ar20 : Gives PG w (KK w) k (scp w 224) (ben p span r s ho ra tr ++ ten2 t x) (eval (argE (exE (B20 w)))) (Op.leap (Int.fdiv x 7)).v := runE (n := 60) (ps := [DvOk 7]) [] (by kernel_rfl!) ⟨⟨by decide, by decide⟩, trivial⟩
theorem t19t (h : (Int.fmod x 11 == 10) = true) : GivesT PG w (KK w) k (scp w 224) (ben p span r s ho ra tr ++ ten2 t x) (fun env => isTrue (ifT (lawS w 19)) env (eval (ifT (lawS w 19)) env)) true := runT (n := 60) (ps := [(11 : Int) ≠ 0, (Int.fmod x 11 == 10) = true]) [.t] (by kernel_rfl!) ⟨by decide, h, trivial⟩
theorem t19f (h : (Int.fmod x 11 == 10) = false) : GivesT PG w (KK w) k (scp w 224) (ben p span r s ho ra tr ++ ten2 t x) (fun env => isTrue (ifT (lawS w 19)) env (eval (ifT (lawS w 19)) env)) false := runT (n := 60) (ps := [(11 : Int) ≠ 0, (Int.fmod x 11 == 10) = false]) [.f] (by kernel_rfl!) ⟨by decide, h, trivial⟩
theorem t20t (h : (Int.fmod x 7 == 3) = true) : GivesT PG w (KK w) k (scp w 224) (ben p span r s ho ra tr ++ ten2 t x) (fun env => isTrue (ifT (lawS w 20)) env (eval (ifT (lawS w 20)) env)) true := runT (n := 60) (ps := [(7 : Int) ≠ 0, (Int.fmod x 7 == 3) = true]) [.t] (by kernel_rfl!) ⟨by decide, h, trivial⟩
theorem t20f (h : (Int.fmod x 7 == 3) = false) : GivesT PG w (KK w) k (scp w 224) (ben p span r s ho ra tr ++ ten2 t x) (fun env => isTrue (ifT (lawS w 20)) env (eval (ifT (lawS w 20)) env)) false := runT (n := 60) (ps := [(7 : Int) ≠ 0, (Int.fmod x 7 == 3) = false]) [.f] (by kernel_rfl!) ⟨by decide, h, trivial⟩
theorem t6 {a1 a2 a3 a4 b1 b2 b3 b4 : Int} {fa : V} (h : (!same (.tup [.int a1, .int a2, .int a3, .int a4]) (.tup [.int b1, .int b2, .int b3, .int b4])) = false) :
    GivesT PG w (KK w) k (scp w 224) (ben p span r s ho (.tup [.int a1, .int a2, .int a3, .int a4]) tr ++ ten2 t x ++ nf (.tup [.int b1, .int b2, .int b3, .int b4]) fa) (fun env => isTrue (orL (T6 w)) env (eval (orL (T6 w)) env)) false := runT (n := 60) (ps := [(!same (.tup [.int a1, .int a2, .int a3, .int a4]) (.tup [.int b1, .int b2, .int b3, .int b4])) = false]) [.f] (by kernel_rfl!) ⟨h, trivial⟩
theorem g14l {ne fa y rt L : V} {b a : Int} {way : Str} (h : Cz w k 219 [y, .int p, .str way] L) : Gives PG w (KK w) k (scp w 224) (ben p span r s ho ra tr ++ ten2 t x ++ nf ne fa ++ [(Str.ofString "b", V.int b), (Str.ofString "a", V.int a), (Str.ofString "y", y), (Str.ofString "way", V.str way), (Str.ofString "right", rt)]) (eval (cmpL (T14 w))) L :=
  runE (n := 60) (ps := [Cz w k 219 [y, .int p, .str way] L]) [.r L] (by kernel_rfl!) ⟨h, trivial⟩
theorem g14r {ne fa y rt : V} {b a : Int} {way : Str} : Gives PG w (KK w) k (scp w 224) (ben p span r s ho ra tr ++ ten2 t x ++ nf ne fa ++ [(Str.ofString "b", V.int b), (Str.ofString "a", V.int a), (Str.ofString "y", y), (Str.ofString "way", V.str way), (Str.ofString "right", rt)]) (eval (.List (lstE (binL (cmpR (T14 w)))) (binL (cmpR (T14 w))).pos)) (.lst [rt]) :=
  runE (n := 60) (ps := []) [] (by kernel_rfl!) trivial
end
end Mine
end
section
set_option Elab.async false
set_option maxRecDepth 100000
set_option autoImplicit false
open PySem PySem.W PySem.Calls PyProof.Rows PySem.Spec
namespace Mine
theorem at_snoc {p : Nat} {s0 r0 : Int} {ops : List Op} {o : Op} : at_ p s0 r0 (ops ++ [o]) (ops ++ [o]).length = Op.fwd p (at_ p s0 r0 ops ops.length) o := by
  unfold at_
  rw [List.take_length, List.take_length, List.foldl_append]
  rfl
theorem rg_tup (s : Int) (p : Nat) (r : Int) : ∃ a1 a2 a3 a4 : Int, rg s p r = .tup [.int a1, .int a2, .int a3, .int a4] := ⟨_, _, _, _, rfl⟩
theorem noL_rg (s : Int) (p : Nat) (r : Int) : noL (rg s p r) = true := by kernel_rfl!
theorem noL_ho (x : Int × Nat × Int) : noL (rg x.1 x.2.1 x.2.2) = true := noL_rg _ _ _

section
variable {w : World} {e : Heap} {P tr : Addr} {os : OsState} {own : List (Addr × Obj)} {ops : List Op} {s' : Shared} {A : Around} {env : Env} {E : Value → Shared → Prop} {Q : Flow → Shared → Prop}
variable {p : Nat} {s0 r0 s r t x : Int}

theorem nl_base {en : En} (h : NoLs en) : NoLs en := h
theorem nl1 {st : Int} : NoLs (ben p (2 ^ (p - 1)) r s (rg s0 p r0) (rg s p (r + 0)) tr ++ ten2 t x ++ [(Str.ofString "step", V.int st)]) := noLs_of (by kernel_rfl!)
theorem nlA {span rr ss : Int} {pp : Int} {h1 h2 r1 r2 : Int} {st : Int} : NoLs (ben pp span rr ss (rg h1 p h2) (rg r1 p r2) tr ++ ten2 t x ++ [(Str.ofString "step", V.int st)]) := noLs_of (by kernel_rfl!)
theorem nlB {span rr ss : Int} {pp : Int} {h1 h2 r1 r2 : Int} : NoLs (ben pp span rr ss (rg h1 p h2) (rg r1 p r2) tr ++ ten2 t x) := noLs_of (by kernel_rfl!)
theorem nlC {span rr ss : Int} {pp : Int} {h1 h2 r1 r2 n1 n2 f1 f2 : Int} : NoLs (ben pp span rr ss (rg h1 p h2) (rg r1 p r2) tr ++ ten2 t x ++ nf (rg n1 p n2) (rg f1 p f2)) := noLs_of (by kernel_rfl!)

/-- the step -/
theorem turnA (I : Lw w A env e P) (hs : Sg s) (hp : 1 ≤ p) (hp2 : p ≤ 20) (hl : ops.length ≤ 900) (hown : ∀ q ∈ own, q.1 ≠ tr)
    (S : Stg w e env.locals P (gposOf w) tr os own [] (ben p (2 ^ (p - 1)) r s (rg s0 p r0) (rg s p r) tr ++ ten2 t x) ops s')
    (q : ∀ s2 st, (st = 0 ∨ st = 1 ∨ st = -1) → Stg w e env.locals P (gposOf w) tr os own [] (ben p (2 ^ (p - 1)) (r + st) s (rg s0 p r0) (rg s p (r + st)) tr ++ ten2 t x) (ops ++ [.step st]) s2 → wpAny (model PG w) A (execs (List.drop 5 (lawB w)) env) Q E s2) :
    wpAny (model PG w) A (execs (lawB w) env) Q E s' := by
  refine execs_take 4 ?_
  have x0 := Int.fmod_nonneg_of_pos x (by decide : (0 : Int) < 2)
  have x1 := Int.fmod_lt_of_pos x (by decide : (0 : Int) < 2)
  have he : Sg (Int.fmod x 2) := by
    have : Int.fmod x 2 = 0 ∨ Int.fmod x 2 = 1 := by omega
    exact this
  have w0 := Int.fmod_nonneg_of_pos (Int.fdiv x 2 + t) (by decide : (0 : Int) < 5)
  have w1 := Int.fmod_lt_of_pos (Int.fdiv x 2 + t) (by decide : (0 : Int) < 5)
  have hway := way_item w0 w1
  have hlen : 0 ≤ Int.fmod (Int.fdiv x 2 + t) 5 ∧ Int.fmod (Int.fdiv x 2 + t) 5 < ((Str.length (Str.ofString "nfcud") : Nat) : Int) ∧ Str.length (Str.ofString "nfcud") < 1000 := ⟨w0, by
    have : Str.length (Str.ofString "nfcud") = 5 := by decide
    omega, by decide⟩
  have k1 := c_step (w := w) (k := 28) (eps := Int.fmod x 2) hs hway
  have k2 := c_pert (w := w) (k := 25) (eps := Int.fmod x 2) (p := p) (r := r) hs he hp hp2 hway
  generalize hst : stepI s (Int.fmod x 2) (Txt.item (Str.ofString "nfcud") (Int.fmod (Int.fdiv x 2 + t) 5)) = st at k1 k2
  have hst3 : st = 0 ∨ st = 1 ∨ st = -1 := by
    rw [← hst]
    unfold stepI
    split
    · exact .inl rfl
    · split <;> split <;> simp
  have D := l_b0 (w := w) (k := 30) (p := p) (span := 2 ^ (p - 1)) (rank := r) (minus := s) (ho := rg s0 p r0) (ra := rg s p r) (tr := tr) (t := t) (x := x) ⟨by decide, ⟨by decide, by decide⟩, by decide, hlen, k1, k2, trivial⟩
  refine S.does (I.a.le (by decide)) I.hsc D fun s1 S1 => ?_
  show wpAny _ _ (execs (List.drop 4 (lawB w)) env) _ _ _
  rw [l4]
  refine wpAny_execs_cons ?_
  rw [s4]
  have S2 : Stg w e env.locals P (gposOf w) tr os own [] (ben p (2 ^ (p - 1)) (r + st) s (rg s0 p r0) (rg s p (r + st)) tr ++ ten2 t x ++ [(Str.ofString "step", V.int st)]) ops s1 := S1.weak (sub_all (by kernel_rfl!))
  refine S2.append (op := .step st) (k := 30) (I.a.le (by decide)) I.hsc (ap4 w) (ns4 w) tr4 ar4 (by omega) nlA hown fun s2 S3 => ?_
  exact q s2 st hst3 (S3.weak (sub_all (by kernel_rfl!)))

/-- between the rungs -/
theorem turnB (I : Lw w A env e P) (hs : Sg s) (hp : 1 ≤ p) (hp2 : p ≤ 20) (hownP : ∀ q ∈ own, q.1 ≠ P)
    (S : Stg w e env.locals P (gposOf w) tr os own [] (ben p (2 ^ (p - 1)) r s (rg s0 p r0) (rg s p r) tr ++ ten2 t x) ops s')
    (q : ∀ s2, Stg w e env.locals P (gposOf w) tr os own [] (ben p (2 ^ (p - 1)) r s (rg s0 p r0) (rg s p r) tr ++ ten2 t x) ops s2 → wpAny (model PG w) A (execs [lawS w 19, lawS w 20] env) Q E s2) :
    wpAny (model PG w) A (execs (List.drop 5 (lawB w)) env) Q E s' := by
  refine execs_take 1 ?_
  have k1 := c_rung (w := w) (k := 29) (s := s) (r := r) hp hp2
  have k2 := c_rung (w := w) (k := 29) (s := s) (r := r + 1) hp hp2
  have D5 := l_b5 (w := w) (k := 30) (p := p) (span := 2 ^ (p - 1)) (rank := r) (minus := s) (ho := rg s0 p r0) (ra := rg s p r) (tr := tr) (t := t) (x := x) ⟨k1, k2, trivial⟩
  refine S.does (I.a.le (by decide)) I.hsc D5 fun s1 S1 => ?_
  show wpAny _ _ (execs (List.drop 1 (List.drop 5 (lawB w))) env) _ _ _
  rw [l6]
  refine wpAny_execs_cons ?_
  have S2 : Stg w e env.locals P (gposOf w) tr os own [] (ben p (2 ^ (p - 1)) r s (rg s0 p r0) (rg s p r) tr ++ ten2 t x ++ nf (rg s p r) (rg s p (r + 1))) ops s1 := S1.weak (sub_all (by kernel_rfl!))
  refine S2.all6 I hownP nlC (a1 := s) (a2 := od (rM p r)) (a3 := rE p r + tz (rM p r)) (a4 := ib (od (rM p r))) (by kernel_rfl!) (t6 (by rw [same_self]; rfl)) fun s3 S3 => ?_
  show wpAny _ _ (execs (List.drop 7 (lawB w)) env) _ _ _
  refine execs_take 7 ?_
  have f0 := Int.fmod_nonneg_of_pos (Int.fdiv x 10 + t) (by decide : (0 : Int) < 9)
  obtain ⟨b, hbI⟩ : ∃ b : Nat, (b : Int) = 1 + Int.fmod (Int.fdiv x 10 + t) 9 := ⟨(1 + Int.fmod (Int.fdiv x 10 + t) 9).toNat, by omega⟩
  obtain ⟨hb1, hb9, ha, ha2, way, hway, D7⟩ := blk7 (w := w) (ho := rg s0 p r0) (tr := tr) (r := r) hs hp hp2 hbI rfl
  generalize 1 + Int.fmod (Int.fdiv x 90) (2 ^ b - 1) = aa at ha ha2 D7
  refine S3.does (I.a.le (by decide)) I.hsc D7 fun s4 S4 => ?_
  show wpAny _ _ (execs (List.drop 7 (List.drop 7 (lawB w))) env) _ _ _
  rw [l14]
  refine wpAny_execs_cons ?_
  have kr := y_roads (w := w) (r := r) hs hp hp2 (by omega : b ≤ 20) ha ha2 hway
  have hR : ∃ a1 a2 a3 a4 : Int, (if hiB way s (rM p r) aa b = true then rg s p (r + 1) else rg s p r) = .tup [.int a1, .int a2, .int a3, .int a4] := by
    split
    · exact rg_tup _ _ _
    · exact rg_tup _ _ _
  obtain ⟨a1, a2, a3, a4, hR⟩ := hR
  rw [hR] at S4 kr
  refine S4.does (I.a.le (by decide)) I.hsc (does14 (g14l kr) g14r) fun s5 S5 => ?_
  show wpAny _ _ (execs (List.drop 15 (lawB w)) env) _ _ _
  refine execs_take 4 ?_
  have S6 : Stg w e env.locals P (gposOf w) tr os own [] (ben p (2 ^ (p - 1)) r s (rg s0 p r0) (rg s p r) tr ++ ten2 t x ++ nf (rg s p r) (rg s p (r + 1)) ++ [(Str.ofString "b", V.int b), (Str.ofString "a", V.int aa), (Str.ofString "y", nm s (rM p r * 2 ^ b + aa) (rE p r - b))]) ops s5 := S5.weak (sub_all (by kernel_rfl!))
  refine S6.does (I.a.le (by decide)) I.hsc (blk15 hs hp hp2 hb9 ha ha2) fun s7 S7 => ?_
  show wpAny _ _ (execs (List.drop 4 (List.drop 15 (lawB w))) env) _ _ _
  rw [l19]
  exact q s7 S7

/-- mirror and leap -/
theorem turnC (I : Lw w A env e P) (hp : 1 ≤ p) (hp2 : p ≤ 20) (hl : ops.length ≤ 900) (hown : ∀ q ∈ own, q.1 ≠ tr) (hx : ib (Int.fdiv x 7) ≤ 1000)
    (S : Stg w e env.locals P (gposOf w) tr os own [] (ben p (2 ^ (p - 1)) r s (rg s0 p r0) (rg s p r) tr ++ ten2 t x) ops s')
    (q : ∀ s2 os2, (∀ o ∈ os2, o.Ok) → os2.length ≤ 2 → Stg w e env.locals P (gposOf w) tr os own [] (ben p (2 ^ (p - 1)) (os2.foldl (Op.fwd p) (s, r)).2 (os2.foldl (Op.fwd p) (s, r)).1 (rg s0 p r0) (rg (os2.foldl (Op.fwd p) (s, r)).1 p (os2.foldl (Op.fwd p) (s, r)).2) tr ++ ten2 t x) (ops ++ os2) s2 → Q .next s2) :
    wpAny (model PG w) A (execs [lawS w 19, lawS w 20] env) Q E s' := by
  -- the leap, from any stand
  have leap : ∀ (s1 : Shared) (os1 : List Op), (∀ o ∈ os1, o.Ok) → os1.length ≤ 1 → Stg w e env.locals P (gposOf w) tr os own [] (ben p (2 ^ (p - 1)) (os1.foldl (Op.fwd p) (s, r)).2 (os1.foldl (Op.fwd p) (s, r)).1 (rg s0 p r0) (rg (os1.foldl (Op.fwd p) (s, r)).1 p (os1.foldl (Op.fwd p) (s, r)).2) tr ++ ten2 t x) (ops ++ os1) s1 →
      wpAny (model PG w) A (execs [lawS w 20] env) Q E s1 := by
    intro s1 os1 hok hl1 S1
    generalize hsr : os1.foldl (Op.fwd p) (s, r) = sr at S1
    refine wpAny_execs_cons ?_
    rw [s20]
    cases h : (Int.fmod x 7 == 3) with
    | false =>
      refine wpAny_If (S1.test (I.a.le (by decide) : At w (KK w) 30 A env e) I.hsc (t20f h) fun s2 S2 => ?_)
      show wpAny _ _ (execs [] env) _ _ _
      refine wpAny_execs_nil (wpAny_execs_nil ?_)
      exact q s2 os1 hok (by omega) (by rw [hsr]; exact S2)
    | true =>
      refine wpAny_If (S1.test (I.a.le (by decide) : At w (KK w) 30 A env e) I.hsc (t20t h) fun s2 S2 => ?_)
      show wpAny _ _ (execs (ifB (lawS w 20)) env) _ _ _
      refine execs_take 2 ?_
      have hpp := p2_le (m := p - 1) (n := 19) (by omega)
      have hpp0 := p2pos (p - 1)
      have e20 : (2 : Int) ^ 20 = 2 * 2 ^ 19 := by decide
      have hbb : ib (2 ^ (p - 1)) ≤ 20 := (ib_le (by omega)).mpr (by omega)
      have mo : IntMulOk (Int.fdiv x 7) (2 ^ (p - 1)) := mulOk hx (by omega)
      have D := l_b20 (w := w) (k := 30) (p := p) (span := 2 ^ (p - 1)) (rank := sr.2) (minus := sr.1) (ho := rg s0 p r0) (ra := rg sr.1 p sr.2) (tr := tr) (t := t) (x := x) ⟨⟨by decide, by decide⟩, c_leap (k := 29), ⟨by decide, by decide⟩, mo, trivial⟩
      refine S2.does (I.a.le (by decide)) I.hsc D fun s3 S3 => ?_
      show wpAny _ _ (execs (List.drop 2 (ifB (lawS w 20))) env) _ _ _
      rw [s20a]
      refine wpAny_execs_cons ?_
      refine S3.append (op := .leap (Int.fdiv x 7)) (k := 30) (I.a.le (by decide)) I.hsc (ap20 w) (ns20 w) trB ar20 (by rw [List.length_append]; omega) nlB hown fun s4 S4 => ?_
      refine wpAny_execs_nil (wpAny_execs_nil ?_)
      refine q s4 (os1 ++ [.leap (Int.fdiv x 7)]) ?_ (by rw [List.length_append]; simp; omega) ?_
      · intro o ho
        rcases List.mem_append.mp ho with ho | ho
        · exact hok o ho
        · rw [List.mem_singleton.mp ho]
          trivial
      · rw [List.foldl_append, hsr, ← List.append_assoc]
        exact S4
  refine wpAny_execs_cons ?_
  rw [s19]
  cases h : (Int.fmod x 11 == 10) with
  | false =>
    refine wpAny_If (S.test (I.a.le (by decide) : At w (KK w) 30 A env e) I.hsc (t19f h) fun s2 S2 => ?_)
    show wpAny _ _ (execs [] env) _ _ _
    refine wpAny_execs_nil ?_
    exact leap s2 [] (fun _ h => (nomatch h)) (by simp) (by simpa using S2)
  | true =>
    refine wpAny_If (S.test (I.a.le (by decide) : At w (KK w) 30 A env e) I.hsc (t19t h) fun s2 S2 => ?_)
    show wpAny _ _ (execs (ifB (lawS w 19)) env) _ _ _
    refine execs_take 2 ?_
    have D := l_b19 (w := w) (k := 30) (p := p) (span := 2 ^ (p - 1)) (rank := r) (minus := s) (ho := rg s0 p r0) (ra := rg s p r) (tr := tr) (t := t) (x := x) ⟨c_mirror (k := 29), trivial⟩
    refine S2.does (I.a.le (by decide)) I.hsc D fun s3 S3 => ?_
    show wpAny _ _ (execs (List.drop 2 (ifB (lawS w 19))) env) _ _ _
    rw [s19a]
    refine wpAny_execs_cons ?_
    refine S3.append (op := .mirror) (k := 30) (I.a.le (by decide)) I.hsc (ap19 w) (ns19 w) trB ar19 (by omega) nlB hown fun s4 S4 => ?_
    refine wpAny_execs_nil ?_
    refine leap s4 [.mirror] (fun o ho => ?_) (by simp) S4
    rw [List.mem_singleton.mp ho]
    trivial
end
end Mine
end
section
set_option Elab.async false
set_option maxRecDepth 100000
set_option autoImplicit false
open PySem PySem.W PySem.Calls PyProof.Rows PySem.Spec
namespace Mine
section
variable {w : World} {e : Heap} {P tr : Addr} {gpos : Pos} {os : OsState} {s : Shared} {A : Around} {env : Env}

theorem loop_stg {R : Result → Shared → Prop} {target : Expr} {body : List Stmt} {I : Addr} {fp wr : List Addr} {n : Nat} {Got : Nat → Value → Heap → Prop} {St : Nat → Heap → Prop}
    (W : Wk PG w A target I fp wr n Got St) (hLf : env.locals ∉ fp) (hwr : ∀ b ∈ wr, e.get? b = none) (hst : St 0 s.heap)
    (hcls : ∀ i h, St i h → ∀ b ∈ wr, ∃ o, h.get? b = some o ∧ o.cls ≠ .type "tuple" ∧ o.cls ≠ .type "list" ∧ o.cls ≠ .none)
    (Pz : Nat → En → List Op → Prop) (h0 : ∃ en ops, Pz 0 en ops ∧ Stg w e env.locals P gpos tr os [] wr en ops s)
    (step : ∀ (E' : Value → Shared → Prop) i v en ops s₁, i < n → Got i v s₁.heap → Pz i en ops → Stg w e env.locals P gpos tr os (ownOf e fp s₁.heap) [] en ops s₁ → (∀ p ∈ ownOf e fp s₁.heap, p.1 ∈ fp) →
      wpAny (model PG w) A (assign target env v) (fun _ s₂ => wpAny (model PG w) A (execs body env) (fun f s₃ => f = .next ∧ ∃ en' ops', Pz (i + 1) en' ops' ∧ Stg w e env.locals P gpos tr os (ownOf e fp s₁.heap) [] en' ops' s₃) E' s₂) E' s₁)
    (hR : ∀ s' en ops, Pz n en ops → Stg w e env.locals P gpos tr os [] [] en ops s' → R (.ok .next) s') :
    codeAny (model PG w) A (.forLoop target (.ref I) body [] env) R s := by
  have hLw : env.locals ∉ wr := fun h => hLf (W.sub _ h)
  have old : ∀ b o, e.get? b = some o → b ∉ wr := fun b o z hb => by rw [hwr b hb] at z; cases z
  refine codeAny_forLoop_any
    (fun k s' => ∃ i en ops, St i s'.heap ∧ Pz i en ops ∧ Stg w e env.locals P gpos tr os [] wr en ops s' ∧ i ≤ n ∧ k = n + 1 - i) ?_ (n + 1)
    (let ⟨en, ops, a, b⟩ := h0; ⟨0, en, ops, hst, a, b, Nat.zero_le _, rfl⟩)
  rintro k s' ⟨i, en, ops, hst', hPz, S, hi, rfl⟩
  obtain ⟨m, news, items, nn, ps, F, N, Rr, ht, hr, hP, hT, hc, ho, hb⟩ := S.ex
  by_cases hlt : i < n
  · refine W.item i _ _ _ hlt hst' fun v h₁ tk₁ hk₁ go => ?_
    refine go _ _ fun h₂ hG hst₂ hk₂ => ?_
    have up : ∀ b o, b ∉ wr → s'.heap.get? b = some o → h₂.get? b = some o := fun b o hb e => hk₂ b o hb (hk₁ b o hb e)
    have F₁ : Fr e env.locals h₂ m := ⟨F.ns.at' fun o z => up _ o hLw z, fun b o z => up b o (old b o z) (F.keep b o z), F.above⟩
    have N₁ : News e env.locals h₂ news := fun p hp => ⟨up _ _ (hb p hp) (N p hp).1, (N p hp).2⟩
    have Nown : News e env.locals h₂ (ownOf e fp h₂) := news_ownOf hLf
    have rt : ∀ p ∈ news, p ∈ ownOf e fp h₂ ++ news := fun p hp => List.mem_append_right _ hp
    have S₁ : Stg w e env.locals P gpos tr os (ownOf e fp h₂) [] en ops { s' with heap := h₂, toks := tk₁ } :=
      ⟨⟨m, ownOf e fp h₂ ++ news, items, nn, ps, F₁, Nown.append N₁, Rr.mono rt, rt _ ht, hr.mono rt, rt _ hP, hT, hc, fun p hp => List.mem_append_left _ hp, fun _ _ => by simp⟩, S.bare, S.os⟩
    refine wpAny_mono (step _ i v en ops { s' with heap := h₂, toks := tk₁ } hlt hG hPz S₁ ownOf_sub)
      (fun _ s₂ h₂' => wpAny_mono h₂' (fun f s₃ h₃ => ?_) fun _ _ e => e) fun _ _ e => e
    obtain ⟨rfl, en', ops', hPz', S₃⟩ := h₃
    obtain ⟨m3, news3, items3, nn3, ps3, F3, N3, R3, ht3, hr3, hP3, hT3, hc3, ho3, hb3⟩ := S₃.ex
    refine ⟨n + 1 - (i + 1), by omega, i + 1, en', ops', ?_, hPz', ?_, hlt, rfl⟩
    · refine W.frame _ _ _ hst₂ fun b hb o z => ?_
      cases hn : e.get? b with
      | some o₀ =>
        have : o₀ = o := by have := F₁.keep b o₀ hn; rw [z] at this; exact (Option.some.inj this).symm
        exact this ▸ F3.keep b o₀ hn
      | none => exact (N3 _ (ho3 _ (mem_ownOf hb hn z))).1
    · have offw : ∀ p ∈ news3, (p.2.cls = .type "tuple" ∨ p.2.cls = .type "list" ∨ p.2.cls = .none) → p.1 ∉ wr := by
        intro p hp hcl hI
        obtain ⟨o, g, c1, c2, c3⟩ := hcls _ _ hst₂ p.1 hI
        have g1 := (N3 _ (ho3 _ (mem_ownOf (W.sub _ hI) (hwr _ hI) g))).1
        have g2 := (N3 _ hp).1
        rw [g1] at g2
        have : o = p.2 := Option.some.inj g2
        rw [← this] at hcl
        rcases hcl with hcl | hcl | hcl
        · exact c1 hcl
        · exact c2 hcl
        · exact c3 hcl
      have keep : ∀ p ∈ news3, IsD p.2 → p ∈ off wr news3 := fun p hp hd => mem_off hp (offw p hp (hd.elim .inl fun x => .inr (.inl x)))
      exact ⟨⟨m3, off wr news3, items3, nn3, ps3, F3, news_app N3 off_sub, R3.sel keep, mem_off ht3 (offw _ ht3 (.inr (.inl rfl))), Reps.sel keep hr3, mem_off hP3 (offw _ hP3 (.inr (.inr rfl))), hT3, hc3, fun _ h => (nomatch h), off_off⟩, S₃.bare, S₃.os⟩
  · have hin : i = n := by omega
    subst hin
    refine W.done _ _ _ hst' fun h₁ tk₁ hk₁ => wpAny_execs_nil ?_
    refine hR _ en ops hPz ⟨⟨m, news, items, nn, ps, ⟨F.ns.at' fun o z => hk₁ _ o hLw z, fun b o z => hk₁ b o (old b o z) (F.keep b o z), F.above⟩, fun p hp => ⟨hk₁ _ _ (hb p hp) (N p hp).1, (N p hp).2⟩, Rr, ht, hr, hP, hT, hc, ho, fun _ _ => by simp⟩, S.bare, S.os⟩
end
end Mine
end
section
set_option Elab.async false
set_option maxRecDepth 100000
set_option autoImplicit false
open PySem PySem.W PySem.Calls PyProof.Rows PySem.Spec
namespace Mine
theorem bt_enum : bootBuiltins "enumerate" = some (.type "enumerate") := by boot_fast
theorem sc_enum (w : World) : (scp w 224).names.lookup (Str.ofString "enumerate") = some .globalImplicit := by kernel_rfl!
theorem sc_t (w : World) : (scp w 224).names.lookup (Str.ofString "t") = some .local := by kernel_rfl!
theorem sc_x (w : World) : (scp w 224).names.lookup (Str.ofString "x") = some .local := by kernel_rfl!
theorem sc_trail (w : World) : (scp w 224).names.lookup (Str.ofString "trail") = some .local := by kernel_rfl!
def asP : Stmt → Pos
  | .Assign _ _ p => p
  | _ => default
def asT : Stmt → Pos
  | .Assign (.Name _ p :: _) _ _ => p
  | _ => default
def asE : Stmt → Expr
  | .Assign _ e _ => e
  | _ => default
theorem s10 (w : World) : stm w 224 10 = .Assign [.Name (Str.ofString "trail") (asT (stm w 224 10))] (.List [] (asE (stm w 224 10)).pos) (asP (stm w 224 10)) := by kernel_rfl!
noncomputable abbrev I11 (w : World) : Expr := itE (stm w 224 11)
noncomputable abbrev D11e (w : World) : Expr := argE (I11 w)
theorem s11 (w : World) : stm w 224 11 = .For (.Tuple [.Name (Str.ofString "t") (fst2 (stm w 224 11)), .Name (Str.ofString "x") (snd2 (stm w 224 11))] 0 (posT (stm w 224 11))) (.Call (.Name (Str.ofString "enumerate") (posF (I11 w))) [.Subscript (.Name (Str.ofString "draws") (sx1 (D11e w))) (.Slice (some (.Constant (.int 1) 0 (sx2 (D11e w)))) none none (sx4 (D11e w))) (sx5 (D11e w))] [] (posC (I11 w))) (lawB w) [] (posS (stm w 224 11)) := by kernel_rfl!
theorem l10 (w : World) : List.drop 10 (bdy w 224) = stm w 224 10 :: stm w 224 11 :: List.drop 12 (bdy w 224) := by kernel_rfl!

section
variable {w : World} {k : Nat} {e : Heap} {P tr : Addr} {gpos : Pos} {os : OsState} {own : List (Addr × Obj)} {en : En} {ops : List Op} {s : Shared} {A : Around} {env : Env} {E : Value → Shared → Prop}
theorem Stg.assign2 {Q : Unit → Shared → Prop} {x y : Str} {px py pt : Pos} {kk : Nat} {T : Addr} {i j : Int} {ti tj : Tok} (S : Stg w e env.locals P gpos tr os own [] en ops s) (a : At w (KK w) k A env e) (hx : env.scope.names.lookup x = some .local) (hy : env.scope.names.lookup y = some .local)
    (hT : s.heap.IsTuple T #[.int i ti, .int j tj]) (q : ∀ s', Stg w e env.locals P gpos tr os own [] ((en.put x (.int i)).put y (.int j)) ops s' → Q () s') :
    wpAny (model PG w) A (assign (.Tuple [.Name x px, .Name y py] kk pt) env (.ref T)) Q E s := by
  obtain ⟨m, news, items, n, ps, F, N, R, ht, hr, hP, hTr, hc, ho, hb⟩ := S.ex
  refine wpAny_assign_Tuple a.hh hT rfl rfl fun h₃ hx₃ => ?_
  replace hx₃ : Heap.ExtBut s.heap.objs.size s.heap h₃ := hx₃
  have up₃ : ∀ b o, s.heap.get? b = some o → h₃.get? b = some o := fun b o x => hx₃ b o (Nat.ne_of_lt (Heap.lt_size x)) x
  have F₃ : Fr e env.locals h₃ m := ⟨F.ns.at' fun o z => up₃ _ o z, fun b o z => up₃ b o (F.keep b o z), F.above⟩
  have N₃ : News e env.locals h₃ news := fun p hp => ⟨up₃ _ _ (N p hp).1, (N p hp).2⟩
  show wpAny _ A (do holding [.int j tj] (assign (.Name x px) env (.int i ti)); do holding [] (assign (.Name y py) env (.int j tj)); pure ()) _ _ _
  refine wpAny_bind (wpAny_holding (wpAny_assign_Name (store_ok (s := { s with heap := h₃ }) a hx F₃ N₃ R .int ?_)))
  intro h4 t4 m4 F4 N4 R4
  refine wpAny_bind (wpAny_holding (wpAny_assign_Name (store_ok a hy F4 N4 R4 .int ?_)))
  intro h5 t5 m5 F5 N5 R5
  exact wpAny_pure (q _ ⟨⟨m5, news, items, n, ps, F5, N5, R5, ht, hr, hP, hTr, hc, ho, hb⟩, S.bare, S.os⟩)

theorem pick_from (l : List Value) : kms_pick l (some 1) none = l.drop 1 := by
  unfold kms_pick kms_lo kms_hi
  simp only [show ¬ ((1 : Int) < 0) by decide, if_false]
  show (l.drop (min (Int.toNat 1) l.length)).take (l.length - min (Int.toNat 1) l.length) = _
  rw [kmk_drop_min, List.take_of_length_le (by rw [List.length_drop]; omega)]
  rfl
theorem slice_one {x : Str} {p1 p2 p4 p5 : Pos} {ds : List V} {sc : Scope} (hn : Gives PG w (KK w) k sc en (eval (.Name x p1)) (.lst ds)) (hz : ds.length ≤ 1000) :
    Gives PG w (KK w) k sc en (eval (.Subscript (.Name x p1) (.Slice (some (.Constant (.int 1) 0 p2)) none none p4) p5)) (.lst (ds.drop 1)) := by
  intro A env h₀ m news s Q E a hsc F N R q
  refine Subscript_ ?_
  refine hn A env h₀ m news s _ E a hsc F N R ?_
  intro v1 h1 t1 n1 F1 N1 s1 r1
  refine wpAny_Slice ?_
  rw [evalPart_none, evalPart_some]
  refine wpAny_Constant_int (wpAny_pure (wpAny_pure ?_))
  cases r1 with | lst H c d rs =>
  rename_i ad o items n
  have hl : h1.IsList ad items := ⟨o, H.get N1 (a.In F1), c, n, d⟩
  have hlen : items.size = ds.length := by have := rs.length; simpa using this
  refine kmk_slice (s := ⟨h1, _, _, t1 + 1, _⟩) F1 N1 hl (IsPart.int _ _) IsPart.none ?_ (by with_unfolding_all rfl) (by intro _; with_unfolding_all rfl) (by rw [sizeLine_eq]; omega)
  intro D h3 F3 N3 _
  have epick : slicePick items (some 1) none none = (items.toList.drop 1).toArray := by rw [kms_pick_eq, pick_from]
  rw [epick] at N3
  exact q _ h3 _ _ F3 N3 (fun p hp => .tail _ (s1 p hp)) (.lst (.inl (.head _)) rfl rfl (by simpa using (rs.mono fun p hp => List.mem_cons_of_mem _ hp).drop 1))
end
end Mine
end
section
set_option Elab.async false
set_option maxRecDepth 100000
set_option autoImplicit false
open PySem PySem.W PySem.Calls PyProof.Rows PySem.Spec
namespace Mine
abbrev den (p : Nat) (r s : Int) (ho ra : V) (ds : List V) : En := [(Str.ofString "p", V.int p), (Str.ofString "span", V.int (2 ^ (p - 1))), (Str.ofString "rank", V.int r), (Str.ofString "minus", V.int s), (Str.ofString "home", ho), (Str.ofString "raw", ra), (Str.ofString "draws", V.lst ds)]
def Pz (p : Nat) (s0 r0 : Int) (tr : Addr) (i : Nat) (en : En) (ops : List Op) : Prop :=
  en = ben p (2 ^ (p - 1)) (at_ p s0 r0 ops ops.length).2 (at_ p s0 r0 ops ops.length).1 (rg s0 p r0) (rg (at_ p s0 r0 ops ops.length).1 p (at_ p s0 r0 ops ops.length).2) tr ∧ (∀ o ∈ ops, o.Ok) ∧ ops.length ≤ 3 * i
theorem at_app {p : Nat} {s0 r0 : Int} (a b : List Op) : at_ p s0 r0 (a ++ b) (a ++ b).length = b.foldl (Op.fwd p) (at_ p s0 r0 a a.length) := by
  unfold at_
  rw [List.take_length, List.take_length, List.foldl_append]

theorem law_mid {w : World} {A : Around} {env : Env} {e : Heap} {P : Addr} (I : Lw w A env e P) {s : Shared} {m : Str → Option Value} {news : List (Addr × Obj)} {p : Nat} {s0 r0 d : Int} {xs : List Int} {Q : Flow → Shared → Prop} {E : Value → Shared → Prop}
    (F : Fr e env.locals s.heap m) (N : News e env.locals s.heap news) (hP : (P, tabO #[]) ∈ news) (G : AllBare s.gens) (R : EnRep (KK w) news m (den p r0 s0 (rg s0 p r0) (rg s0 p r0) (V.int d :: xs.map V.int)))
    (hs : Sg s0) (hp : 1 ≤ p) (hp2 : p ≤ 20) (hxs : ∀ x ∈ xs, ib (Int.fdiv x 7) ≤ 1000) (hl : xs.length ≤ 100) (hne : xs ≠ [])
    (q : ∀ s' m' ps, s'.os = s.os → AllBare s'.gens → Fr e env.locals s'.heap m' → s'.heap.get? P = some (tabO ps) → Q (.ret (.bool true)) s') :
    wpAny (model PG w) A (execs (List.drop 10 (bdy w 224)) env) Q E s := by
  have a30 : At w (KK w) 30 A env e := I.a.le (by decide)
  rw [l10]
  refine wpAny_execs_cons ?_
  rw [s10]
  refine wpAny_Assign_Name ?_ (swapsWith_no rfl)
  refine List_ ?_
  refine spliced_none ?_
  refine newList_N F N (fun h1 F1 N1 => ?_) (by decide)
  generalize htr : s.heap.objs.size = tr at N1
  have sub1 : ∀ x ∈ news, x ∈ (tr, listOf #[] 0) :: news := fun x hx => .tail _ hx
  refine store_ok (s := { s with heap := h1 }) I.a (by rw [I.hsc]; exact sc_trail w) F1 N1 (R.mono sub1) (.ref (a := tr)) ?_
  intro h2 t2 m2 F2 N2 R2
  refine wpAny_execs_cons ?_
  rw [s11]
  refine wpAny_For ?_ (fun _ => rfl)
  refine Call_ ?_
  refine builtin_name I.a F2 (by rw [I.hsc]; exact sc_enum w) (ns_enum w) bt_enum (by decide) (by decide) ?_
  refine Pv.callWith_type1 ?_ rfl rfl
  refine spliced_more ?_ rfl
  have gd : Gives PG w (KK w) 30 (scp w 224) (den p r0 s0 (rg s0 p r0) (rg s0 p r0) (V.int d :: xs.map V.int)) (eval (.Name (Str.ofString "draws") (sx1 (D11e w)))) (.lst (V.int d :: xs.map V.int)) := runE (n := 60) (ps := []) [] (by kernel_rfl!) trivial
  have R2' : EnRep (KK w) ((tr, listOf #[] 0) :: news) m2 (den p r0 s0 (rg s0 p r0) (rg s0 p r0) (V.int d :: xs.map V.int)) := R2.some (sub_all (by kernel_rfl!))
  have R2b : EnRep (KK w) ((tr, listOf #[] 0) :: news) m2 (ben p (2 ^ (p - 1)) r0 s0 (rg s0 p r0) (rg s0 p r0) tr) := R2.some (sub_all (by kernel_rfl!))
  refine slice_one gd (by simp; omega) A env e m2 _ _ _ E a30 I.hsc F2 N2 R2' ?_
  intro v3 h3 t3 n3 F3 N3 sub3 r3
  refine spliced_none ?_
  have r3 : Rep (KK w) n3 v3 (.lst (xs.map V.int)) := r3
  cases r3 with | lst H c dd rs =>
  rename_i l o items n
  have ho := H.get N3 (I.a.In F3)
  have hls : h3.IsList l items := ⟨o, ho, c, n, dd⟩
  have hlen : items.size = xs.length := by have := rs.length; simpa using this
  refine call_enumerate_list (s := { s with heap := h3, toks := t3 }) hls fun h4 he hit hsz hk => ?_
  refine wpAny_pyIter_enum (s := { s with heap := h4, toks := t3 }) he ?_
  have he : IsEnum h4 (h3.objs.size + 1) h3.objs.size 0 .none := he
  have hit : h4.IsListIter h3.objs.size l 0 := hit
  have hk : ∀ b o, h3.get? b = some o → h4.get? b = some o := hk
  have F4 : Fr e env.locals h4 m2 := F3.keeps hk
  have N4 : News e env.locals h4 n3 := fun x hx => ⟨hk _ _ (N3 x hx).1, (N3 x hx).2⟩
  have hllt : l < h3.objs.size := Heap.lt_size ho
  have hLlt : env.locals < h3.objs.size := F3.ns.lt
  have hab : e.objs.size ≤ env.locals := F3.above
  have htr3 : (tr, listOf #[] 0) ∈ n3 := sub3 _ (.head _)
  have hP3 : (P, tabO #[]) ∈ n3 := sub3 _ (.tail _ hP)
  have htrlt : tr < h3.objs.size := Heap.lt_size (N3 _ htr3).1
  have hPlt : P < h3.objs.size := Heap.lt_size (N3 _ hP3).1
  have hltr : l ≠ tr := by
    intro z
    have h1 := (N3 _ htr3).1
    rw [z, h1] at ho
    have h2 := Option.some.inj ho
    have h3 : (Data.seq #[] 0 : Data) = .seq items n := (congrArg Obj.data h2).trans dd
    injection h3 with h4 _
    rw [← h4] at hlen
    have : xs.length = 0 := by simpa using hlen.symm
    exact hne (List.length_eq_zero_iff.mp this)
  have hlP : l ≠ P := by
    intro z
    have h1 := (N3 _ hP3).1
    rw [z, h1] at ho
    have h2 := Option.some.inj ho
    rw [← h2] at c
    exact absurd c (show Value.none ≠ Value.type "list" by decide)
  have W := Wk.ofU (elts := [.Name (Str.ofString "t") (fst2 (stm w 224 11)), .Name (Str.ofString "x") (snd2 (stm w 224 11))]) (kk := 0) (pos := posT (stm w 224 11))
    (WalksT.enumerate (prog := PG) (w := w) (A := A) I.a.hh (h3.objs.size + 1) h3.objs.size l (Nat.succ_ne_self _) (Nat.ne_of_lt (Nat.lt_succ_of_lt hllt)) (Nat.ne_of_lt hllt) items).toU
  have off2 : ∀ x ∈ n3, x.1 ∉ [h3.objs.size + 1, h3.objs.size] := by
    intro x hx hI
    have h1 : x.1 < h3.objs.size := Heap.lt_size (N3 x hx).1
    rcases List.mem_cons.mp hI with z | hI
    · exact absurd (Nat.lt_succ_of_lt h1) (z ▸ Nat.lt_irrefl _)
    · exact absurd h1 ((List.mem_singleton.mp hI) ▸ Nat.lt_irrefl _)
  refine loop_stg (w := w) (e := e) (P := P) (tr := tr) (gpos := gposOf w) (os := s.os) (s := { s with heap := h4, toks := t3 }) (env := env) (A := A) (R := fun r s' => match r with | .ok f => (match f with | .next => wpAny (model PG w) A (execs (List.drop 12 (bdy w 224)) env) Q E s' | f => Q f s') | .error z => cameBackBy (model PG w) A env E z s')
    W ?_ ?_ ?_ ?_ (Pz p s0 r0 tr) ?_ ?_ ?_
  · intro hm
    rcases List.mem_cons.mp hm with z | hm
    · exact absurd (Nat.lt_succ_of_lt hLlt) (z ▸ Nat.lt_irrefl _)
    · rcases List.mem_cons.mp hm with z | hm
      · exact absurd hLlt (z ▸ Nat.lt_irrefl _)
      · exact H.neL N3 I.a.X hab (List.mem_singleton.mp hm).symm
  · intro b hb
    refine Heap.get?_none_of_le ?_
    have : h3.objs.size ≤ b := by
      rcases List.mem_cons.mp hb with rfl | hb
      · exact Nat.le_succ _
      · exact Nat.le_of_eq (List.mem_singleton.mp hb).symm
    exact Nat.le_trans (Nat.le_trans hab (Nat.le_of_lt hLlt)) this
  · exact ⟨⟨.none, he⟩, hit, hls.at fun o z => hk _ o z⟩
  · intro i h hst b hb
    obtain ⟨⟨old, h5⟩, ⟨oi, h6, h7, _⟩, _⟩ := hst
    rcases List.mem_cons.mp hb with rfl | hb
    · exact ⟨_, h5, show Value.type "enumerate" ≠ _ by decide, show Value.type "enumerate" ≠ _ by decide, show Value.type "enumerate" ≠ _ by decide⟩
    · rw [List.mem_singleton.mp hb]
      exact ⟨oi, h6, by rw [h7]; decide, by rw [h7]; decide, by rw [h7]; decide⟩
  · refine ⟨_, [], ⟨rfl, fun _ h => (nomatch h), Nat.zero_le _⟩, ⟨⟨m2, n3, #[], 0, #[], F4, N4, ?_, htr3, .nil, hP3, trivial, .inl rfl, fun _ h => (nomatch h), off2⟩, G, rfl⟩⟩
    exact (R2b.mono sub3)
  · intro E' i v en ops s1 hi hG hPz S hof
    obtain ⟨T, vals, rfl, ⟨ti, xv, hxi, rfl⟩, hT⟩ := hG
    obtain ⟨rfl, hok, hlo⟩ := hPz
    have hi' : i < xs.length := by omega
    have hxd : (xs.map V.int)[i]? = some (V.int xs[i]) := by simp [hi']
    obtain ⟨v', hv', rv⟩ := rs.get hxd
    have e1 : items[i]? = some v' := by simpa using hv'
    have e2 : xv = v' := by
      rw [hxi] at e1
      exact Option.some.inj e1
    subst e2
    cases rv
    rename_i tx
    have hown : ∀ b : Addr, b ∉ [h3.objs.size + 1, h3.objs.size, l] → ∀ y ∈ ownOf e [h3.objs.size + 1, h3.objs.size, l] s1.heap, y.1 ≠ b := fun b hb y hy z => hb (z ▸ hof y hy)
    have own1 := hown tr (by
      intro hm
      rcases List.mem_cons.mp hm with z | hm
      · exact absurd (Nat.lt_succ_of_lt htrlt) (z ▸ Nat.lt_irrefl _)
      · rcases List.mem_cons.mp hm with z | hm
        · exact absurd htrlt (z ▸ Nat.lt_irrefl _)
        · exact hltr (List.mem_singleton.mp hm).symm)
    have own2 := hown P (by
      intro hm
      rcases List.mem_cons.mp hm with z | hm
      · exact absurd (Nat.lt_succ_of_lt hPlt) (z ▸ Nat.lt_irrefl _)
      · rcases List.mem_cons.mp hm with z | hm
        · exact absurd hPlt (z ▸ Nat.lt_irrefl _)
        · exact hlP (List.mem_singleton.mp hm).symm)
    have hxm : ib (Int.fdiv xs[i] 7) ≤ 1000 := hxs _ (List.getElem_mem hi')
    have hi100 : i < 100 := by omega
    refine S.assign2 I.a (by rw [I.hsc]; exact sc_t w) (by rw [I.hsc]; exact sc_x w) hT fun s2 S2 => ?_
    have hsg := at_sg (p := p) (r0 := r0) hs (ops := ops) ops.length
    generalize hsr : at_ p s0 r0 ops ops.length = sr at S2 hsg
    refine turnA (s := sr.1) (r := sr.2) (s0 := s0) (r0 := r0) (t := i) (x := xs[i]) I hsg hp hp2 (by omega) own1 (S2.weak (sub_all (by kernel_rfl!))) fun s3 st hst S3 => ?_
    refine turnB I hsg hp hp2 own2 S3 fun s4 S4 => ?_
    refine turnC I hp hp2 (by rw [List.length_append]; simp; omega) own1 hxm S4 fun s5 os2 hok2 hl2 S5 => ?_
    refine ⟨rfl, _, ops ++ [Op.step st] ++ os2, ⟨rfl, ?_, ?_⟩, ?_⟩
    · intro z hz
      rcases List.mem_append.mp hz with hz | hz
      · rcases List.mem_append.mp hz with hz | hz
        · exact hok z hz
        · rw [List.mem_singleton.mp hz]
          exact hst
      · exact hok2 z hz
    · rw [List.length_append, List.length_append]
      simp
      omega
    · have e9 : at_ p s0 r0 (ops ++ [Op.step st] ++ os2) (ops ++ [Op.step st] ++ os2).length = os2.foldl (Op.fwd p) (sr.1, sr.2 + st) := by
        rw [at_app, at_app, hsr]
        rfl
      rw [e9]
      exact S5.weak (sub_all (by kernel_rfl!))
  · intro s' en ops hPz S
    obtain ⟨rfl, hok, hlo⟩ := hPz
    obtain ⟨m5, n5, it5, k5, ps5, F5, N5, R5, ht5, hr5, hP5, hT5, hc5, _, _⟩ := S.ex
    have T := tail_ok (w := w) (span := 2 ^ (p - 1)) hp hp2 (r0 := r0) hs hok (by omega)
    have R6 : EnRep (KK w) n5 m5 [(Str.ofString "p", V.int p), (Str.ofString "span", V.int (2 ^ (p - 1))), (Str.ofString "rank", V.int (at_ p s0 r0 ops ops.length).2), (Str.ofString "minus", V.int (at_ p s0 r0 ops ops.length).1), (Str.ofString "home", rg s0 p r0), (Str.ofString "raw", rg (at_ p s0 r0 ops ops.length).1 p (at_ p s0 r0 ops ops.length).2), (Str.ofString "trail", V.lst (ops.map Op.v))] := by
      intro x v hx
      by_cases hxt : x = Str.ofString "trail"
      · subst hxt
        obtain ⟨val, h1, h2⟩ := R5 (Str.ofString "trail") (V.ref tr) (by kernel_rfl!)
        cases h2
        refine ⟨_, h1, ?_⟩
        have : some (V.lst (ops.map Op.v)) = some v := by
          rw [← hx]
          kernel_rfl!
        cases this
        exact .lst (.inl ht5) rfl rfl hr5
      · refine R5 x v ?_
        rw [← hx]
        have hb : (x == Str.ofString "trail") = false := by simpa using hxt
        simp only [List.lookup_cons, hb, List.lookup_nil]
    refine T A env e m5 n5 s' Q E a30 I.hsc F5 N5 R6 ?_
    intro f h' tk' m6 n6 F6 N6 sub6 r6
    obtain ⟨val, rfl, rv⟩ := r6
    cases rv
    exact q _ m6 ps5 S.os S.bare F6 (N6 _ (sub6 _ hP5)).1
end Mine
end
section
set_option Elab.async false
set_option maxRecDepth 100000
set_option autoImplicit false
open PySem PySem.W PySem.Calls PyProof.Rows PySem.Spec
namespace Mine
/-- the first block -/
theorem blkTop {w : World} (d : Int) (xs : List V) : ∃ (p : Nat) (s r : Int), 1 ≤ p ∧ p ≤ 20 ∧ Sg s ∧ Dz w 30 224 [(Str.ofString "draws", V.lst (V.int d :: xs))] (List.take 8 (List.drop 2 (bdy w 224))) (.next (den p r s (rg s p r) (rg s p r) (V.int d :: xs))) := by
  have f0 := Int.fmod_nonneg_of_pos d (by decide : (0 : Int) < 20)
  have f1 := Int.fmod_lt_of_pos d (by decide : (0 : Int) < 20)
  obtain ⟨p, hpI⟩ : ∃ p : Nat, (p : Int) = 1 + Int.fmod d 20 := ⟨(1 + Int.fmod d 20).toNat, by omega⟩
  have hp : 1 ≤ p := by omega
  have hp2 : p ≤ 20 := by omega
  have tn : Int.toNat ((p : Int) - 1) = p - 1 := by omega
  have es : (1 : Int) * 2 ^ Int.toNat (1 + Int.fmod d 20 - 1) = 2 ^ (p - 1) := by rw [← hpI, tn, Int.one_mul]
  have hpp := p2pos (p - 1)
  have hle : (2 : Int) ^ (p - 1) ≤ 524288 := by have := p2_le (m := p - 1) (n := 19) (by omega); simpa using this
  have i1 : Builtin.Int.intBits 1 = 1 := ib_one
  have e27 : (2 : Int) ^ 27 = 134217728 := by decide
  have sh : ShOk 1 (1 + Int.fmod d 20 - 1) := ⟨by omega, by rw [i1, e27]; omega⟩
  have dv : DvOk ((1 : Int) * 2 ^ Int.toNat (1 + Int.fmod d 20 - 1)) := by rw [es]; exact ⟨by omega, by omega⟩
  have dv20 : DvOk 20 := ⟨by decide, by decide⟩
  have hM := rM_pos p (Int.fdiv d 20)
  have hib := ib_od hM
  have hib2 := rM_ib hp (Int.fdiv d 20)
  have main : ∀ s : Int, Sg s → Cz w 30 191 [.int (Int.fdiv d 20), .int (1 + Int.fmod d 20), .int s] (rg s p (Int.fdiv d 20)) ∧ Cz w 30 160 [rg s p (Int.fdiv d 20)] (.tup [nm s (rM p (Int.fdiv d 20)) (-(ib (rM p (Int.fdiv d 20)) : Int)), .int (ib (rM p (Int.fdiv d 20)) + rE p (Int.fdiv d 20))]) ∧
      ((((ib (rM p (Int.fdiv d 20)) : Nat) : Int) + rE p (Int.fdiv d 20) != Int.fdiv (Int.fdiv d 20) (1 * 2 ^ Int.toNat (1 + Int.fmod d 20 - 1)) + (1 + Int.fmod d 20)) = false) ∧
      ((!same (nm s (rM p (Int.fdiv d 20)) (-(ib (rM p (Int.fdiv d 20)) : Int))) (.tup [.int s, .int (od (rM p (Int.fdiv d 20))), .int (-((ib (od (rM p (Int.fdiv d 20))) : Nat) : Int)), .int ((ib (od (rM p (Int.fdiv d 20))) : Nat) : Int)])) = false) := by
    intro s hs
    refine ⟨?_, c_frexp (k := 28) hM, ?_, ?_⟩
    · rw [← hpI]
      exact c_rung (k := 29) hp hp2
    · rw [es, ← hpI, Int.fdiv_eq_ediv_of_nonneg _ (by omega : (0 : Int) ≤ 2 ^ (p - 1)), hib2]
      show ((p : Int) + rE p (Int.fdiv d 20) != rE p (Int.fdiv d 20) + p) = false
      rw [Int.add_comm]
      simp
    · have e : nm s (rM p (Int.fdiv d 20)) (-(ib (rM p (Int.fdiv d 20)) : Int)) = .tup [.int s, .int (od (rM p (Int.fdiv d 20))), .int (-((ib (od (rM p (Int.fdiv d 20))) : Nat) : Int)), .int ((ib (od (rM p (Int.fdiv d 20))) : Nat) : Int)] := by
        have z : -(ib (rM p (Int.fdiv d 20)) : Int) + (tz (rM p (Int.fdiv d 20)) : Int) = -((ib (od (rM p (Int.fdiv d 20))) : Nat) : Int) := by omega
        unfold nm mp
        rw [z]
      rw [e, same_self]
      rfl
  cases hm : (Int.fmod d 3 == 0) with
  | true =>
    obtain ⟨c1, c2, c3, c4⟩ := main 1 (.inr rfl)
    refine ⟨p, 1, Int.fdiv d 20, hp, hp2, .inr rfl, ?_⟩
    have D := l_top2_m (w := w) (k := 30) (ld := xs) (d := d) ⟨by decide, sh, dv20, by decide, hm, c1, c2, dv, c3, c4, trivial⟩
    rw [es, ← hpI] at D
    exact D.conv (sub_all (by kernel_rfl!)) (sub_all (by kernel_rfl!))
  | false =>
    obtain ⟨c1, c2, c3, c4⟩ := main 0 (.inl rfl)
    refine ⟨p, 0, Int.fdiv d 20, hp, hp2, .inl rfl, ?_⟩
    have D := l_top2_p (w := w) (k := 30) (ld := xs) (d := d) ⟨by decide, sh, dv20, by decide, hm, c1, c2, dv, c3, c4, trivial⟩
    rw [es, ← hpI] at D
    exact D.conv (sub_all (by kernel_rfl!)) (sub_all (by kernel_rfl!))

/-! the draws -/
def lcElt : Expr → Expr
  | .ListComp e _ _ _ => e
  | _ => default
def lcS : Expr → Scope
  | .ListComp _ _ s _ => s
  | _ => { kind := .function, names := [], isGenerator := false, isCoroutine := false }
def lcT : Expr → Pos
  | .ListComp _ (g :: _) _ _ => g.target.pos
  | _ => default
def lcI : Expr → Expr
  | .ListComp _ (g :: _) _ _ => g.iter
  | _ => default
def ifxT : Expr → Expr
  | .IfExp t _ _ _ => t
  | _ => default
def ifxA : Expr → Expr
  | .IfExp _ a _ _ => a
  | _ => default
def ifxB : Expr → Expr
  | .IfExp _ _ b _ => b
  | _ => default
noncomputable abbrev e0 (w : World) : Expr := asE (stm w 224 0)
noncomputable abbrev e1 (w : World) : Expr := asE (stm w 224 1)
noncomputable abbrev lc1 (w : World) : Expr := binL (e1 w)
noncomputable abbrev x1 (w : World) : Expr := lcElt (lc1 w)
noncomputable abbrev sl1 (w : World) : Expr := lcI (lc1 w)
theorem s0 (w : World) : stm w 224 0 = .Assign [.Name (Str.ofString "big") (asT (stm w 224 0))] (.BinOp (.Constant (.int 10) 0 (binL (e0 w)).pos) .Pow (.Constant (.int 120) 0 (binR (e0 w)).pos) (e0 w).pos) (asP (stm w 224 0)) := by kernel_rfl!
theorem s1 (w : World) : stm w 224 1 = .Assign [.Name (Str.ofString "draws") (asT (stm w 224 1))] (.BinOp (.ListComp (x1 w) [⟨.Name (Str.ofString "x") (lcT (lc1 w)), .Subscript (.Name (Str.ofString "script") (sx1 (sl1 w))) (.Slice none (some (.Constant (.int 12) 0 (sx2 (sl1 w)))) none (sx4 (sl1 w))) (sx5 (sl1 w)), [], 0⟩] (lcS (lc1 w)) (lc1 w).pos) .Add (binR (e1 w)) (e1 w).pos) (asP (stm w 224 1)) := by kernel_rfl!
theorem sx (w : World) : x1 w = .IfExp (.Compare (.Call (.Name (Str.ofString "abs") (callF (cmpL (ifxT (x1 w)))).pos) [.Name (Str.ofString "x") (argE (cmpL (ifxT (x1 w)))).pos] [] (cmpL (ifxT (x1 w))).pos) [.Lt] [.Name (Str.ofString "big") (cmpR (ifxT (x1 w))).pos] (ifxT (x1 w)).pos) (.Name (Str.ofString "x") (ifxA (x1 w)).pos) (.BinOp (.Name (Str.ofString "x") (binL (ifxB (x1 w))).pos) .Mod (.Name (Str.ofString "big") (binR (ifxB (x1 w))).pos) (ifxB (x1 w)).pos) (x1 w).pos := by kernel_rfl!
theorem lcs (w : World) : (lcS (lc1 w)).names = [(Str.ofString ".0", .local), (Str.ofString "x", .local), (Str.ofString "abs", .globalImplicit), (Str.ofString "big", .free)] := by kernel_rfl!
theorem lck (w : World) : (lcS (lc1 w)).kind = .function := by kernel_rfl!
theorem l0 (w : World) : bdy w 224 = stm w 224 0 :: stm w 224 1 :: List.drop 2 (bdy w 224) := by kernel_rfl!
theorem bt_abs : bootBuiltins "abs" = some (.builtin "abs") := by boot_fast
theorem sc_draws (w : World) : (scp w 224).names.lookup (Str.ofString "draws") = some .local := by kernel_rfl!
theorem sc_script (w : World) : (scp w 224).names.lookup (Str.ofString "script") = some .local := by kernel_rfl!
theorem sc_big (w : World) : (scp w 224).names.lookup (Str.ofString "big") = some .cell := by kernel_rfl!
theorem sc_kind (w : World) : (scp w 224).kind = .function := by kernel_rfl!
abbrev BIG : Int := 10 ^ Int.toNat 120
/-- a draw -/
def drw (x : Int) : Int := if (if x < 0 then -x else x) < BIG then x else Int.fmod x BIG

section
variable {w : World} {cn : Str} {L fa : Addr} {cd : Value} {cl : List (Str × Addr)}
theorem ce_x {C : Addr} {c2 : List (Str × Addr)} : (compEnvC (lcS (lc1 w)) c2 C (envX cn (scp w 224) L fa cd cl)).kindOf (Str.ofString "x") = some .local := by kernel_rfl!
theorem ce_abs {C : Addr} {c2 : List (Str × Addr)} : (compEnvC (lcS (lc1 w)) c2 C (envX cn (scp w 224) L fa cd cl)).kindOf (Str.ofString "abs") = some .globalImplicit := by kernel_rfl!
theorem ce_big {C : Addr} {c2 : List (Str × Addr)} : (compEnvC (lcS (lc1 w)) c2 C (envX cn (scp w 224) L fa cd cl)).kindOf (Str.ofString "big") = some .cell := by kernel_rfl!
theorem ce_k {C : Addr} {c2 : List (Str × Addr)} : (compEnvC (lcS (lc1 w)) c2 C (envX cn (scp w 224) L fa cd cl)).scope.kind = .function := by kernel_rfl!
end
end Mine
end
section
set_option Elab.async false
set_option maxRecDepth 100000
set_option autoImplicit false
open PySem PySem.W PySem.Calls PyProof.Rows PySem.Spec PyProof.Rows.LCg
namespace Mine
section
variable {w : World} {k : Nat} {A : Around} {cn : Str} {L fa cb : Addr} {cd : Value} {cl : List (Str × Addr)} {e : Heap} {m : Str → Option Value}

theorem comp_elt {C D I : Addr} {oI oC oD oB : Obj} {m₂ : Str → Option Value} {news : List (Addr × Obj)} {s : Shared} {z : Int} {tz tb : Tok} {Q E : Value → Shared → Prop}
    (a : At w (KK w) k A (envX cn (scp w 224) L fa cd cl) e) (F : Fr e L s.heap m) (N : News e L s.heap ((I, oI) :: (C, oC) :: (D, oD) :: news)) (hC : NsObj oC m₂) (hx : m₂ (Str.ofString "x") = some (.int z tz)) (hB : (cb, oB) ∈ news) (hBd : oB.data = .cell (some (.int BIG tb)))
    (q : ∀ t tk, Q (.int (drw z) t) { s with toks := tk }) :
    wpAny (model PG w) A (eval (x1 w) (compEnvC (lcS (lc1 w)) [(Str.ofString "big", cb)] C (envX cn (scp w 224) L fa cd cl))) Q E s := by
  obtain ⟨pg, loose, mg, mb, tp⟩ := a.T
  have X := a.X
  have u64 : A.units + 64 < cLine := by have := a.uni; omega
  have nm : ∀ {s' : Shared} {px : Pos} {Q' E' : Value → Shared → Prop}, (s'.heap = s.heap) → Q' (.int z tz) s' → wpAny (model PG w) A (eval (.Name (Str.ofString "x") px) (compEnvC (lcS (lc1 w)) [(Str.ofString "big", cb)] C (envX cn (scp w 224) L fa cd cl))) Q' E' s' := by
    intro s' px Q' E' hs hq
    refine ldVarK ?_ hx hq ce_k ce_x (by decide)
    show s'.heap.Ns C m₂
    rw [hs]
    exact hC.ns (N _ (.tail _ (.head _))).1
  have bg : ∀ {s' : Shared} {px : Pos} {Q' E' : Value → Shared → Prop}, (s'.heap = s.heap) → Q' (.int BIG tb) s' → wpAny (model PG w) A (eval (.Name (Str.ofString "big") px) (compEnvC (lcS (lc1 w)) [(Str.ofString "big", cb)] C (envX cn (scp w 224) L fa cd cl))) Q' E' s' := by
    intro s' px Q' E' hs hq
    have N' : News e L s'.heap ((I, oI) :: (C, oC) :: (D, oD) :: news) := by rw [hs]; exact N
    exact lcf_cell N' (by rfl) (.tail _ (.tail _ (.tail _ hB))) hBd hq ce_k ce_big (by decide)
  rw [sx]
  refine wpAny_IfExp (wpAny_isTrue_Compare1 ?_ rfl)
  refine Call_ ?_
  refine Name_function_global ce_k ce_abs (loadGlobal_builtin (env := compEnvC (lcS (lc1 w)) [(Str.ofString "big", cb)] C (envX cn (scp w 224) L fa cd cl)) (mg := mg) (mb := mb) (show s.heap.Ns mainGlobals mg from tp.g.keeps F.keep) (mg_none_of X tp.g (ns_abs w)) (show s.heap.Ns builtinsNs mb from tp.b.keeps F.keep) ((tp.builtins _ (by decide)).trans bt_abs) ?_) (by decide)
  refine callWith_builtin1 ?_ rfl rfl
  refine spliced_more ?_ rfl
  refine nm rfl ?_
  refine spliced_none ?_
  refine call_abs_int fun u tk => ?_
  refine bg rfl ?_
  refine cmpV_ok (op := .Lt) (v := .bool (decide ((if z < 0 then -z else z) < BIG))) (ps := []) (K := KK w) (news := []) (h₀ := e) (L := L) News.nil (X.keeps F.keep) u64 .int .int rfl ?_
  intro cv hcv
  refine truthyV_ok (b := decide ((if z < 0 then -z else z) < BIG)) hcv rfl ?_
  by_cases h : (if z < 0 then -z else z) < BIG
  · rw [decide_eq_true h]
    show wpAny _ _ _ _ _ _
    refine nm rfl ?_
    have := q tz tk
    unfold drw at this
    rw [if_pos h] at this
    exact this
  · rw [decide_eq_false h]
    show wpAny _ _ _ _ _ _
    refine wpAny_BinOp ?_
    refine nm rfl ?_
    refine bg rfl ?_
    refine intOp_ok (op := .Mod) (c := Int.fmod z BIG) (ps := [BIG ≠ 0]) rfl ⟨by decide, trivial⟩ ?_
    intro t2 tk2
    have := q t2 tk2
    unfold drw at this
    rw [if_neg h] at this
    exact this

theorem comp_rest {s : Shared} {its : Array Value} {ns : List Int} {oB : Obj} {tb : Tok} {ax : Addr} {Fin : List Value → List (Addr × Obj) → Prop} {news : List (Addr × Obj)}
    (a : At w (KK w) k A (envX cn (scp w 224) L fa cd cl) e) (hint : ∀ (i : Nat) (v : Value), its[i]? = some v → ∃ z t, ns[i]? = some z ∧ v = Value.int z t) (hlen : its.size = ns.length)
    (hB : (cb, oB) ∈ news) (hBd : oB.data = .cell (some (.int BIG tb))) (hS : SrcAt e ax its news) (hF : ∀ ys, IntsAre ys (ns.map drw) → Fin ys news) : ∀ (n i : Nat) (ys : List Value), i + n = its.size → IntsAre ys ((ns.take i).map drw) →
    CompRest PG w A e L m (envX cn (scp w 224) L fa cd cl) (x1 w) (Str.ofString "x") (lcS (lc1 w)) [(Str.ofString "big", cb)] s (SrcAt e ax its) (fun i v => its[i]? = some v) Fin n i ys news
  | 0, i, ys, hi, hys => by
    refine CompRest.zero (hF ys ?_)
    have : ns.take i = ns := List.take_of_length_le (by omega)
    rw [this] at hys
    exact hys
  | n + 1, i, ys, hi, hys => by
    refine CompRest.succ fun v I oI C oC D m₂ h tk E' hP hC hx F N off hne => ?_
    obtain ⟨z, t, hz, rfl⟩ := hint i v hP
    refine comp_elt (s := { s with heap := h, toks := tk }) a F N hC hx hB hBd fun t' tk' => ?_
    refine CompEnd.intro (s₁ := { s with heap := h, toks := tk }) F N news (fun p hp => hp) off hS ?_
    refine comp_rest a hint hlen hB hBd hS hF n (i + 1) (ys ++ [.int (drw z) t']) (by omega) ?_
    have : ns.take (i + 1) = ns.take i ++ [z] := by rw [List.take_add_one, hz]; rfl
    rw [this, List.map_append]
    exact hys.append (.cons _ _ .nil)
end
end Mine
end
section
set_option Elab.async false
set_option maxRecDepth 100000
set_option autoImplicit false
open PySem PySem.W PySem.Calls PyProof.Rows PySem.Spec
namespace Mine
theorem ints_reps {K : Frag} {news : List (Addr × Obj)} : ∀ {vs : List Value} {ns : List Int}, IntsAre vs ns → Reps K news vs (ns.map V.int)
  | _, _, .nil => .nil
  | _, _, .cons _ _ r => .cons .int (ints_reps r)
theorem pick_to (l : List Value) : kms_pick l none (some 12) = l.take 12 := by
  unfold kms_pick kms_lo kms_hi
  simp only [show ¬ ((12 : Int) < 0) by decide, if_false]
  show (l.drop 0).take (min (Int.toNat 12) l.length - 0) = _
  rw [List.drop_zero, Nat.sub_zero, kmk_take_min]
  rfl
theorem drw_ib (x : Int) : ib (Int.fdiv (drw x) 7) ≤ 1000 := by
  have h1 : -BIG < drw x ∧ drw x < BIG := by
    unfold drw
    by_cases h : (if x < 0 then -x else x) < BIG
    · rw [if_pos h]
      split at h <;> omega
    · rw [if_neg h]
      have f0 := Int.fmod_nonneg_of_pos x (by decide : (0 : Int) < BIG)
      have f1 := Int.fmod_lt_of_pos x (by decide : (0 : Int) < BIG)
      omega
  have h2 : (BIG : Int) ≤ 2 ^ 999 := by decide
  have e7 : Int.fdiv (drw x) 7 = drw x / 7 := Int.fdiv_eq_ediv_of_nonneg _ (by decide)
  generalize drw x = y at *
  generalize BIG = B at *
  rw [e7]
  by_cases hy : 0 ≤ y / 7
  · have : ib (y / 7) ≤ 999 := (ib_le hy).mpr (by omega)
    omega
  · have h3 : ib (-(y / 7)) ≤ 999 := (ib_le (by omega)).mpr (by omega)
    rw [ib_neg] at h3
    omega
theorem ib_small {x : Int} (h0 : -1000 < x) (h1 : x < 1000) : ib (Int.fdiv x 7) ≤ 1000 := by
  have e7 : Int.fdiv x 7 = x / 7 := Int.fdiv_eq_ediv_of_nonneg _ (by decide)
  have e10 : (2 : Int) ^ 10 = 1024 := by decide
  rw [e7]
  by_cases hy : 0 ≤ x / 7
  · have : ib (x / 7) ≤ 10 := (ib_le hy).mpr (by omega)
    omega
  · have h3 : ib (-(x / 7)) ≤ 10 := (ib_le (by omega)).mpr (by omega)
    rw [ib_neg] at h3
    omega

section
variable {w : World} {A : Around} {cn : Str} {L fa cb : Addr} {cd : Value} {e : Heap} {m : Str → Option Value} {P : Addr}
theorem law_top (I : Lw w A (envX cn (scp w 224) L fa cd [(Str.ofString "big", cb)]) e P) {s : Shared} {oc : Obj} {v0 : Option Value} {sl : Addr} {vs : List Value} {ns : List Int} {Q : Flow → Shared → Prop} {E : Value → Shared → Prop}
    (F : Fr e L s.heap m) (N : News e L s.heap [(cb, oc), (P, tabO #[])]) (hoc : oc.data = .cell v0) (hPc : P ≠ cb) (G : AllBare s.gens)
    (hm : m (Str.ofString "script") = some (.ref sl)) (hsl : e.IsList sl vs.toArray) (hi : IntsAre vs ns) (hns : ns.length ≤ 63)
    (q : ∀ s' m' ps, s'.os = s.os → AllBare s'.gens → Fr e L s'.heap m' → s'.heap.get? P = some (tabO ps) → Q (.ret (.bool true)) s') :
    wpAny (model PG w) A (execs (bdy w 224) (envX cn (scp w 224) L fa cd [(Str.ofString "big", cb)])) Q E s := by
  have a30 : At w (KK w) 30 A (envX cn (scp w 224) L fa cd [(Str.ofString "big", cb)]) e := I.a.le (by decide)
  rw [l0]
  refine wpAny_execs_cons ?_
  rw [s0]
  refine wpAny_Assign_Name ?_ (swapsWith_no rfl)
  refine wpAny_BinOp (wpAny_Constant_int (wpAny_Constant_int ?_))
  refine pow_int_small (by decide) (by decide) (by decide) ?_
  refine storeX_C (s := { s with toks := s.toks + 1 + 1 + 1 }) F N rfl (UpdF.head (fun p hp => by rw [List.mem_singleton.mp hp]; exact hPc)) hoc ?_ (sc_kind w) (sc_big w)
  intro h1 oB F1 N1 hBd
  have N1 : News e L h1 [(cb, oB), (P, tabO #[])] := N1
  refine wpAny_execs_cons ?_
  rw [s1]
  refine wpAny_Assign_Name ?_ (swapsWith_no rfl)
  refine wpAny_BinOp ?_
  refine LCg.ListComp_U (cl := [(Str.ofString "big", cb)]) F1 ?_ ?_ (lck w) ?_ ?_ ?_ (fun _ => rfl)
  · unfold closureFor
    rw [lcs]
    rfl
  · rw [lcs]; decide
  · rw [lcs]; decide
  · rw [lcs]; rfl
  refine Subscript_ ?_
  refine nameX_L F1 hm ?_ (sc_kind w) (sc_script w)
  refine wpAny_Slice ?_
  rw [evalPart_none, evalPart_some]
  refine wpAny_pure (wpAny_Constant_int (wpAny_pure ?_))
  have hsl1 : h1.IsList sl vs.toArray := hsl.at fun o z => F1.keep _ o z
  have hvl : vs.length = ns.length := hi.length
  refine kms_slice_lit (s := ⟨h1, _, _, _, _⟩) F1 N1 hsl1 IsPart.none (IsPart.int _ _) (zs := vs.take 12) (pick_to vs) ?_ (by with_unfolding_all rfl) (by intro _; with_unfolding_all rfl) (by rw [sizeLine_eq, List.size_toArray]; omega)
  intro D h2 F2 N2 _
  have hti := hi.take 12
  have htl : (vs.take 12).length = (ns.take 12).length := hti.length
  have htl12 : (ns.take 12).length ≤ 12 := by rw [List.length_take]; omega
  refine LCg.CompSrc.ledger I.a.hh F2 N2 (.head _) (by rw [sizeLine_eq, List.size_toArray]; omega) fun g => ?_
  refine comp_rest (k := 30) (oB := oB) a30 (fun i v hv => ?_) (by rw [List.size_toArray]; exact htl) (.tail _ (.head _)) hBd (.inr ⟨_, .head _, rfl, _, rfl⟩) ?_ _ 0 [] (by rw [Nat.zero_add]) .nil
  · obtain ⟨n, t, h5, h6⟩ := hti.at i v (by simpa using hv)
    exact ⟨n, t, h6, h5⟩
  intro ys hys D2 h3 tk3 F3 N3 off3
  -- the second list
  have g2 : Gives PG w (KK w) 30 (scp w 224) [] (eval (binR (e1 w))) (.lst [.int 7, .int (-4), .int 21]) := runE (n := 60) (ps := []) [] (by kernel_rfl!) trivial
  refine g2 A (envX cn (scp w 224) L fa cd [(Str.ofString "big", cb)]) e m _ ⟨h3, _, _, tk3, _⟩ _ E a30 rfl F3 N3 (fun x v hx => by cases hx) ?_
  intro v4 h4 t4 n4 F4 N4 sub4 r4
  cases r4 with | lst H c d rs =>
  rename_i l2 o2 it2 k2
  have hl2 : h4.IsList l2 it2 := ⟨o2, H.get N4 (I.a.In F4), c, k2, d⟩
  have hl1 : h4.IsList D2 ys.toArray := ⟨_, (N4 _ (sub4 _ (.head _))).1, rfl, _, rfl⟩
  have hys' : ys.length = (ns.take 12).length := by have := hys.length; simpa using this
  have hit : it2.size = 3 := by have := rs.length; simpa using this
  refine kmk_add_lit (s := ⟨h4, _, _, t4, _⟩) F4 N4 hl1 hl2 (zs := ys ++ it2.toList) rfl ?_ (by rw [sizeLine_eq]; simp; omega)
  intro D5 h5 F5 N5 _
  have sub5 : ∀ x ∈ n4, x ∈ (D5, listOf (ys ++ it2.toList).toArray 0) :: n4 := fun x hx => .tail _ hx
  have r5 : Rep (KK w) ((D5, listOf (ys ++ it2.toList).toArray 0) :: n4) (.ref D5) (.lst (((ns.take 12).map drw ++ [7, -4, 21]).map V.int)) := by
    refine .lst (.inl (.head _)) rfl rfl ?_
    rw [List.map_append]
    exact Reps.app (ints_reps hys) (rs.mono sub5)
  have en0 : EnRep (KK w) ((D5, listOf (ys ++ it2.toList).toArray 0) :: n4) m [] := fun x v hx => by cases hx
  refine store_ok (s := ⟨h5, _, _, t4, _⟩) a30 (sc_draws w) F5 N5 en0 r5 ?_
  intro h6 t6 m6 F6 N6 R6
  have hPm : (P, tabO #[]) ∈ (D5, listOf (ys ++ it2.toList).toArray 0) :: n4 := sub5 _ (sub4 _ (.tail _ (.tail _ (.tail _ (.head _)))))
  have hall : ∀ x ∈ (ns.take 12).map drw ++ [7, -4, 21], ib (Int.fdiv x 7) ≤ 1000 := by
    intro x hx
    rcases List.mem_append.mp hx with hx | hx
    · obtain ⟨y, _, rfl⟩ := List.mem_map.mp hx
      exact drw_ib y
    · simp only [List.mem_cons, List.not_mem_nil, or_false] at hx
      rcases hx with rfl | rfl | rfl <;> exact ib_small (by decide) (by decide)
  have hlen : ((ns.take 12).map drw ++ [7, -4, 21]).length = (ns.take 12).length + 3 := by simp
  generalize hds : (ns.take 12).map drw ++ [7, -4, 21] = ds at R6 hall hlen
  cases ds with
  | nil => simp at hlen
  | cons d0 xs =>
    have hxl : xs.length = (ns.take 12).length + 2 := by simpa using hlen
    have hne : xs ≠ [] := by
      rintro rfl
      simp at hxl
    show wpAny _ _ (execs (List.drop 2 (bdy w 224)) _) _ _ _
    refine execs_take 8 ?_
    obtain ⟨p, s9, r9, hp, hp2, hs9, D9⟩ := blkTop (w := w) d0 (xs.map V.int)
    refine D9 A (envX cn (scp w 224) L fa cd [(Str.ofString "big", cb)]) e m6 _ ⟨h6, _, _, t6, _⟩ _ E a30 rfl F6 N6 R6 ?_
    intro f h7 t7 m7 n7 F7 N7 sub7 r7
    obtain ⟨rfl, r7⟩ := r7
    show wpAny _ _ (execs (List.drop 8 (List.drop 2 (bdy w 224))) _) _ _ _
    have e10 : List.drop 8 (List.drop 2 (bdy w 224)) = List.drop 10 (bdy w 224) := by rw [List.drop_drop]
    rw [e10]
    exact law_mid I F7 N7 (sub7 _ hPm) G r7 hs9 hp hp2 (fun x hx => hall x (.tail _ hx)) (by omega) hne fun s' m' ps ho hg hf hp => q s' m' ps ho hg hf hp
end
end Mine
end
section
set_option Elab.async false
set_option maxRecDepth 100000
set_option autoImplicit false
open PySem PySem.W PySem.Calls PyProof.Rows PySem.Spec
namespace Mine
theorem kk_classed (w : World) : kb_classed (KK w) = true := by kernel_rfl!

theorem law_final {w : World} {s₁ : Shared} {pg : Program} {loose : List Str} {mean : ExcName → Option Value} {mg mb : Str → Option Value} {c P bm : Addr} {ob : Obj} {sl L fa cb : Addr} {cn : Str} {vs : List Value} {ns : List Int} {h₁ : Heap} {m : Str → Option Value} {oc : Obj} {v0 : Option Value} {gens : Array GenState} {dr : Drawn} {tk : Nat} {Q : Flow → Shared → Prop} {E : Value → Shared → Prop}
    (T : Top pg loose mean mg mb s₁.heap) (M : BMod s₁.heap mainGlobals mg bm ob) (B0 : Based s₁.heap s₁.heap c P #[]) (KX : (KK w).In s₁.heap) (hL : s₁.heap.IsList sl vs.toArray) (hI : IntsAre vs ns) (hlen : ns.length ≤ 63) (hg : gens = #[])
    (F : Fr s₁.heap L h₁ m) (N : News s₁.heap L h₁ [(cb, oc)]) (hoc : oc.data = .cell v0) (hm : m (Str.ofString "script") = some (.ref sl))
    (q : ∀ s', OldK s₁.heap s'.heap → s'.os = s₁.os → AllBare s'.gens → Q (.ret (.bool true)) s') :
    wpAny (model PG w) (callerA.deeper (envX cn (scp w 224) L fa (.ref c) [(Str.ofString "big", cb)])) (execs (bdy w 224) (envX cn (scp w 224) L fa (.ref c) [(Str.ofString "big", cb)])) Q E ⟨h₁, gens, dr, tk, s₁.os⟩ := by
  generalize he : hideAll s₁.heap [P] = e
  have kp : ∀ b o, b ≠ P → s₁.heap.get? b = some o → e.get? b = some o := fun b o hb z => he ▸ hideAll_get _ z (by simpa using hb)
  have bk : ∀ b o, e.get? b = some o → s₁.heap.get? b = some o := fun b o z => of_hideAll [P] (he.symm ▸ z)
  have heP : e.get? P = none := he ▸ hideAll_none _ (.head _)
  have hsz : e.objs.size = s₁.heap.objs.size := he ▸ hideAll_size _ _
  have hP := B0.tab.2
  have hPlt : P < s₁.heap.objs.size := Heap.lt_size hP
  have hab : s₁.heap.objs.size ≤ L := F.above
  have hns : ∀ {a : Addr} {mm : Str → Option Value}, s₁.heap.Ns a mm → e.Ns a mm := fun {a mm} g => g.at' fun o z => kp _ o (B0.ne_of_ns g) z
  have X : (KK w).In e := by
    intro a o z
    have ha := KX a o z
    have qq := List.all_eq_true.mp (kk_classed w) (a, o) (kb_mem z)
    refine kp a o ?_ ha
    simp only [Bool.or_eq_true, decide_eq_true_eq, beq_iff_eq] at qq
    rcases qq with (qq | qq) | qq
    · exact B0.ne_of_cls ha qq
    · exact fun z => B0.notStatics (z.symm.trans qq)
    · rw [qq]; exact B0.ne_of_ns T.g
  have TR : TopRead pg loose mg mb e := by
    obtain ⟨mc, h1, h2⟩ := T.nolimit
    exact ⟨hns T.g, hns T.b, ⟨mc, hns h1, h2⟩, T.builtins, T.free⟩
  have a : At w (KK w) 40 (callerA.deeper (envX cn (scp w 224) L fa (.ref c) [(Str.ofString "big", cb)])) (envX cn (scp w 224) L fa (.ref c) [(Str.ofString "big", cb)]) e :=
    ⟨rfl, ⟨callerA, e, [], below_caller e, Around.frames_deeper (below_caller e).stack⟩, ⟨cn, scp w 224, L, fa, .ref c, _, rfl, sc_kind w⟩, by rw [depth_deeper, depth_caller]; decide, by rw [units_deeper, units_caller]; decide, X, ⟨pg, loose, mg, mb, TR⟩⟩
  obtain ⟨⟨o, vv, g1, g2, g3, g4⟩, _⟩ := B0.tab
  have hcP : c ≠ P := by
    intro z
    rw [z, hP] at g1
    have := Option.some.inj g1
    rw [← this] at g2
    exact absurd g2 (show Value.none ≠ Value.type "code" by decide)
  have I : Lw w (callerA.deeper (envX cn (scp w 224) L fa (.ref c) [(Str.ofString "big", cb)])) (envX cn (scp w 224) L fa (.ref c) [(Str.ofString "big", cb)]) e P := by
    refine ⟨a, rfl, heP, ⟨c, o, rfl, kp _ _ hcP g1, fun h ps hc hp ht => ?_⟩, ⟨mg, bm, ob, M.extBut B0.tab fun b o hb z => kp b o hb z⟩⟩
    obtain ⟨o', vs', file, tf, flags, tg, inF, text, tt, op, ho, hdd, h11, h2, h7, h9, h10, hop, hpd, htr, hne⟩ := B0.code
    rw [g1] at ho
    cases ho
    exact ⟨⟨o, vs', file, tf, flags, tg, inF, text, tt, _, hc, hdd, h11, h2, h7, h9, h10, hp, rfl, ht, hne⟩, ⟨o, vv, hc, g2, g3, g4⟩, hp⟩
  have F' : Fr e L h₁ m := ⟨F.ns, fun b o z => F.keep b o (bk b o z), hsz ▸ hab⟩
  have hcb := N _ (.head _)
  have hPc : P ≠ cb := by
    intro z
    have h1 := hcb.2.2
    rw [show ((cb, oc) : Addr × Obj).1 = cb from rfl, ← z, hP] at h1
    cases h1
  have N' : News e L h₁ [(cb, oc), (P, tabO #[])] := by
    intro x hx
    rcases List.mem_cons.mp hx with rfl | hx
    · refine ⟨hcb.1, hcb.2.1, ?_⟩
      cases hq : e.get? cb with
      | none => rfl
      | some ox =>
        have h1 := bk _ _ hq
        have h2 : s₁.heap.get? cb = none := hcb.2.2
        rw [h2] at h1
        cases h1
    · rw [List.mem_singleton.mp hx]
      exact ⟨F.keep _ _ hP, fun z => absurd (Nat.lt_of_lt_of_le hPlt hab) (z ▸ Nat.lt_irrefl _), heP⟩
  have hsl : e.IsList sl vs.toArray := by
    obtain ⟨ol, h1, h2, h3⟩ := hL
    refine ⟨ol, kp _ _ ?_ h1, h2, h3⟩
    intro z
    rw [z, hP] at h1
    have := Option.some.inj h1
    rw [← this] at h2
    exact absurd h2 (show Value.none ≠ Value.type "list" by decide)
  refine law_top I (s := ⟨h₁, gens, dr, tk, s₁.os⟩) F' N' hoc hPc (AllBare.of_eq hg) hm hsl hI hlen fun s' m' ps hos hb hf hp => ?_
  refine q s' ⟨fun b o z => ?_, fun b o z => ?_⟩ hos hb
  · by_cases hbP : b = P
    · subst hbP
      rw [hP] at z
      cases z
      exact .inr (.inl ⟨B0.tab.isCodeTable, rfl, #[], ps, rfl, by simpa using hp⟩)
    · exact .inl (hf.keep b o (kp b o hbP z))
  · by_cases hbP : b = P
    · exact ⟨_, hbP ▸ hp⟩
    · exact ⟨o, hf.keep b o (kp b o hbP z)⟩
end Mine
end
section
set_option Elab.async false
set_option maxRecDepth 100000
set_option autoImplicit false
open PySem PySem.W PySem.Calls PyProof.Rows PySem.Spec
namespace Mine
theorem swap {M : Model} {A A' : Around} {t t' : Sem Flow} {Q : Flow → Shared → Prop} {E : Value → Shared → Prop} {s s' : Shared} (hA : A' = A) (ht : t' = t) (hs : s' = s) (h : wpAny M A' t' Q E s') : wpAny M A t Q E s := by
  subst hA ht hs
  exact h
def adr {h : Heap} {a : Addr} {o : Obj} (_ : h.get? a = some o) : Addr := a
end Mine
set_option maxHeartbeats 0 in
theorem Mine.fin : PySem.Challenge.rw_bg5011_01.Holds := Mine.hd (by
  lge_go0
  rename Top _ _ _ _ _ _ => T
  rename BMod _ _ _ _ _ => M
  rename Based _ _ _ _ _ => B
  rename Frag.In _ _ => KX
  rename Heap.IsList _ _ _ => hL
  rename IntsAre _ _ => hI
  rename Fr _ _ _ _ => F
  rename News _ _ _ _ => N
  rename (_ = Data.cell _) => hoc
  rename (_ = #[]) => hg
  rename (Heap.get? _ _ = some _) => ho
  rename (¬ _ < _) => hc
  refine Mine.swap ?hA ?ht rfl (Mine.law_final (cn := Str.ofString "law") (fa := Mine.adr ho) T M B KX hL hI ?hlen hg F N hoc ?hm ?q)
  case hlen => omega
  case hm => kernel_rfl!
  case hA => kernel_rfl!
  case ht => kernel_rfl!
  case q =>
    intro s' hK hos hb
    refine ⟨.inl ⟨_, _, [], rfl, ?_, .bool true, ?_, ?_⟩, hK, hos, hb⟩
    · intro _; rfl
    · exact postW_of (by wrow_shape) (by wtm_val) (by str_meet; first | done | w_fin)
    · exact unshared_nil)
end
theorem PySem.Challenge.cw_bg5011_01_holds : PySem.Challenge.rw_bg5011_01.Holds := by
  exact Mine.fin
