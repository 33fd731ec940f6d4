import PyProof.Rows.All
import Wide.All
import OpenK.AllK
import Wide.FinOn
import PySem.Challenge.RW_aj5010_01
open PySem PySem.W PyProof.Rows
set_option Elab.async false
set_option maxRecDepth 100000
set_option linter.unusedSimpArgs false
set_option linter.unusedVariables false
namespace Mine
open PySem.Calls

abbrev V := PyData
abbrev VEnv := List (Option V)
abbrev EM := VEnv → (V → Prop) → Prop
abbrev TM := VEnv → (Bool → Prop) → Prop
abbrev LM := VEnv → (List V → Prop) → Prop
abbrev SM := VEnv → (VEnv → Prop) → (V → Prop) → Prop
abbrev Grows (h h' : Heap) : Prop := ∀ b o, h.get? b = some o → h'.get? b = some o

mutual
inductive R (h : Heap) : Value → V → Prop
  | none : R h .none .none
  | bool (b) : R h (.bool b) (.bool b)
  | int (i t) : R h (.int i t) (.int i)
  | str (x t) : R h (.str x t) (.str x)
  | list {a o vs n xs} : h.get? a = some o → o.cls = .type "list" → o.data = .seq vs n → Rs h vs.toList xs → R h (.ref a) (.list xs)
  | tuple {a o vs n xs} : h.get? a = some o → o.cls = .type "tuple" → o.data = .seq vs n → Rs h vs.toList xs → R h (.ref a) (.tuple xs)
inductive Rs (h : Heap) : List Value → List V → Prop
  | nil : Rs h [] []
  | cons {v vs d ds} : R h v d → Rs h vs ds → Rs h (v :: vs) (d :: ds)
end

mutual
theorem R.grow {h h' : Heap} (k : Grows h h') : ∀ {v d}, R h v d → R h' v d
  | _, _, .none => .none
  | _, _, .bool b => .bool b
  | _, _, .int i t => .int i t
  | _, _, .str x t => .str x t
  | _, _, .list h1 h2 h3 h4 => .list (k _ _ h1) h2 h3 (Rs.grow k h4)
  | _, _, .tuple h1 h2 h3 h4 => .tuple (k _ _ h1) h2 h3 (Rs.grow k h4)
theorem Rs.grow {h h' : Heap} (k : Grows h h') : ∀ {v d}, Rs h v d → Rs h' v d
  | _, _, .nil => .nil
  | _, _, .cons h1 h2 => .cons (R.grow k h1) (Rs.grow k h2)
end

theorem seq_ne {h h' : Heap} {L a : Addr} {m : Str → Option Value} {o : Obj} {vs : Array Value} {n : Nat} (hn : h.Ns L m) (hs : Heap.SameBut L h h') (ho : h.get? a = some o) (hd : o.data = .seq vs n) : h'.get? a = some o := by
  refine (hs.2 a ?_).trans ho
  rintro rfl
  obtain ⟨o', es, ep, ho', hd', _⟩ := hn
  rw [ho] at ho'
  cases ho'
  rw [hd] at hd'
  cases hd'

mutual
theorem R.same {h h' : Heap} {L : Addr} {m : Str → Option Value} (hn : h.Ns L m) (hs : Heap.SameBut L h h') : ∀ {v d}, R h v d → R h' v d
  | _, _, .none => .none
  | _, _, .bool b => .bool b
  | _, _, .int i t => .int i t
  | _, _, .str x t => .str x t
  | _, _, .list h1 h2 h3 h4 => .list (seq_ne hn hs h1 h3) h2 h3 (Rs.same hn hs h4)
  | _, _, .tuple h1 h2 h3 h4 => .tuple (seq_ne hn hs h1 h3) h2 h3 (Rs.same hn hs h4)
theorem Rs.same {h h' : Heap} {L : Addr} {m : Str → Option Value} (hn : h.Ns L m) (hs : Heap.SameBut L h h') : ∀ {v d}, Rs h v d → Rs h' v d
  | _, _, .nil => .nil
  | _, _, .cons h1 h2 => .cons (R.same hn hs h1) (Rs.same hn hs h2)
end

mutual
theorem R.reads {h : Heap} : ∀ {v d}, R h v d → ∃ as, PySem.Reads h v d as
  | _, _, .none => ⟨_, .none⟩
  | _, _, .bool b => ⟨_, .bool b⟩
  | _, _, .int i t => ⟨_, .int i t⟩
  | _, _, .str x t => ⟨_, .str x t⟩
  | _, _, .list h1 h2 h3 h4 => let ⟨_, r⟩ := Rs.reads h4; ⟨_, .list h1 h2 h3 r⟩
  | _, _, .tuple h1 h2 h3 h4 => let ⟨_, r⟩ := Rs.reads h4; ⟨_, .tuple h1 h2 h3 r⟩
theorem Rs.reads {h : Heap} : ∀ {v d}, Rs h v d → ∃ as, PySem.ReadsAll h v d as
  | _, _, .nil => ⟨_, .nil⟩
  | _, _, .cons h1 h2 => let ⟨_, r⟩ := R.reads h1; let ⟨_, q⟩ := Rs.reads h2; ⟨_, .cons r q⟩
end

theorem Rs.length {h : Heap} : ∀ {vs ds}, Rs h vs ds → vs.length = ds.length
  | _, _, .nil => rfl
  | _, _, .cons _ h2 => congrArg (· + 1) (Rs.length h2)
theorem Rs.get {h : Heap} : ∀ {vs ds}, Rs h vs ds → ∀ (i : Nat) (d : V), ds[i]? = some d → ∃ v, vs[i]? = some v ∧ R h v d
  | _, _, .cons (v := v) h1 _, 0, d, e => ⟨v, rfl, by cases e; exact h1⟩
  | _, _, .cons _ h2, i + 1, d, e => Rs.get h2 i d e
theorem Rs.ints {h : Heap} : ∀ {vs : List Value} {ns : List Int}, Rs h vs (ns.map PyData.int) → IntsAre vs ns
  | _, [], .nil => .nil
  | _, _ :: _, .cons (.int _ _) h2 => .cons _ _ (Rs.ints h2)
theorem Rs.ofInts {h : Heap} : ∀ {vs : List Value} {ns : List Int}, IntsAre vs ns → Rs h vs (ns.map PyData.int)
  | _, _, .nil => .nil
  | _, _, .cons _ _ h2 => .cons (.int _ _) (Rs.ofInts h2)

structure Gl where
  prog : Program
  w : World
  K : Frag
  p : Program
  loose : List Str
  mg : Str → Option Value
  mb : Str → Option Value

def Gl.At (g : Gl) (h : Heap) : Prop := g.K.In h ∧ TopRead g.p g.loose g.mg g.mb h
theorem Gl.At.keeps {g : Gl} {h h' : Heap} (x : g.At h) (k : Grows h h') : g.At h' := ⟨x.1.keeps k, x.2.keeps k⟩

structure Fi where
  qual : Str
  scope : Scope
  f : Addr
  cdv : Value
abbrev Fi.env (fi : Fi) (L : Addr) : Env := envX fi.qual fi.scope L fi.f fi.cdv []

def EnvR (N : List (Str × NameKind)) (h : Heap) (m : Str → Option Value) (ρ : VEnv) : Prop :=
  ∀ (i : Nat) (x : Str) (k : NameKind), N[i]? = some (x, k) → ∀ d : V, ρ[i]? = some (some d) → ∃ v, m x = some v ∧ R h v d
theorem EnvR.grow {N : List (Str × NameKind)} {h h' : Heap} {m : Str → Option Value} {ρ : VEnv} (x : EnvR N h m ρ) (k : Grows h h') : EnvR N h' m ρ :=
  fun i y kd e d q => let ⟨v, a, b⟩ := x i y kd e d q; ⟨v, a, b.grow k⟩

structure Room (A : Around) (n : Nat) : Prop where
  handled : A.handled = none
  depth : A.depth + n < recursionLimit
  units : A.units + 8 * n + 80 < cLine
theorem Room.mono {A : Around} {n k : Nat} (r : Room A n) (h : k ≤ n) : Room A k := ⟨r.handled, by have := r.depth; omega, by have := r.units; omega⟩

structure St (g : Gl) (fi : Fi) (h₀ : Heap) (L : Addr) (m : Str → Option Value) (h : Heap) (ρ : VEnv) : Prop where
  at0 : g.At h₀
  fr : Fr h₀ L h m
  env : EnvR fi.scope.names h m ρ
  kind : fi.scope.kind = .function
  nodup : (fi.scope.names.map (·.1)).Nodup
  nodbg : ∀ p ∈ fi.scope.names, (p.1 == ("__debug__" : Str)) = false

section
variable {g : Gl} {fi : Fi} {h₀ h h' : Heap} {L : Addr} {m : Str → Option Value} {ρ : VEnv}
theorem Fr.grow (F : Fr h₀ L h m) (k : Grows h h') : Fr h₀ L h' m := ⟨F.ns.keeps k, fun b o e => k b o (F.keep b o e), F.above⟩
theorem St.grow (x : St g fi h₀ L m h ρ) (k : Grows h h') : St g fi h₀ L m h' ρ := ⟨x.at0, Fr.grow x.fr k, x.env.grow k, x.kind, x.nodup, x.nodbg⟩
theorem St.now (x : St g fi h₀ L m h ρ) : g.At h := x.at0.keeps x.fr.keep
end

/-- what a call of the function at address f gives for these values -/
def CallOK (g : Gl) (n : Nat) (f : Addr) (vs : List V) (d : V) : Prop :=
  ∀ (A : Around) (s : Shared) (xs : List Value) (QQ : Value → Shared → Prop) (E : Value → Shared → Prop), Room A n → g.At s.heap → Rs s.heap xs vs →
    (∀ v h' tk', R h' v d → Grows s.heap h' → QQ v { s with heap := h', toks := tk' }) → wpAny (model g.prog g.w) A (call (.ref f) xs) QQ E s
theorem CallOK.mono {g : Gl} {n k : Nat} {f : Addr} {vs : List V} {d : V} (x : CallOK g k f vs d) (h : k ≤ n) : CallOK g n f vs d :=
  fun A s xs QQ E r a b c => x A s xs QQ E (r.mono h) a b c

structure OkE (g : Gl) (fi : Fi) (n : Nat) (e : Expr) (d : EM) : Prop where
  out : ∀ (ρ : VEnv) (Q : V → Prop), d ρ Q → ∀ (A : Around) (h₀ : Heap) (L : Addr) (m : Str → Option Value) (s : Shared) (QQ : Value → Shared → Prop) (E : Value → Shared → Prop),
    Room A n → St g fi h₀ L m s.heap ρ → (∀ v x h' tk', Q x → R h' v x → Grows s.heap h' → QQ v { s with heap := h', toks := tk' }) →
    wpAny (model g.prog g.w) A (eval e (fi.env L)) QQ E s
structure OkT (g : Gl) (fi : Fi) (n : Nat) (e : Expr) (d : TM) : Prop where
  out : ∀ (ρ : VEnv) (Q : Bool → Prop), d ρ Q → ∀ (A : Around) (h₀ : Heap) (L : Addr) (m : Str → Option Value) (s : Shared) (QQ : Bool → Shared → Prop) (E : Value → Shared → Prop),
    Room A n → St g fi h₀ L m s.heap ρ → (∀ b h' tk', Q b → Grows s.heap h' → QQ b { s with heap := h', toks := tk' }) →
    wpAny (model g.prog g.w) A (isTrue e (fi.env L) (eval e (fi.env L))) QQ E s
structure OkEs (g : Gl) (fi : Fi) (n : Nat) (es : List Expr) (d : LM) : Prop where
  out : ∀ (ρ : VEnv) (Q : List V → Prop), d ρ Q → ∀ (A : Around) (h₀ : Heap) (L : Addr) (m : Str → Option Value) (s : Shared) (pos : Pos) (QQ : List Value → Shared → Prop) (E : Value → Shared → Prop),
    Room A n → St g fi h₀ L m s.heap ρ → (∀ vs xs h' tk', Q xs → Rs h' vs xs → Grows s.heap h' → QQ vs { s with heap := h', toks := tk' }) →
    wpAny (model g.prog g.w) A (spliced (backTo pos (starEach es (fi.env L)))) QQ E s
/-- the tail of a boolean test: and, or -/
structure OkTs (g : Gl) (fi : Fi) (n : Nat) (op : BoolOp) (es : List Expr) (d : TM) : Prop where
  out : ∀ (ρ : VEnv) (Q : Bool → Prop), d ρ Q → ∀ (A : Around) (h₀ : Heap) (L : Addr) (m : Str → Option Value) (s : Shared) (pos : Pos) (whole : Sem Value) (QQ : Bool → Shared → Prop) (E : Value → Shared → Prop),
    Room A n → St g fi h₀ L m s.heap ρ → (∀ b h' tk', Q b → Grows s.heap h' → QQ b { s with heap := h', toks := tk' }) →
    wpAny (model g.prog g.w) A (isTrue (.BoolOp op es pos) (fi.env L) whole) QQ E s
structure OkS (g : Gl) (fi : Fi) (n : Nat) (st : Stmt) (d : SM) : Prop where
  out : ∀ (ρ : VEnv) (Q : VEnv → Prop) (Rt : V → Prop), d ρ Q Rt → ∀ (A : Around) (h₀ : Heap) (L : Addr) (m : Str → Option Value) (s : Shared) (QQ : Flow → Shared → Prop) (E : Value → Shared → Prop),
    Room A n → St g fi h₀ L m s.heap ρ →
    (∀ ρ' m' h' tk', Q ρ' → St g fi h₀ L m' h' ρ' → QQ .next { s with heap := h', toks := tk' }) →
    (∀ v x h' tk', Rt x → R h' v x → Grows h₀ h' → QQ (.ret v) { s with heap := h', toks := tk' }) →
    wpAny (model g.prog g.w) A (exec st (fi.env L)) QQ E s
structure OkSs (g : Gl) (fi : Fi) (n : Nat) (sts : List Stmt) (d : SM) : Prop where
  out : ∀ (ρ : VEnv) (Q : VEnv → Prop) (Rt : V → Prop), d ρ Q Rt → ∀ (A : Around) (h₀ : Heap) (L : Addr) (m : Str → Option Value) (s : Shared) (QQ : Flow → Shared → Prop) (E : Value → Shared → Prop),
    Room A n → St g fi h₀ L m s.heap ρ →
    (∀ ρ' m' h' tk', Q ρ' → St g fi h₀ L m' h' ρ' → QQ .next { s with heap := h', toks := tk' }) →
    (∀ v x h' tk', Rt x → R h' v x → Grows h₀ h' → QQ (.ret v) { s with heap := h', toks := tk' }) →
    wpAny (model g.prog g.w) A (execs sts (fi.env L)) QQ E s

/-! the meanings -/
def getP (ρ : VEnv) (i : Nat) (Q : V → Prop) : Prop := ∃ d, ρ[i]? = some (some d) ∧ Q d
def truthyP : V → (Bool → Prop) → Prop
  | .none, Q => Q false
  | .bool b, Q => Q b
  | .int i, Q => Q (i != 0)
  | _, _ => False
def binP : Operator → V → V → (V → Prop) → Prop
  | .Add, .int a, .int b, Q => Q (.int (a + b))
  | .Sub, .int a, .int b, Q => Q (.int (a - b))
  | .Mult, .int a, .int b, Q => IntMulOk a b ∧ Q (.int (a * b))
  | .FloorDiv, .int a, .int b, Q => b ≠ 0 ∧ b.natAbs.log2 < 9000 ∧ Q (.int (a.fdiv b))
  | .Mod, .int a, .int b, Q => b ≠ 0 ∧ Q (.int (a.fmod b))
  | .Pow, .int a, .int b, Q => 0 ≤ b ∧ (Builtin.Int.intBits a : Int) * b ≤ 2 ^ 27 ∧ Q (.int (a ^ b.toNat))
  | .LShift, .int a, .int b, Q => 0 ≤ b ∧ (Builtin.Int.intBits a : Int) + b ≤ 2 ^ 27 ∧ Q (.int (a * 2 ^ b.toNat))
  | .RShift, .int a, .int b, Q => 0 ≤ b ∧ Q (.int (a.fdiv (2 ^ b.toNat)))
  | .BitAnd, .int a, .int b, Q => Q (.int (Builtin.bitAnd a b))
  | .BitXor, .int a, .int b, Q => Q (.int (Builtin.bitXor a b))
  | _, _, _, _ => False
def cmpP : CmpOp → V → V → (V → Prop) → Prop
  | .Eq, .int a, .int b, Q => Q (.bool (a == b))
  | .NotEq, .int a, .int b, Q => Q (.bool (a != b))
  | .Lt, .int a, .int b, Q => Q (.bool (decide (a < b)))
  | .LtE, .int a, .int b, Q => Q (.bool (decide (a ≤ b)))
  | .Gt, .int a, .int b, Q => Q (.bool (decide (b < a)))
  | .GtE, .int a, .int b, Q => Q (.bool (decide (b ≤ a)))
  | .Eq, .str a, .str b, Q => Q (.bool (a == b))
  | .NotEq, .str a, .str b, Q => Q (.bool (a != b))
  | .Eq, .bool a, .bool b, Q => Q (.bool (a == b))
  | .NotEq, .bool a, .bool b, Q => Q (.bool (a != b))
  | .Eq, .tuple a, .tuple b, Q => SeqAt.shaped (.tuple a) = true ∧ SeqAt.shaped (.tuple b) = true ∧ Q (.bool (PyData.eqv (.tuple a) (.tuple b)))
  | .NotEq, .tuple a, .tuple b, Q => SeqAt.shaped (.tuple a) = true ∧ SeqAt.shaped (.tuple b) = true ∧ Q (.bool (!PyData.eqv (.tuple a) (.tuple b)))
  | .In, .str y, .str x, Q => Q (.bool !(Builtin.Str.occurrences x y 0 x.length 1).isEmpty)
  | .NotIn, .int k, .list ds, Q => ∃ ns : List Int, ds = ns.map PyData.int ∧ Q (.bool (!(ns.any (· == k))))
  | _, _, _, _ => False
def unP : UnaryOp → V → (V → Prop) → Prop
  | .USub, .int a, Q => Q (.int (-a))
  | .Not, x, Q => truthyP x fun b => Q (.bool !b)
  | _, _, _ => False
def subP : V → V → (V → Prop) → Prop
  | .tuple ds, .int k, Q => ∃ d, 0 ≤ k ∧ k < 2 ^ 31 ∧ ds[k.toNat]? = some d ∧ Q d
  | .list ds, .int k, Q => ∃ ns : List Int, ds = ns.map PyData.int ∧ 0 ≤ k ∧ k < ns.length ∧ k < 2 ^ 63 ∧ Q (.int (ns.getD k.toNat 0))
  | _, _, _ => False
def setAll : VEnv → List Nat → List V → VEnv
  | ρ, i :: is, d :: ds => setAll (ρ.set i (some d)) is ds
  | ρ, _, _ => ρ
def unpackP : V → Nat → (List V → Prop) → Prop
  | .tuple ds, k, Q => k = ds.length ∧ Q ds
  | _, _, _ => False

def eLoc (i : Nat) : EM := fun ρ Q => getP ρ i Q
def eCst (d : V) : EM := fun _ Q => Q d
def eBin (op : Operator) (a b : EM) : EM := fun ρ Q => a ρ fun x => b ρ fun y => binP op x y Q
def eCmp (op : CmpOp) (a b : EM) : EM := fun ρ Q => a ρ fun x => b ρ fun y => cmpP op x y Q
def eUn (op : UnaryOp) (a : EM) : EM := fun ρ Q => a ρ fun x => unP op x Q
def eAnd (a b : EM) : EM := fun ρ Q => a ρ fun x => truthyP x fun t => if t = true then b ρ Q else Q x
def eOr (a b : EM) : EM := fun ρ Q => a ρ fun x => truthyP x fun t => if t = true then Q x else b ρ Q
def eIf (c : TM) (a b : EM) : EM := fun ρ Q => c ρ fun t => if t = true then a ρ Q else b ρ Q
def eCall (C : List V → V → Prop) (as : LM) : EM := fun ρ Q => as ρ fun vs => ∃ d, C vs d ∧ Q d
def eTup (as : LM) : EM := fun ρ Q => as ρ fun vs => vs.length ≤ 16 ∧ Q (.tuple vs)
def eLst (as : LM) : EM := fun ρ Q => as ρ fun vs => vs.length ≤ 16 ∧ Q (.list vs)
def eSub (a b : EM) : EM := fun ρ Q => a ρ fun x => b ρ fun y => subP x y Q
def eTab (T : Str → V → Prop) (a : EM) : EM := fun ρ Q => a ρ fun x => ∃ k d, x = .str k ∧ T k d ∧ Q d
/-- built-ins on ints -/
def eBitLen (a : EM) : EM := fun ρ Q => a ρ fun x => ∃ i, x = .int i ∧ Q (.int (Builtin.Int.intBits i))
def eInt (a : EM) : EM := fun ρ Q => a ρ fun x => ∃ i, x = .int i ∧ Q (.int i)
def eIsInt (a : EM) : EM := fun ρ Q => a ρ fun x => ∃ i, x = .int i ∧ Q (.bool true)
def eLen (a : EM) : EM := fun ρ Q => a ρ fun x => ∃ ns : List Int, x = .list (ns.map PyData.int) ∧ ns.length < 2 ^ 62 ∧ Q (.int (ns.length : Nat))
def eMax (a b : EM) : EM := fun ρ Q => a ρ fun x => b ρ fun y => ∃ i j, x = .int i ∧ y = .int j ∧ Q (.int (if j > i then j else i))
def eMin (a b : EM) : EM := fun ρ Q => a ρ fun x => b ρ fun y => ∃ i j, x = .int i ∧ y = .int j ∧ Q (.int (if j < i then j else i))

def lNil : LM := fun _ Q => Q []
def lCons (a : EM) (r : LM) : LM := fun ρ Q => a ρ fun x => r ρ fun xs => Q (x :: xs)

def tPlain (a : EM) : TM := fun ρ Q => a ρ fun x => truthyP x Q
def tNot (a : TM) : TM := fun ρ Q => a ρ fun t => Q (!t)
def tTrue : TM := fun _ Q => Q true
def tFalse : TM := fun _ Q => Q false
def tAnd (a b : TM) : TM := fun ρ Q => a ρ fun t => if t = true then b ρ Q else Q false
def tOr (a b : TM) : TM := fun ρ Q => a ρ fun t => if t = true then Q true else b ρ Q

def sNil : SM := fun ρ Q _ => Q ρ
def sSeq (a b : SM) : SM := fun ρ Q Rt => a ρ (fun ρ' => b ρ' Q Rt) Rt
def sAsg (i : Nat) (e : EM) : SM := fun ρ Q _ => e ρ fun d => Q (ρ.set i (some d))
def sAsgT (is : List Nat) (e : EM) : SM := fun ρ Q _ => e ρ fun d => unpackP d is.length fun ds => Q (setAll ρ is ds)
def sAsgR (is : List Nat) (e : EM) : SM := fun ρ Q _ => e ρ fun d => unpackP d is.length fun ds => Q (setAll ρ is ds.reverse)
def sAug (i : Nat) (op : Operator) (e : EM) : SM := fun ρ Q _ => getP ρ i fun a => e ρ fun b => binP op a b fun d => Q (ρ.set i (some d))
def sIf (c : TM) (a b : SM) : SM := fun ρ Q Rt => c ρ fun t => if t = true then a ρ Q Rt else b ρ Q Rt
def sRet (e : EM) : SM := fun ρ _ Rt => e ρ Rt
def sAsrt (c : TM) : SM := fun ρ Q _ => c ρ fun t => t = true ∧ Q ρ
def whlN (c : TM) (b : SM) (Q : VEnv → Prop) (Rt : V → Prop) : Nat → VEnv → Prop
  | 0, _ => False
  | k + 1, ρ => c ρ fun t => if t = true then b ρ (whlN c b Q Rt k) Rt else Q ρ
def sWhl (c : TM) (b : SM) : SM := fun ρ Q Rt => ∃ k, whlN c b Q Rt k ρ
/-- a statement that no way reaches -/
def sBad : SM := fun _ _ _ => False
def eBad : EM := fun _ _ => False
end Mine

namespace Mine
open PySem.Calls

theorem grows_refl (h : Heap) : Grows h h := fun _ _ e => e

theorem lookup_of_nodup {β : Type} : ∀ {l : List (Str × β)}, (l.map (·.1)).Nodup → ∀ {i : Nat} {x : Str} {b : β}, l[i]? = some (x, b) → l.lookup x = some b
  | [], _, _, _, _, e => by cases e
  | (y, c) :: r, h, i, x, b, e => by
    rw [List.lookup]
    cases i with
    | zero => cases e; simp
    | succ i =>
      have e' : r[i]? = some (x, b) := by simpa using e
      have hx : x ∈ r.map (·.1) := List.mem_map.mpr ⟨_, List.mem_of_getElem? e', rfl⟩
      have hne : (x == y) = false := by
        simp only [List.map_cons, List.nodup_cons] at h
        cases q : x == y with
        | false => rfl
        | true => exact absurd (eq_of_beq q ▸ hx) h.1
      simp only [hne]
      exact lookup_of_nodup (List.nodup_cons.mp h).2 e'

/-- the name at a place of the scope's names -/
def NAt (fi : Fi) (i : Nat) (x : Str) (k : NameKind) : Prop := fi.scope.names[i]? = some (x, k)
theorem St.look {g : Gl} {fi : Fi} {h₀ h : Heap} {L : Addr} {m : Str → Option Value} {ρ : VEnv} (st : St g fi h₀ L m h ρ) {i : Nat} {x : Str} {k : NameKind} (hN : NAt fi i x k) : fi.scope.names.lookup x = some k := lookup_of_nodup st.nodup hN
theorem St.dbg {g : Gl} {fi : Fi} {h₀ h : Heap} {L : Addr} {m : Str → Option Value} {ρ : VEnv} (st : St g fi h₀ L m h ρ) {i : Nat} {x : Str} {k : NameKind} (hN : NAt fi i x k) : (x == ("__debug__" : Str)) = false := st.nodbg _ (List.mem_of_getElem? hN)

section
variable {g : Gl} {fi : Fi} {n : Nat}

theorem OkE.loc {x : Str} {pos : Pos} {i : Nat} (hN : NAt fi i x .local) : OkE g fi n (.Name x pos) (eLoc i) := by
  refine ⟨?_⟩
  intro ρ Q q A h₀ L m s QQ E r st k
  obtain ⟨d, hd', hq⟩ := q
  obtain ⟨v, hv, hr⟩ := st.env i x _ hN d hd'
  exact nameX_L st.fr hv (k v d _ _ hq hr (grows_refl _)) st.kind (st.look hN) (st.dbg hN)

/-- a global name that holds written data -/
def GCst (g : Gl) (x : Str) (d : V) : Prop := ∃ v, nsIn g.K mainGlobals x = some (some v) ∧ ∀ h, g.K.In h → R h v d
def GFn (g : Gl) (x : Str) (f : Addr) : Prop := nsIn g.K mainGlobals x = some (some (.ref f)) ∧ keepIn g.K (.ref f) = true
def GBi (g : Gl) (x : Str) (v : Value) : Prop := nsIn g.K mainGlobals x = some none ∧ bootBuiltins x = some v ∧ x ≠ "__name__"

theorem OkE.glob {x : Str} {pos : Pos} {d : V} {i : Nat} (G : GCst g x d) (hN : NAt fi i x .globalImplicit) : OkE g fi n (.Name x pos) (eCst d) := by
  refine ⟨?_⟩
  intro ρ Q q A h₀ L m s QQ E r st k
  obtain ⟨v, hv, hr⟩ := G
  exact nameX_K st.fr st.at0.1 st.at0.2 hv (k v d _ _ q (hr _ st.now.1) (grows_refl _)) st.kind (st.look hN) (st.dbg hN)
theorem OkE.cint {i : Int} {k : Nat} {pos : Pos} : OkE g fi n (.Constant (.int i) k pos) (eCst (.int i)) := by
  refine ⟨?_⟩
  intro ρ Q q A h₀ L m s QQ E r st k
  exact wpAny_Constant_int (k _ _ _ _ q (.int _ _) (grows_refl _))
theorem OkE.cstr {x : Str} {k : Nat} {pos : Pos} : OkE g fi n (.Constant (.str x) k pos) (eCst (.str x)) := by
  refine ⟨?_⟩
  intro ρ Q q A h₀ L m s QQ E r st k
  exact Calls.Constant_str (k _ _ _ _ q (.str _ _) (grows_refl _))
theorem OkE.cbool {b : Bool} {k : Nat} {pos : Pos} : OkE g fi n (.Constant (.bool b) k pos) (eCst (.bool b)) := by
  refine ⟨?_⟩
  intro ρ Q q A h₀ L m s QQ E r st k
  exact Constant_bool (k _ _ _ _ q (.bool _) (grows_refl _))
theorem OkE.bad {e : Expr} : OkE g fi n e eBad := ⟨fun _ _ q => q.elim⟩

theorem bin_ok {op : Operator} {x y : V} {a b : Value} {A : Around} {s : Shared} {Q : V → Prop} {QQ : Value → Shared → Prop} {E : Value → Shared → Prop} (q : binP op x y Q) (ra : R s.heap a x) (rb : R s.heap b y)
    (k : ∀ v d h' tk', Q d → R h' v d → Grows s.heap h' → QQ v { s with heap := h', toks := tk' }) : wpAny (model g.prog g.w) A (binaryOp op a b) QQ E s := by
  have kk : ∀ i, Q (.int i) → QQ (.int i s.toks) { s with toks := s.toks + 1 } := fun i h => k _ _ s.heap (s.toks + 1) h (.int _ _) (grows_refl _)
  unfold binP at q
  split at q
  · cases ra; cases rb; exact PyProof.Rows.add_int (kk _ q)
  · cases ra; cases rb; exact PyProof.Rows.sub_int (kk _ q)
  · cases ra; cases rb; exact PyProof.Rows.mul_int (kk _ q.2) q.1
  · cases ra; cases rb; exact PyProof.Rows.floordiv_int q.1 (kk _ q.2.2) (.inl (PyProof.noPylong_of_log2 q.2.1))
  · cases ra; cases rb; exact PyProof.Rows.mod_int' q.1 (kk _ q.2)
  · cases ra; cases rb; exact PyProof.Rows.pow_int q.1 q.2.1 (kk _ q.2.2)
  · cases ra; cases rb; exact PyProof.Rows.lshift_int q.1 q.2.1 (kk _ q.2.2)
  · cases ra; cases rb; exact PyProof.Rows.rshift_int q.1 (kk _ q.2)
  · cases ra; cases rb; exact PyProof.Rows.and_int (kk _ q)
  · cases ra; cases rb; exact PyProof.Rows.xor_int (kk _ q)
  · exact q.elim
theorem inp_ok {op : Operator} {x y : V} {a b : Value} {A : Around} {s : Shared} {Q : V → Prop} {QQ : Value → Shared → Prop} {E : Value → Shared → Prop} (q : binP op x y Q) (ra : R s.heap a x) (rb : R s.heap b y)
    (k : ∀ v d h' tk', Q d → R h' v d → Grows s.heap h' → QQ v { s with heap := h', toks := tk' }) : wpAny (model g.prog g.w) A (inplaceOp op a b) QQ E s := by
  have kk : ∀ i, Q (.int i) → QQ (.int i s.toks) { s with toks := s.toks + 1 } := fun i h => k _ _ s.heap (s.toks + 1) h (.int _ _) (grows_refl _)
  unfold binP at q
  split at q
  · cases ra; cases rb; exact PyProof.Rows.iadd_int (kk _ q)
  · cases ra; cases rb; exact PyProof.Rows.isub_int (kk _ q)
  · cases ra; cases rb; exact PyProof.Rows.imul_int (kk _ q.2) q.1
  · cases ra; cases rb; exact PyProof.Rows.ifloordiv_int q.1 (kk _ q.2.2) (.inl (PyProof.noPylong_of_log2 q.2.1))
  · cases ra; cases rb; exact PyProof.Rows.imod_int q.1 (kk _ q.2)
  · cases ra; cases rb; exact PyProof.Rows.ipow_int q.1 q.2.1 (kk _ q.2.2)
  · cases ra; cases rb; exact PyProof.Rows.ilshift_int q.1 q.2.1 (kk _ q.2.2)
  · cases ra; cases rb; exact PyProof.Rows.irshift_int q.1 (kk _ q.2)
  · cases ra; cases rb; exact PyProof.Rows.iand_int (kk _ q)
  · cases ra; cases rb; exact PyProof.Rows.ixor_int (kk _ q)
  · exact q.elim
theorem truthy_ok {x : V} {a : Value} {A : Around} {s : Shared} {Q : Bool → Prop} {QQ : Bool → Shared → Prop} {E : Value → Shared → Prop} (q : truthyP x Q) (ra : R s.heap a x)
    (k : ∀ b, Q b → QQ b s) : wpAny (model g.prog g.w) A (truthy a) QQ E s := by
  unfold truthyP at q
  split at q
  · cases ra; exact truthy_none (k _ q)
  · cases ra; exact wpAny_truthy_bool (k _ q)
  · cases ra; exact PyProof.Rows.truthy_int (k _ q)
  · exact q.elim
theorem cmp_ok {op : CmpOp} {x y : V} {a b : Value} {A : Around} {s : Shared} {Q : V → Prop} {QQ : Value → Shared → Prop} {E : Value → Shared → Prop} (hu : A.units + 64 < cLine) (q : cmpP op x y Q) (ra : R s.heap a x) (rb : R s.heap b y)
    (k : ∀ v d h' tk', Q d → R h' v d → Grows s.heap h' → QQ v { s with heap := h', toks := tk' }) : wpAny (model g.prog g.w) A (compareOp op a b) QQ E s := by
  have kk : ∀ i, Q (.bool i) → QQ (.bool i) s := fun i h => k _ _ s.heap s.toks h (.bool _) (grows_refl _)
  unfold cmpP at q
  split at q
  · cases ra; cases rb; exact PyProof.Rows.eq_int (kk _ q)
  · cases ra; cases rb; exact PyProof.Rows.ne_int (kk _ q)
  · cases ra; cases rb; exact PyProof.Rows.lt_int (kk _ q)
  · cases ra; cases rb; exact PyProof.Rows.le_int (kk _ q)
  · cases ra; cases rb; exact PyProof.Rows.gt_int (kk _ q)
  · cases ra; cases rb; exact PyProof.Rows.ge_int (kk _ q)
  · cases ra; cases rb; exact PyProof.Rows.eq_str (kk _ q)
  · cases ra; cases rb; exact PyProof.Rows.ne_str (kk _ q)
  · cases ra; cases rb; exact PyProof.Rows.eq_bool (kk _ q)
  · cases ra; cases rb; exact PyProof.Rows.ne_bool (kk _ q)
  · obtain ⟨_, ra'⟩ := ra.reads; obtain ⟨_, rb'⟩ := rb.reads
    exact eq_dataH ra' rb' q.1 q.2.1 hu (kk _ q.2.2)
  · obtain ⟨_, ra'⟩ := ra.reads; obtain ⟨_, rb'⟩ := rb.reads
    exact ne_dataH ra' rb' q.1 q.2.1 hu (kk _ q.2.2)
  · cases ra; cases rb; exact PyProof.Rows.in_str (kk _ q)
  · obtain ⟨ns, e, q⟩ := q
    subst e
    cases ra
    cases rb with
    | list h1 h2 h3 h4 => exact PyProof.Rows.notin_list_ints ⟨_, h1, h2, _, h3⟩ (Rs.ints h4) (kk _ q)
  · exact q.elim
theorem un_ok {op : UnaryOp} {x : V} {a : Value} {A : Around} {s : Shared} {Q : V → Prop} {QQ : Value → Shared → Prop} {E : Value → Shared → Prop} (q : unP op x Q) (ra : R s.heap a x)
    (k : ∀ v d h' tk', Q d → R h' v d → Grows s.heap h' → QQ v { s with heap := h', toks := tk' }) : wpAny (model g.prog g.w) A (unaryOp op a) QQ E s := by
  unfold unP at q
  split at q
  · cases ra; exact PyProof.Rows.neg_int (k _ _ s.heap (s.toks + 1) q (.int _ _) (grows_refl _))
  · exact not_of (truthy_ok q ra fun b h => k _ _ s.heap s.toks h (.bool _) (grows_refl _))
  · exact q.elim

theorem OkE.bin {op : Operator} {l r : Expr} {pos : Pos} {a b : EM} (hl : OkE g fi n l a) (hr : OkE g fi n r b) : OkE g fi n (.BinOp l op r pos) (eBin op a b) := by
  refine ⟨?_⟩
  intro ρ Q q A h₀ L m s QQ E rm st k
  refine wpAny_BinOp (hl.1 ρ _ q A h₀ L m s _ E rm st fun v x h1 t1 q1 r1 g1 => ?_)
  refine hr.1 ρ _ q1 A h₀ L m _ _ E rm (st.grow g1) fun v2 x2 h2 t2 q2 r2 g2 => ?_
  exact bin_ok (g := g) q2 (r1.grow g2) r2 fun v3 d3 h3 t3 q3 r3 g3 => k _ _ _ _ q3 r3 fun b o e => g3 _ _ (g2 _ _ (g1 _ _ e))
theorem OkE.cmp {op : CmpOp} {l r : Expr} {pos : Pos} {a b : EM} (hl : OkE g fi n l a) (hr : OkE g fi n r b) (hm : behindInMarks op r = false) : OkE g fi n (.Compare l [op] [r] pos) (eCmp op a b) := by
  refine ⟨?_⟩
  intro ρ Q q A h₀ L m s QQ E rm st k
  refine wpAny_Compare1 (hl.1 ρ _ q A h₀ L m s _ E rm st fun v x h1 t1 q1 r1 g1 => ?_) hm
  refine hr.1 ρ _ q1 A h₀ L m _ _ E rm (st.grow g1) fun v2 x2 h2 t2 q2 r2 g2 => ?_
  exact cmp_ok (g := g) (by have := rm.units; omega) q2 (r1.grow g2) r2 fun v3 d3 h3 t3 q3 r3 g3 => k _ _ _ _ q3 r3 fun b o e => g3 _ _ (g2 _ _ (g1 _ _ e))
theorem OkE.un {op : UnaryOp} {x : Expr} {pos : Pos} {a : EM} (hx : OkE g fi n x a) : OkE g fi n (.UnaryOp op x pos) (eUn op a) := by
  refine ⟨?_⟩
  intro ρ Q q A h₀ L m s QQ E rm st k
  refine UnaryOp_ (hx.1 ρ _ q A h₀ L m s _ E rm st fun v x h1 t1 q1 r1 g1 => ?_)
  exact un_ok (g := g) q1 r1 fun v3 d3 h3 t3 q3 r3 g3 => k _ _ _ _ q3 r3 fun b o e => g3 _ _ (g1 _ _ e)
theorem OkE.one {op : BoolOp} {e : Expr} {pos : Pos} {a : EM} (h : OkE g fi n e a) : OkE g fi n (.BoolOp op [e] pos) a := by
  refine ⟨?_⟩
  intro ρ Q q A h₀ L m s QQ E rm st k
  exact BoolOp_one (h.1 ρ _ q A h₀ L m s _ E rm st k)
theorem OkE.and {e₁ e₂ : Expr} {rest : List Expr} {pos : Pos} {a b : EM} (h1 : OkE g fi n e₁ a) (h2 : OkE g fi n (.BoolOp .And (e₂ :: rest) pos) b) : OkE g fi n (.BoolOp .And (e₁ :: e₂ :: rest) pos) (eAnd a b) := by
  refine ⟨?_⟩
  intro ρ Q q A h₀ L m s QQ E rm st k
  refine BoolOp_and (h1.1 ρ _ q A h₀ L m s _ E rm st fun v x h1 t1 q1 r1 g1 => ?_)
  refine truthy_ok (g := g) q1 r1 fun c hc => ?_
  cases c with
  | false => exact k _ _ _ _ hc r1 g1
  | true => exact h2.1 ρ _ hc A h₀ L m _ _ E rm (st.grow g1) fun v3 d3 h3 t3 q3 r3 g3 => k _ _ _ _ q3 r3 fun b o e => g3 _ _ (g1 _ _ e)
theorem OkE.or {e₁ e₂ : Expr} {rest : List Expr} {pos : Pos} {a b : EM} (h1 : OkE g fi n e₁ a) (h2 : OkE g fi n (.BoolOp .Or (e₂ :: rest) pos) b) : OkE g fi n (.BoolOp .Or (e₁ :: e₂ :: rest) pos) (eOr a b) := by
  refine ⟨?_⟩
  intro ρ Q q A h₀ L m s QQ E rm st k
  refine BoolOp_or (h1.1 ρ _ q A h₀ L m s _ E rm st fun v x h1 t1 q1 r1 g1 => ?_)
  refine truthy_ok (g := g) q1 r1 fun c hc => ?_
  cases c with
  | true => exact k _ _ _ _ hc r1 g1
  | false => exact h2.1 ρ _ hc A h₀ L m _ _ E rm (st.grow g1) fun v3 d3 h3 t3 q3 r3 g3 => k _ _ _ _ q3 r3 fun b o e => g3 _ _ (g1 _ _ e)

/-! tests -/
theorem OkT.plain {e : Expr} {a : EM} (h : OkE g fi n e a) (he : ∀ env : Env, isTrue e env (eval e env) = (do let v ← eval e env; standAt e.pos; holding [v] (truthy v))) : OkT g fi n e (tPlain a) := by
  refine ⟨?_⟩
  intro ρ Q q A h₀ L m s QQ E rm st k
  refine isTrue_plain (h.1 ρ _ q A h₀ L m s _ E rm st fun v x h1 t1 q1 r1 g1 => ?_) (he _)
  exact truthy_ok (g := g) q1 r1 fun b hb => k b _ _ hb g1
theorem OkT.cmp {op : CmpOp} {l r : Expr} {pos : Pos} {a b : EM} (hl : OkE g fi n l a) (hr : OkE g fi n r b) (hm : behindInMarks op r = false) : OkT g fi n (.Compare l [op] [r] pos) (tPlain (eCmp op a b)) := by
  refine ⟨?_⟩
  intro ρ Q q A h₀ L m s QQ E rm st k
  refine wpAny_isTrue_Compare1 (hl.1 ρ _ q A h₀ L m s _ E rm st fun v x h1 t1 q1 r1 g1 => ?_) hm
  refine hr.1 ρ _ q1 A h₀ L m _ _ E rm (st.grow g1) fun v2 x2 h2 t2 q2 r2 g2 => ?_
  refine cmp_ok (g := g) (by have := rm.units; omega) q2 (r1.grow g2) r2 fun v3 d3 h3 t3 q3 r3 g3 => ?_
  exact truthy_ok (g := g) q3 r3 fun b hb => k b _ _ hb fun b o e => g3 _ _ (g2 _ _ (g1 _ _ e))
theorem OkT.not {x : Expr} {pos : Pos} {a : TM} (h : OkT g fi n x a) : OkT g fi n (.UnaryOp .Not x pos) (tNot a) := by
  refine ⟨?_⟩
  intro ρ Q q A h₀ L m s QQ E rm st k
  exact isTrue_not (h.1 ρ _ q A h₀ L m s _ E rm st fun b h1 t1 q1 g1 => k _ _ _ q1 g1)
theorem OkTs.andNil : OkTs g fi n .And [] tTrue := by
  refine ⟨?_⟩
  intro ρ Q q A h₀ L m s pos whole QQ E rm st k
  exact isTrue_and_nil (k _ s.heap s.toks q (grows_refl _))
theorem OkTs.orNil : OkTs g fi n .Or [] tFalse := by
  refine ⟨?_⟩
  intro ρ Q q A h₀ L m s pos whole QQ E rm st k
  exact isTrue_or_nil (k _ s.heap s.toks q (grows_refl _))
theorem OkTs.and {x : Expr} {rest : List Expr} {a b : TM} (h : OkT g fi n x a) (hr : OkTs g fi n .And rest b) : OkTs g fi n .And (x :: rest) (tAnd a b) := by
  refine ⟨?_⟩
  intro ρ Q q A h₀ L m s pos whole QQ E rm st k
  refine isTrue_and (h.1 ρ _ q A h₀ L m s _ E rm st fun c h1 t1 q1 g1 => ?_)
  cases c with
  | false => exact k _ _ _ q1 g1
  | true => exact hr.1 ρ _ q1 A h₀ L m _ _ _ _ E rm (st.grow g1) fun c h3 t3 q3 g3 => k _ _ _ q3 fun b o e => g3 _ _ (g1 _ _ e)
theorem OkTs.or {x : Expr} {rest : List Expr} {a b : TM} (h : OkT g fi n x a) (hr : OkTs g fi n .Or rest b) : OkTs g fi n .Or (x :: rest) (tOr a b) := by
  refine ⟨?_⟩
  intro ρ Q q A h₀ L m s pos whole QQ E rm st k
  refine isTrue_or (h.1 ρ _ q A h₀ L m s _ E rm st fun c h1 t1 q1 g1 => ?_)
  cases c with
  | true => exact k _ _ _ q1 g1
  | false => exact hr.1 ρ _ q1 A h₀ L m _ _ _ _ E rm (st.grow g1) fun c h3 t3 q3 g3 => k _ _ _ q3 fun b o e => g3 _ _ (g1 _ _ e)
theorem OkT.bool {op : BoolOp} {es : List Expr} {pos : Pos} {a : TM} (h : OkTs g fi n op es a) : OkT g fi n (.BoolOp op es pos) a := by
  refine ⟨?_⟩
  intro ρ Q q A h₀ L m s QQ E rm st k
  exact h.1 ρ _ q A h₀ L m s _ _ _ E rm st k
theorem OkE.ife {t b o : Expr} {pos : Pos} {c : TM} {x y : EM} (ht : OkT g fi n t c) (hb : OkE g fi n b x) (ho : OkE g fi n o y) : OkE g fi n (.IfExp t b o pos) (eIf c x y) := by
  refine ⟨?_⟩
  intro ρ Q q A h₀ L m s QQ E rm st k
  refine IfExp_ (ht.1 ρ _ q A h₀ L m s _ E rm st fun c h1 t1 q1 g1 => ?_)
  cases c with
  | true => exact hb.1 ρ _ q1 A h₀ L m _ _ E rm (st.grow g1) fun v3 d3 h3 t3 q3 r3 g3 => k _ _ _ _ q3 r3 fun b o e => g3 _ _ (g1 _ _ e)
  | false => exact ho.1 ρ _ q1 A h₀ L m _ _ E rm (st.grow g1) fun v3 d3 h3 t3 q3 r3 g3 => k _ _ _ _ q3 r3 fun b o e => g3 _ _ (g1 _ _ e)

/-! lists of expressions -/
theorem OkEs.nil : OkEs g fi n [] lNil := by
  refine ⟨?_⟩
  intro ρ Q q A h₀ L m s pos QQ E rm st k
  exact spliced_none (k _ _ s.heap s.toks q .nil (grows_refl _))
theorem OkEs.cons {e : Expr} {rest : List Expr} {a : EM} {r : LM} (he : OkE g fi n e a) (hr : OkEs g fi n rest r) (hs : ∀ env, starEach (e :: rest) env = (false, eval e env) :: starEach rest env) : OkEs g fi n (e :: rest) (lCons a r) := by
  refine ⟨?_⟩
  intro ρ Q q A h₀ L m s pos QQ E rm st k
  refine spliced_more (he.1 ρ _ q A h₀ L m s _ E rm st fun v x h1 t1 q1 r1 g1 => ?_) (hs _)
  exact hr.1 ρ _ q1 A h₀ L m _ pos _ E rm (st.grow g1) fun vs xs h3 t3 q3 r3 g3 => k _ _ _ _ q3 (.cons (r1.grow g3) r3) fun b o e => g3 _ _ (g1 _ _ e)
theorem sizeOk_of {vs : List Value} (h : vs.length ≤ 16) : vs.length ≤ sizeLine := Nat.le_trans h (by decide)
theorem OkE.tup {es : List Expr} {k : Nat} {pos : Pos} {as : LM} (h : OkEs g fi n es as) : OkE g fi n (.Tuple es k pos) (eTup as) := by
  refine ⟨?_⟩
  intro ρ Q q A h₀ L m s QQ E rm st k
  refine Tuple_ (h.1 ρ _ q A h₀ L m s _ _ E rm st fun vs xs h1 t1 q1 r1 g1 => ?_)
  refine wpAny_newObj_type (T := "tuple") (k _ _ _ _ q1.2 (.tuple (Heap.get?_push_size _ rfl) rfl rfl (Rs.grow (fun b o e => Heap.get?_push_of_some _ e) r1)) fun b o e => Heap.get?_push_of_some _ (g1 _ _ e)) ?_
  show vs.toArray.size ≤ sizeLine
  rw [List.size_toArray]; exact sizeOk_of (r1.length ▸ q1.1)
theorem OkE.lst {es : List Expr} {pos : Pos} {as : LM} (h : OkEs g fi n es as) : OkE g fi n (.List es pos) (eLst as) := by
  refine ⟨?_⟩
  intro ρ Q q A h₀ L m s QQ E rm st k
  refine List_ (h.1 ρ _ q A h₀ L m s _ _ E rm st fun vs xs h1 t1 q1 r1 g1 => ?_)
  refine wpAny_newObj_type (T := "list") (k _ _ _ _ q1.2 (.list (Heap.get?_push_size _ rfl) rfl rfl (Rs.grow (fun b o e => Heap.get?_push_of_some _ e) r1)) fun b o e => Heap.get?_push_of_some _ (g1 _ _ e)) ?_
  show vs.toArray.size ≤ sizeLine
  rw [List.size_toArray]; exact sizeOk_of (r1.length ▸ q1.1)
end
end Mine

namespace Mine
open PySem.Calls

section
variable {g : Gl} {fi : Fi} {n : Nat}

/-! calls -/
theorem OkE.call {x : Str} {px pos : Pos} {e : Expr} {rest : List Expr} {f : Addr} {as : LM} (G : GFn g x f) {i : Nat} (hN : NAt fi i x .globalImplicit)
    (ha : OkEs g fi n (e :: rest) as) (hs : ∀ env, starEach (e :: rest) env = (false, eval e env) :: starEach rest env)
    (hany : ∀ (env : Env) (pos : Pos), ((backTo pos (starEach rest env)).any fun x => x.fst) = false) :
    OkE g fi n (.Call (.Name x px) (e :: rest) [] pos) (eCall (CallOK g n f) as) := by
  refine ⟨?_⟩
  intro ρ Q q A h₀ L m s QQ E rm st k
  refine Call_ (nameX_K st.fr st.at0.1 st.at0.2 G.1 ?_ st.kind (st.look hN) (st.dbg hN)) rfl
  refine callWith_K st.at0.1 G.2 (ha.1 ρ _ q A h₀ L m s _ _ E rm st fun vs xs h1 t1 q1 r1 g1 => ⟨(st.grow g1).now.1, ?_⟩) (hs _) (hany _ _)
  obtain ⟨d, c, q2⟩ := q1
  exact c A _ vs _ E rm (st.grow g1).now r1 fun v h' tk' r g2 => k _ _ _ _ q2 r fun b o e => g2 _ _ (g1 _ _ e)

theorem OkE.len {px pos : Pos} {e : Expr} {a : EM} (G : GBi g "len" (.builtin "len")) {i : Nat} (hN : NAt fi i (Str.ofString "len") .globalImplicit) (ha : OkE g fi n e a)
    (hs : ∀ env, starEach [e] env = [(false, eval e env)]) :
    OkE g fi n (.Call (.Name "len" px) [e] [] pos) (eLen a) := by
  refine ⟨?_⟩
  intro ρ Q q A h₀ L m s QQ E rm st k
  refine Call_ (nameX_B st.fr st.at0.1 st.at0.2 G.1 G.2.1 G.2.2 ?_ st.kind (st.look hN) (st.dbg hN)) rfl
  refine PyProof.Rows.callWith_builtin1 (spliced_more (ha.1 ρ _ q A h₀ L m s _ E rm st fun v x h1 t1 q1 r1 g1 => spliced_none ?_) (hs _)) (hs _) rfl
  obtain ⟨ns, e, hlen, hq⟩ := q1
  subst e
  cases r1 with
  | list h1 h2 h3 h4 => exact len_ints_fit ⟨_, h1, h2, _, h3⟩ (Rs.ints h4) hlen (k _ _ _ _ hq (.int _ _) g1)
theorem OkE.toint {px pos : Pos} {e : Expr} {a : EM} (G : GBi g "int" (.type "int")) {i : Nat} (hN : NAt fi i (Str.ofString "int") .globalImplicit) (ha : OkE g fi n e a)
    (hs : ∀ env, starEach [e] env = [(false, eval e env)]) :
    OkE g fi n (.Call (.Name "int" px) [e] [] pos) (eInt a) := by
  refine ⟨?_⟩
  intro ρ Q q A h₀ L m s QQ E rm st k
  refine Call_ (nameX_B st.fr st.at0.1 st.at0.2 G.1 G.2.1 G.2.2 ?_ st.kind (st.look hN) (st.dbg hN)) rfl
  refine PyProof.Rows.callWith_type1 (spliced_more (ha.1 ρ _ q A h₀ L m s _ E rm st fun v x h1 t1 q1 r1 g1 => spliced_none ?_) (hs _)) (hs _) rfl
  obtain ⟨i, e, hq⟩ := q1
  subst e
  cases r1
  exact call_int_int (k _ _ _ _ hq (.int _ _) g1)
theorem OkE.isint {px py pos : Pos} {e : Expr} {a : EM} (G : GBi g "isinstance" (.builtin "isinstance")) (G2 : GBi g "int" (.type "int")) {i : Nat} (hN : NAt fi i (Str.ofString "isinstance") .globalImplicit) {j : Nat} (hN2 : NAt fi j (Str.ofString "int") .globalImplicit)
    (ha : OkE g fi n e a) (hs : ∀ env, starEach [e, .Name "int" py] env = (false, eval e env) :: starEach [.Name "int" py] env) :
    OkE g fi n (.Call (.Name "isinstance" px) [e, .Name "int" py] [] pos) (eIsInt a) := by
  refine ⟨?_⟩
  intro ρ Q q A h₀ L m s QQ E rm st k
  refine Call_ (nameX_B st.fr st.at0.1 st.at0.2 G.1 G.2.1 G.2.2 ?_ st.kind (st.look hN) (st.dbg hN)) rfl
  refine PyProof.Rows.callWith_builtin1 (spliced_more (ha.1 ρ _ q A h₀ L m s _ E rm st fun v x h1 t1 q1 r1 g1 => spliced_more (nameX_B (st.grow g1).fr st.at0.1 st.at0.2 G2.1 G2.2.1 G2.2.2 (spliced_none ?_) st.kind (st.look hN2) (st.dbg hN2)) rfl) (hs _)) (hs _) rfl
  obtain ⟨i, e, hq⟩ := q1
  subst e
  cases r1
  exact call_isinstance_yes (typeIs_int _ _ _) meta_int sub_int_int (k _ _ _ _ hq (.bool _) g1)
theorem OkE.max {px pos : Pos} {e e' : Expr} {a b : EM} (G : GBi g "max" (.builtin "max")) {i : Nat} (hN : NAt fi i (Str.ofString "max") .globalImplicit) (ha : OkE g fi n e a) (hb : OkE g fi n e' b)
    (hs : ∀ env, starEach [e, e'] env = (false, eval e env) :: starEach [e'] env) (hs' : ∀ env, starEach [e'] env = [(false, eval e' env)]) :
    OkE g fi n (.Call (.Name "max" px) [e, e'] [] pos) (eMax a b) := by
  refine ⟨?_⟩
  intro ρ Q q A h₀ L m s QQ E rm st k
  refine Call_ (nameX_B st.fr st.at0.1 st.at0.2 G.1 G.2.1 G.2.2 ?_ st.kind (st.look hN) (st.dbg hN)) rfl
  refine PyProof.Rows.callWith_builtin1 (spliced_more (ha.1 ρ _ q A h₀ L m s _ E rm st fun v x h1 t1 q1 r1 g1 => spliced_more (hb.1 ρ _ q1 A h₀ L m _ _ E rm (st.grow g1) fun v2 x2 h2 t2 q2 r2 g2 => spliced_none ?_) (hs' _)) (hs _)) (hs _) (by rw [hs']; rfl)
  obtain ⟨i, j, e1, e2, hq⟩ := q2
  subst e1; subst e2
  cases r1; cases r2
  refine max_two_ints rm.handled fun h3 t3 g3 => ?_
  have gg : Grows s.heap h3 := fun b o e => g3 _ _ (g2 _ _ (g1 _ _ e))
  by_cases c : j > i
  · rw [if_pos c] at hq ⊢; exact k _ _ _ _ hq (.int _ _) gg
  · rw [if_neg c] at hq ⊢; exact k _ _ _ _ hq (.int _ _) gg
theorem OkE.min {px pos : Pos} {e e' : Expr} {a b : EM} (G : GBi g "min" (.builtin "min")) {i : Nat} (hN : NAt fi i (Str.ofString "min") .globalImplicit) (ha : OkE g fi n e a) (hb : OkE g fi n e' b)
    (hs : ∀ env, starEach [e, e'] env = (false, eval e env) :: starEach [e'] env) (hs' : ∀ env, starEach [e'] env = [(false, eval e' env)]) :
    OkE g fi n (.Call (.Name "min" px) [e, e'] [] pos) (eMin a b) := by
  refine ⟨?_⟩
  intro ρ Q q A h₀ L m s QQ E rm st k
  refine Call_ (nameX_B st.fr st.at0.1 st.at0.2 G.1 G.2.1 G.2.2 ?_ st.kind (st.look hN) (st.dbg hN)) rfl
  refine PyProof.Rows.callWith_builtin1 (spliced_more (ha.1 ρ _ q A h₀ L m s _ E rm st fun v x h1 t1 q1 r1 g1 => spliced_more (hb.1 ρ _ q1 A h₀ L m _ _ E rm (st.grow g1) fun v2 x2 h2 t2 q2 r2 g2 => spliced_none ?_) (hs' _)) (hs _)) (hs _) (by rw [hs']; rfl)
  obtain ⟨i, j, e1, e2, hq⟩ := q2
  subst e1; subst e2
  cases r1; cases r2
  refine min_two_ints rm.handled fun h3 t3 g3 => ?_
  have gg : Grows s.heap h3 := fun b o e => g3 _ _ (g2 _ _ (g1 _ _ e))
  by_cases c : j < i
  · rw [if_pos c] at hq ⊢; exact k _ _ _ _ hq (.int _ _) gg
  · rw [if_neg c] at hq ⊢; exact k _ _ _ _ hq (.int _ _) gg
theorem OkE.bitlen {o : Expr} {apos pos : Pos} {a : EM} (ha : OkE g fi n o a) (pl : Env → Sem Bool)
    (hev : ∀ env, eval (.Call (.Attribute o "bit_length" apos) [] [] pos) env = (do
      let ov ← eval o env; standAt apos.atName
      match ← holding [ov] (getMethod ov "bit_length" (pl env)) with
      | (f, first) => callWith pos f first (backTo pos (starEach [] env)) [])) :
    OkE g fi n (.Call (.Attribute o "bit_length" apos) [] [] pos) (eBitLen a) := by
  refine ⟨?_⟩
  intro ρ Q q A h₀ L m s QQ E rm st k
  refine MethodCall_ (ha.1 ρ _ q A h₀ L m s _ E rm st fun v x h1 t1 q1 r1 g1 => ?_) (hev _)
  obtain ⟨i, e, hq⟩ := q1
  subst e
  cases r1
  refine getMethod_int_bit_length (callWith_method0 (call_int_bit_length ?_))
  exact k _ _ _ _ hq (.int _ _) g1

/-! items -/
theorem seqIdx_lt {k : Int} {n : Nat} (h0 : 0 ≤ k) (h : k.toNat < n) : seqIndex? k n = some k.toNat := by
  unfold seqIndex?
  have e : (if k < 0 then k + (n : Int) else k) = k := if_neg (by omega)
  simp only [e]
  rw [if_pos (by simp only [Bool.and_eq_true, decide_eq_true_eq]; omega)]
theorem OkE.sub {value slice : Expr} {pos : Pos} {a b : EM} (ha : OkE g fi n value a) (hb : OkE g fi n slice b)
    (hs : ∀ (a : Addr) (k : Int) (u : Tok), subscripted slice false (.ref a) (.int k u) = operate [.ref a, .int k u] (getItem (.ref a) (.int k u)))
    (hg : ∀ (l : Addr) (r : Value), letTemporaryGo value (.ref l) r = pure ()) :
    OkE g fi n (.Subscript value slice pos) (eSub a b) := by
  refine ⟨?_⟩
  intro ρ Q q A h₀ L m s QQ E rm st k
  refine Subscript_ (ha.1 ρ _ q A h₀ L m s _ E rm st fun v x h1 t1 q1 r1 g1 => ?_)
  refine hb.1 ρ _ q1 A h₀ L m _ _ E rm (st.grow g1) fun v2 x2 h2 t2 q2 r2 g2 => ?_
  have r1 := r1.grow g2
  unfold subP at q2
  split at q2
  · obtain ⟨d, k0, k1, hd, hq⟩ := q2
    cases r2
    cases r1 with
    | tuple a1 a2 a3 a4 =>
      obtain ⟨v, hv, hr⟩ := a4.get _ _ hd
      have hlt := (List.getElem?_eq_some_iff.mp hv).1
      exact item_tupleT ⟨_, a1, a2, _, a3⟩ (by omega) (by omega) (seqIdx_lt k0 hlt) hv (k _ _ _ _ hq hr fun b o e => g2 _ _ (g1 _ _ e)) (hs _ _ _)
  · obtain ⟨ns, e, k0, k1, k2, hq⟩ := q2
    subst e
    cases r2
    cases r1 with
    | list a1 a2 a3 a4 =>
      exact item_list_ints ⟨_, a1, a2, _, a3⟩ (Rs.ints a4) k0 k1 k2 (fun t => k _ _ _ _ hq (.int _ _) fun b o e => g2 _ _ (g1 _ _ e)) (hs _ _ _) (hg _)
  · exact q2.elim

/-- a written table of the text's, keyed by texts -/
def GTab (g : Gl) (x : Str) (a : Addr) : Prop := nsIn g.K mainGlobals x = some (some (.ref a)) ∧ ∃ es n, g.K.lookup a = some ⟨.type "dict", none, .dict es n, #[]⟩ ∧ KeysLit g.w.params es.toList
def TabRow (g : Gl) (a : Addr) (k : Str) (d : V) : Prop := ∃ v, nsIn g.K a k = some (some v) ∧ ∀ h, g.K.In h → R h v d
theorem OkE.tab {x : Str} {px pos : Pos} {slice : Expr} {t : Addr} {b : EM} (G : GTab g x t) {i : Nat} (hN : NAt fi i x .globalImplicit) (hb : OkE g fi n slice b)
    (hs : ∀ (a : Addr) (k : Str) (u : Tok), subscripted slice false (.ref a) (.str k u) = operate [.ref a, .str k u] (getItem (.ref a) (.str k u))) :
    OkE g fi n (.Subscript (.Name x px) slice pos) (eTab (TabRow g t) b) := by
  refine ⟨?_⟩
  intro ρ Q q A h₀ L m s QQ E rm st k
  obtain ⟨hx, es, nn, hlk, hkeys⟩ := G
  refine Subscript_ (nameX_K st.fr st.at0.1 st.at0.2 hx ?_ st.kind (st.look hN) (st.dbg hN))
  refine hb.1 ρ _ q A h₀ L m s _ E rm st fun v2 x2 h2 t2 q2 r2 g2 => ?_
  obtain ⟨kk, d, e, ⟨v, hv, hr⟩, hq⟩ := q2
  subst e
  cases r2
  exact topItem_K (st.grow g2).fr st.at0.1 hlk hkeys hv (k _ _ _ _ hq (hr _ (st.grow g2).now.1) g2) (hs _ _ _)
end
end Mine

namespace Mine
open PySem.Calls

theorem nodup_get {N : List (Str × NameKind)} (h : (N.map (·.1)).Nodup) {i j : Nat} {x : Str} {k k' : NameKind} (hi : N[i]? = some (x, k)) (hj : N[j]? = some (x, k')) : i = j := by
  have a : (N.map (·.1))[i]? = some x := by rw [List.getElem?_map, hi]; rfl
  have b : (N.map (·.1))[j]? = some x := by rw [List.getElem?_map, hj]; rfl
  obtain ⟨li, _⟩ := List.getElem?_eq_some_iff.mp a
  exact (List.getElem?_inj li h).mp (a.trans b.symm)

theorem Rs.map {h h' : Heap} (k : ∀ v d, R h v d → R h' v d) : ∀ {vs ds}, Rs h vs ds → Rs h' vs ds
  | _, _, .nil => .nil
  | _, _, .cons a b => .cons (k _ _ a) (Rs.map k b)
theorem Rs.app {h : Heap} : ∀ {a : List Value} {c : List V}, Rs h a c → ∀ {b d}, Rs h b d → Rs h (a ++ b) (c ++ d)
  | _, _, .nil, _, _, y => y
  | _, _, .cons p r, _, _, y => .cons p (Rs.app r y)
theorem Rs.rev {h : Heap} : ∀ {vs : List Value} {ds : List V}, Rs h vs ds → Rs h vs.reverse ds.reverse
  | _, _, .nil => .nil
  | _, _, .cons p r => by rw [List.reverse_cons, List.reverse_cons]; exact Rs.app (Rs.rev r) (.cons p .nil)

section
variable {g : Gl} {fi : Fi} {n : Nat}

theorem store_ok {x : Str} {i : Nat} {v : Value} {d : V} {ρ : VEnv} {A : Around} {h₀ : Heap} {L : Addr} {m : Str → Option Value} {s : Shared} {QQ : Unit → Shared → Prop} {E : Value → Shared → Prop}
    (hi : NAt fi i x .local) (st : St g fi h₀ L m s.heap ρ) (r : R s.heap v d)
    (k : ∀ m' h' tk', St g fi h₀ L m' h' (ρ.set i (some d)) → (∀ v d, R s.heap v d → R h' v d) → QQ () { s with heap := h', toks := tk' }) :
    wpAny (model g.prog g.w) A (storeName (fi.env L) x v) QQ E s := by
  have hN : fi.scope.names[i]? = some (x, .local) := hi
  have hl := st.look hi
  refine wpAny_storeName_local hl st.fr.ns (fun h' hn hs => ?_) (by show (fi.scope.kind == .class || (fi.scope.kind == .module && L != mainGlobals)) = false; rw [st.kind]; rfl)
  have F' := st.fr.set hn hs
  have keepR : ∀ v d, R s.heap v d → R h' v d := fun v d r => R.same st.fr.ns hs r
  refine k _ h' _ ⟨st.at0, F', fun j y kd hj e he => ?_, st.kind, st.nodup, st.nodbg⟩ keepR
  by_cases hij : i = j
  · subst hij
    rw [hN] at hj
    cases hj
    have hlt : i < ρ.length := by
      have := (List.getElem?_eq_some_iff.mp he).1
      simpa using this
    rw [List.getElem?_set_self hlt] at he
    cases he
    exact ⟨v, if_pos rfl, keepR _ _ r⟩
  · rw [List.getElem?_set_ne hij] at he
    obtain ⟨v', hv', hr'⟩ := st.env j y kd hj e he
    refine ⟨v', ?_, keepR _ _ hr'⟩
    have hne : y ≠ x := by
      rintro rfl
      exact hij (nodup_get st.nodup hN hj)
    rw [if_neg hne]
    exact hv'

inductive NamesAre (N : Fi) : List Expr → List Nat → Prop
  | nil : NamesAre N [] []
  | cons {x p r i is} : NAt N i x .local → NamesAre N r is → NamesAre N (.Name x p :: r) (i :: is)

theorem names_len {N : Fi} {env : Env} : ∀ {es is}, NamesAre N es is → (assignEach es env).length = is.length
  | _, _, .nil => rfl
  | _, _, .cons _ h => congrArg (· + 1) (names_len h)
theorem names_star {N : Fi} {env : Env} : ∀ {es is}, NamesAre N es is → ∀ y ∈ assignEach es env, y.1 = false
  | _, _, .nil, _, h => nomatch h
  | _, _, .cons _ h, y, hy => by
    rcases List.mem_cons.mp hy with rfl | hy
    · rfl
    · exact names_star h y hy

theorem stores_ok {A : Around} {h₀ : Heap} {L : Addr} {E : Value → Shared → Prop} : ∀ {es : List Expr} {is : List Nat} (_ : NamesAre fi es is) {vs : List Value} {ds : List V} {ρ : VEnv} {m : Str → Option Value} {s : Shared} {QQ : Unit → Shared → Prop}
    (_ : ds.length = is.length) (_ : St g fi h₀ L m s.heap ρ) (_ : Rs s.heap vs ds)
    (_ : ∀ m' h' tk', St g fi h₀ L m' h' (setAll ρ is ds) → QQ () { s with heap := h', toks := tk' }),
    wpAny (model g.prog g.w) A (assignInOrder ((assignEach es (fi.env L)).map (·.2)) vs) QQ E s
  | _, _, .nil, _, ds, ρ, m, s, QQ, hl, st, r, k => by
    refine PyProof.Rows.assignInOrder_nil ?_
    have : ds = [] := List.length_eq_zero_iff.mp hl
    subst this
    exact k m s.heap s.toks st
  | _, _, .cons (x := x) hi h, _, _, ρ, m, s, QQ, hl, st, r, k => by
    cases r with
    | nil => cases hl
    | cons r1 r2 =>
      refine PyProof.Rows.assignInOrder_cons (PyProof.Rows.assign_Name (store_ok hi st r1 fun m' h' tk' st' kr => ?_))
      refine stores_ok h (by simpa using hl) st' ?_ k
      exact Rs.map kr r2

/-- names, in the order in which they are stored -/
inductive IdxAre (N : Fi) : List Str → List Nat → Prop
  | nil : IdxAre N [] []
  | cons {x r i is} : NAt N i x .local → IdxAre N r is → IdxAre N (x :: r) (i :: is)
theorem IdxAre.len {N : Fi} : ∀ {xs is}, IdxAre N xs is → xs.length = is.length
  | _, _, .nil => rfl
  | _, _, .cons _ h => congrArg (· + 1) h.len
theorem storesR_ok {A : Around} {h₀ : Heap} {L : Addr} {E : Value → Shared → Prop} : ∀ {xs : List Str} {is : List Nat} (_ : IdxAre fi xs is) {vs : List Value} {ds : List V} {ρ : VEnv} {m : Str → Option Value} {s : Shared} {QQ : Unit → Shared → Prop}
    (_ : ds.length = is.length) (_ : St g fi h₀ L m s.heap ρ) (_ : Rs s.heap vs ds)
    (_ : ∀ m' h' tk', St g fi h₀ L m' h' (setAll ρ is ds) → QQ () { s with heap := h', toks := tk' }),
    wpAny (model g.prog g.w) A (assignInOrder (xs.map fun x => bindName (fi.env L) x) vs) QQ E s
  | _, _, .nil, _, ds, ρ, m, s, QQ, hl, st, r, k => by
    refine PyProof.Rows.assignInOrder_nil ?_
    have : ds = [] := List.length_eq_zero_iff.mp hl
    subst this
    exact k m s.heap s.toks st
  | _, _, .cons (x := x) hi h, _, _, ρ, m, s, QQ, hl, st, r, k => by
    cases r with
    | nil => cases hl
    | cons r1 r2 =>
      refine PyProof.Rows.assignInOrder_cons (wpAny_bindName (store_ok hi st r1 fun m' h' tk' st' kr => ?_))
      refine storesR_ok h (by simpa using hl) st' ?_ k
      exact Rs.map kr r2
theorem OkS.asg {x : Str} {p pos : Pos} {e : Expr} {i : Nat} {a : EM} (he : OkE g fi n e a) (hi : NAt fi i x .local) (hw : ∀ env, swapsWith e (some (.Name x p)) pos.line env = pure false) :
    OkS g fi n (.Assign [.Name x p] e pos) (sAsg i a) := by
  refine ⟨?_⟩
  intro ρ Q Rt q A h₀ L m s QQ E rm st k kr
  refine wpAny_Assign_Name (he.1 ρ _ q A h₀ L m s _ E rm st fun v d h1 t1 q1 r1 g1 => ?_) (hw _)
  exact store_ok hi (st.grow g1) r1 fun m' h' tk' st' _ => k _ _ _ _ q1 st'
theorem OkS.asgT {es : List Expr} {kk : Nat} {p pos : Pos} {e : Expr} {is : List Nat} {a : EM} (he : OkE g fi n e a) (hN : NamesAre fi es is)
    (hs : ∀ env, swapsWithSole [.Tuple es kk p] e pos.line env = pure false) (hw : ∀ L, swappedStores [.Tuple es kk p] e (fi.env L) = pure none) :
    OkS g fi n (.Assign [.Tuple es kk p] e pos) (sAsgT is a) := by
  refine ⟨?_⟩
  intro ρ Q Rt q A h₀ L m s QQ E rm st k kr
  refine PyProof.Rows.Assign_Tuple (he.1 ρ _ q A h₀ L m s _ E rm st fun v d h1 t1 q1 r1 g1 => ?_) (hs _) (hw _)
  unfold unpackP at q1
  split at q1
  · cases r1 with
    | tuple a1 a2 a3 a4 =>
      refine PyProof.Rows.assign_Tuple_tuple rm.handled ⟨_, a1, a2, _, a3⟩ ?_ ?_ fun h2 hx => ?_
      · rw [names_len hN, q1.1, ← a4.length]; simp
      · exact List.findIdx?_eq_none_iff.mpr fun y hy => names_star hN y hy
      have g2 : Grows h1 h2 := fun b o e => hx b o (Nat.ne_of_lt (Heap.lt_size e)) e
      exact stores_ok hN q1.1.symm ((st.grow g1).grow g2) (Rs.grow g2 a4) fun m' h' tk' st' => k _ _ _ _ q1.2 st'
  · exact q1.elim
theorem OkS.asgR {es : List Expr} {kk : Nat} {p pos : Pos} {e : Expr} {is : List Nat} {a : EM} {xs : List Str} (he : OkE g fi n e a)
    (hs : ∀ env, swapsWithSole [.Tuple es kk p] e pos.line env = pure false) (hw : ∀ L, swappedStores [.Tuple es kk p] e (fi.env L) = pure (some xs)) (hN : IdxAre fi xs.reverse is) :
    OkS g fi n (.Assign [.Tuple es kk p] e pos) (sAsgR is a) := by
  refine ⟨?_⟩
  intro ρ Q Rt q A h₀ L m s QQ E rm st k kr
  refine PyProof.Rows.Assign_Tuple_swapped (he.1 ρ _ q A h₀ L m s _ E rm st fun v d h1 t1 q1 r1 g1 => ?_) (hs _) (hw _)
  unfold unpackP at q1
  split at q1
  · cases r1 with
    | tuple a1 a2 a3 a4 =>
      have hlen : xs.length = is.length := by rw [← hN.len, List.length_reverse]
      have hsz : xs.length = (Array.size ‹Array Value›) := by rw [hlen, q1.1, ← a4.length]; simp
      rw [hsz]
      refine unpackItems_tuple rm.handled ⟨_, a1, a2, _, a3⟩ fun h2 hx => ?_
      have g2 : Grows h1 h2 := fun b o e => hx b o (Nat.ne_of_lt (Heap.lt_size e)) e
      exact storesR_ok hN (by rw [List.length_reverse]; exact q1.1.symm) ((st.grow g1).grow g2) (Rs.grow g2 a4).rev fun m' h' tk' st' => k _ _ _ _ q1.2 st'
  · exact q1.elim
end
end Mine

namespace Mine
open PySem.Calls

section
variable {g : Gl} {fi : Fi} {n : Nat}
theorem OkS.bad {st : Stmt} : OkS g fi n st sBad := ⟨fun _ _ _ q => q.elim⟩
theorem OkS.aug {x : Str} {p pos : Pos} {op : Operator} {e : Expr} {i : Nat} {a : EM} (he : OkE g fi n e a) (hi : NAt fi i x .local) :
    OkS g fi n (.AugAssign (.Name x p) op e pos) (sAug i op a) := by
  refine ⟨?_⟩
  intro ρ Q Rt q A h₀ L m s QQ E rm st k kr
  obtain ⟨d, hd, q⟩ := q
  have hN : fi.scope.names[i]? = some (x, .local) := hi
  have hl := st.look hi
  obtain ⟨v, hv, hr⟩ := st.env i x _ hN d hd
  refine wpAny_AugAssign_Name (wpAny_loadName_local st.kind hl st.fr.ns hv ?_)
  refine he.1 ρ _ q A h₀ L m s _ E rm st fun v2 d2 h1 t1 q1 r1 g1 => ?_
  refine inp_ok (g := g) q1 (hr.grow g1) r1 fun v3 d3 h3 t3 q3 r3 g3 => ?_
  exact store_ok hi ((st.grow g1).grow g3) r3 fun m' h' tk' st' _ => k _ _ _ _ q3 st'
theorem OkS.ret {e : Expr} {pos : Pos} {a : EM} (he : OkE g fi n e a) : OkS g fi n (.Return (some e) pos) (sRet a) := by
  refine ⟨?_⟩
  intro ρ Q Rt q A h₀ L m s QQ E rm st k kr
  exact wpAny_Return_some (he.1 ρ _ q A h₀ L m s _ E rm st fun v d h1 t1 q1 r1 g1 => kr _ _ _ _ q1 r1 (st.grow g1).fr.keep)
theorem OkS.asrt {e : Expr} {msg : Option Expr} {pos : Pos} {a : TM} (he : OkT g fi n e a) : OkS g fi n (.Assert e msg pos) (sAsrt a) := by
  refine ⟨?_⟩
  intro ρ Q Rt q A h₀ L m s QQ E rm st k kr
  exact wpAny_Assert_holds (he.1 ρ _ q A h₀ L m s _ E rm st fun b h1 t1 q1 g1 => ⟨q1.1, k _ _ _ _ q1.2 (st.grow g1)⟩)
theorem OkS.ife {e : Expr} {b o : List Stmt} {pos : Pos} {a : TM} {x y : SM} (he : OkT g fi n e a) (hb : OkSs g fi n b x) (ho : OkSs g fi n o y) : OkS g fi n (.If e b o pos) (sIf a x y) := by
  refine ⟨?_⟩
  intro ρ Q Rt q A h₀ L m s QQ E rm st k kr
  refine wpAny_If (he.1 ρ _ q A h₀ L m s _ E rm st fun c h1 t1 q1 g1 => ?_)
  cases c with
  | true => exact hb.1 ρ _ _ q1 A h₀ L m _ _ E rm (st.grow g1) k kr
  | false => exact ho.1 ρ _ _ q1 A h₀ L m _ _ E rm (st.grow g1) k kr
theorem OkSs.nil : OkSs g fi n [] sNil := by
  refine ⟨?_⟩
  intro ρ Q Rt q A h₀ L m s QQ E rm st k kr
  exact wpAny_execs_nil (k ρ m s.heap s.toks q st)
theorem OkSs.cons {st : Stmt} {rest : List Stmt} {a b : SM} (hs : OkS g fi n st a) (hr : OkSs g fi n rest b) : OkSs g fi n (st :: rest) (sSeq a b) := by
  refine ⟨?_⟩
  intro ρ Q Rt q A h₀ L m s QQ E rm st k kr
  refine wpAny_execs_cons (hs.1 ρ _ _ q A h₀ L m s _ E rm st (fun ρ' m' h' tk' q' st' => ?_) kr)
  exact hr.1 ρ' _ _ q' A h₀ L m' _ _ E rm st' k kr
theorem OkS.whl {e : Expr} {b : List Stmt} {pos : Pos} {a : TM} {x : SM} (he : OkT g fi n e a) (hb : OkSs g fi n b x) : OkS g fi n (.While e b [] pos) (sWhl a x) := by
  refine ⟨?_⟩
  intro ρ Q Rt q A h₀ L m s QQ E rm st k kr
  obtain ⟨j, q⟩ := q
  refine wpAny_While (codeAny_whileLoop (fun i s' => ∃ ρ' m' h' tk', s' = { s with heap := h', toks := tk' } ∧ whlN a x Q Rt i ρ' ∧ St g fi h₀ L m' h' ρ') ?_ j ⟨ρ, m, s.heap, s.toks, rfl, q, st⟩)
  rintro i s' ⟨ρ', m', h', tk', rfl, q', st'⟩
  cases i with
  | zero => exact q'.elim
  | succ i =>
    refine he.1 ρ' _ q' A h₀ L m' _ _ _ rm st' fun c h1 t1 q1 g1 => ?_
    cases c with
    | false => exact wpAny_execs_nil (k _ _ _ _ q1 (st'.grow g1))
    | true =>
      refine hb.1 ρ' _ _ q1 A h₀ L m' _ _ _ rm (st'.grow g1) (fun ρ2 m2 h2 t2 q2 st2 => ?_) (fun v d h2 t2 q2 r2 g2 => ?_)
      · exact ⟨i, Nat.lt_succ_self _, ρ2, m2, h2, t2, rfl, q2, st2⟩
      · exact kr _ _ _ _ q2 r2 g2
end

theorem lookup_rev {β : Type} {l : List (Str × β)} (h : (l.map (·.1)).Nodup) {i : Nat} {x : Str} {b : β} (e : l[i]? = some (x, b)) : l.reverse.lookup x = some b := by
  have hm := List.mem_of_getElem? e
  obtain ⟨j, hj⟩ := List.getElem?_of_mem (List.mem_reverse.mpr hm)
  refine lookup_of_nodup ?_ hj
  rw [List.map_reverse]
  exact (List.reverse_perm _).nodup_iff.mpr h

/-- the parameters' names, in the order of the scope's names -/
def headsOk (N : List (Str × NameKind)) (xs : List Str) : Bool := N.take xs.length == xs.map fun x => (x, NameKind.local)

structure FnOK (g : Gl) (fi : Fi) (params : Arguments) (body : List Stmt) (dV : Value) : Prop where
  ho : ∃ oc od osl name doc pm an ct, g.K.lookup fi.f = some ⟨oc, od, .func (fnOf name fi.qual params body fi.scope dV .none doc pm an fi.cdv ct), osl⟩
  hcd : codeIn g.K fi.cdv fi.qual = true
  hcell : ∀ x ∈ fi.scope.names, x.2 ≠ .cell
  hco : fi.scope.isCoroutine = false
  hgen : fi.scope.isGenerator = false
  kind : fi.scope.kind = .function
  nodup : (fi.scope.names.map (·.1)).Nodup
  nodbg : ∀ p ∈ fi.scope.names, (p.1 == ("__debug__" : Str)) = false

/-- the arguments bound: what the call hands on, with what the defaults add -/
def Binds (g : Gl) (fi : Fi) (params : Arguments) (body : List Stmt) (dV : Value) (ps : List Str) (vs ds : List V) : Prop :=
  ∀ (s : Shared) (xs : List Value) name doc pm an ct, g.K.In s.heap → Rs s.heap xs vs →
    ∃ ys, Rs s.heap ys ds ∧ BindsTo s (fnOf name fi.qual params body fi.scope dV .none doc pm an fi.cdv ct) ⟨xs, []⟩ (ps.zip ys)

theorem callOK_of {g : Gl} {fi : Fi} {n : Nat} {params : Arguments} {body : List Stmt} {dV : Value} {ps : List Str} {vs ds : List V} {d : V} {bs : SM}
    (F : FnOK g fi params body dV) (B : Binds g fi params body dV ps vs ds) (hlen : ps.length = ds.length) (hps : fi.scope.names.take ps.length = ps.map fun x => (x, NameKind.local))
    (hbody : OkSs g fi n body bs) (hrun : ∀ k, k = fi.scope.names.length - ps.length → bs (ds.map some ++ List.replicate k none) (fun _ => False) (fun r => r = d)) : CallOK g (n + 1) fi.f vs d := by
  intro A s xs QQ E rm hat hxs k
  obtain ⟨oc, od, osl, name, doc, pm, an, ct, ho⟩ := F.ho
  obtain ⟨ys, hys, hb⟩ := B s xs name doc pm an ct hat.1 hxs
  have hl : ys.length = ps.length := by rw [hys.length, hlen]
  have hN : ∀ (i : Nat) (x : Str) (v : Value), (ps.zip ys)[i]? = some (x, v) → fi.scope.names[i]? = some (x, .local) := by
    intro i x v e
    obtain ⟨hz, _⟩ := List.getElem?_zip_eq_some.mp e
    have hi : i < ps.length := (List.getElem?_eq_some_iff.mp hz).1
    have : (fi.scope.names.take ps.length)[i]? = some (x, .local) := by rw [hps, List.getElem?_map, hz]; rfl
    rwa [List.getElem?_take_of_lt hi] at this
  have hkeys : ((ps.zip ys).map (·.1)) = ps := List.map_fst_zip (Nat.le_of_eq hl.symm)
  have hnd : ((ps.zip ys).map (·.1)).Nodup := by
    rw [hkeys]
    have h1 : (fi.scope.names.map (·.1)).take ps.length = ps := by rw [← List.map_take, hps, List.map_map]; exact List.map_id' _
    exact h1 ▸ (List.take_sublist _ _).nodup F.nodup
  refine wpAny_call (codeAny_call_def (fd := fnOf name fi.qual params body fi.scope dV .none doc pm an fi.cdv ct) (body := body) (binds := ps.zip ys) (by have := rm.depth; omega) (hat.1 _ _ ho) rfl hat.2.nolimit (codeRec_of hat.1 F.hcd) rfl hb F.hcell ?_ (fun h₁ hns hk₁ => ?_) F.hco F.hgen F.kind)
  · intro y hy
    obtain ⟨i, hi⟩ := List.getElem?_of_mem hy
    exact lookup_of_nodup F.nodup (hN i y.1 y.2 hi)
  · have st : St g fi s.heap s.heap.objs.size (fun y => (ps.zip ys).reverse.lookup y) h₁ (ds.map some ++ List.replicate (fi.scope.names.length - ps.length) none) := by
      refine ⟨hat, ⟨hns, hk₁, Nat.le_refl _⟩, ?_, F.kind, F.nodup, F.nodbg⟩
      intro i x kd hi e he
      have hi2 : i < ds.length := by
        rcases Nat.lt_or_ge i ds.length with h | h
        · exact h
        · rw [List.getElem?_append_right (by simpa using h)] at he
          have := List.mem_of_getElem? he
          rw [List.mem_replicate] at this
          cases this.2
      rw [List.getElem?_append_left (by simpa using hi2), List.getElem?_map] at he
      obtain ⟨e', he', hee⟩ := Option.map_eq_some_iff.mp he
      cases hee
      obtain ⟨v, hv, hr⟩ := hys.get i e he'
      have hi3 : i < ps.length := by omega
      have hz : (ps.zip ys)[i]? = some (ps[i], v) := List.getElem?_zip_eq_some.mpr ⟨List.getElem?_eq_getElem hi3, hv⟩
      have hx : ps[i] = x := by
        have := hN i _ _ hz
        rw [hi] at this
        exact (congrArg Prod.fst (Option.some.inj this)).symm
      exact ⟨v, hx ▸ lookup_rev hnd hz, hr.grow hk₁⟩
    refine hbody.1 _ _ _ (hrun _ rfl) (A.deeper (callEnv (fnOf name fi.qual params body fi.scope dV .none doc pm an fi.cdv ct) s.heap.objs.size fi.f)) s.heap s.heap.objs.size _ { s with heap := h₁, toks := s.toks + (ps.zip ys).length } _ _ ?_ st ?_ ?_
    · exact ⟨rm.handled, by have := rm.depth; show A.depth + 1 + n < _; omega, by have := rm.units; show A.units + 3 + 8 * n + 80 < _; omega⟩
    · intro _ _ _ _ q; exact q.elim
    · intro v x h' tk' q r gr
      subst q
      exact k v h' tk' r gr
end Mine

namespace Mine
open PySem.Calls
def isStar : Expr → Bool
  | .Starred .. => true
  | _ => false
theorem swapped2 {x y : Str} {px py p p' : Pos} {k k' : Nat} {vs : List Expr} {env : Env} (hx : env.kindOf x = some .local) (hy : env.kindOf y = some .local) (hne : x ≠ y) (hl : px.line = py.line)
    (hb : env.blockKind = .function) (h2 : vs.length = 2) (hs : vs.any isStar = false) (hf : vs.all (foldedForSure 8) = false) (hc : vs.all (constantsAlone 8) = false) :
    swappedStores [.Tuple [.Name x px, .Name y py] k p] (.Tuple vs k' p') env = pure (some [x, y]) := by
  have hs' : (vs.any fun | .Starred .. => true | _ => false) = false := hs
  have hne' : (y == x) = false := by
    cases q : y == x with
    | false => rfl
    | true => exact absurd (eq_of_beq q).symm hne
  have he : ([x, y] : List Str).eraseDups.length = 2 := by
    simp [List.eraseDups, List.eraseDupsBy, List.eraseDupsBy.loop, hne']
  unfold swappedStores
  simp only [List.length_cons, List.length_nil, h2, hb, Expr.pos, hl]
  simp [hx, hy, hf, hc, hl, he]
  intro e he2 h
  exfalso
  have := List.any_eq_false.mp hs e he2
  cases e <;> simp_all [isStar]
theorem swapped3 {x y z : Str} {px py pz p p' : Pos} {k k' : Nat} {vs : List Expr} {env : Env} (hx : env.kindOf x = some .local) (hy : env.kindOf y = some .local) (hz : env.kindOf z = some .local)
    (hne : x ≠ y) (hne2 : x ≠ z) (hne3 : y ≠ z) (hl : px.line = py.line) (hl2 : px.line = pz.line)
    (hb : env.blockKind = .function) (h2 : vs.length = 3) (hs : vs.any isStar = false) (hf : vs.all (foldedForSure 8) = false) (hc : vs.all (constantsAlone 8) = false) :
    swappedStores [.Tuple [.Name x px, .Name y py, .Name z pz] k p] (.Tuple vs k' p') env = pure (some [x, y, z]) := by
  have hs' : (vs.any fun | .Starred .. => true | _ => false) = false := hs
  have q1 : (y == x) = false := by
    cases q : y == x with
    | false => rfl
    | true => exact absurd (eq_of_beq q).symm hne
  have q2 : (z == x) = false := by
    cases q : z == x with
    | false => rfl
    | true => exact absurd (eq_of_beq q).symm hne2
  have q3 : (z == y) = false := by
    cases q : z == y with
    | false => rfl
    | true => exact absurd (eq_of_beq q).symm hne3
  have he : ([x, y, z] : List Str).eraseDups.length = 3 := by
    simp [List.eraseDups, List.eraseDupsBy, List.eraseDupsBy.loop, q1, q2, q3]
  unfold swappedStores
  simp only [List.length_cons, List.length_nil, h2, hb, Expr.pos, hl]
  simp [hx, hy, hz, hf, hc, ← hl, ← hl2, he]
  intro e he2 h
  exfalso
  have := List.any_eq_false.mp hs e he2
  cases e <;> simp_all [isStar]

/-- an item of a tuple, whatever stands before the bracket -/
def subTP : V → V → (V → Prop) → Prop
  | .tuple ds, .int k, Q => ∃ d, 0 ≤ k ∧ k < 2 ^ 31 ∧ ds[k.toNat]? = some d ∧ Q d
  | _, _, _ => False
def eSubT (a b : EM) : EM := fun ρ Q => a ρ fun x => b ρ fun y => subTP x y Q
section
variable {g : Gl} {fi : Fi} {n : Nat}
theorem OkE.subT {value slice : Expr} {pos : Pos} {a b : EM} (ha : OkE g fi n value a) (hb : OkE g fi n slice b)
    (hs : ∀ (a : Addr) (k : Int) (u : Tok), subscripted slice false (.ref a) (.int k u) = operate [.ref a, .int k u] (getItem (.ref a) (.int k u))) :
    OkE g fi n (.Subscript value slice pos) (eSubT a b) := by
  refine ⟨?_⟩
  intro ρ Q q A h₀ L m s QQ E rm st k
  refine Subscript_ (ha.1 ρ _ q A h₀ L m s _ E rm st fun v x h1 t1 q1 r1 g1 => ?_)
  refine hb.1 ρ _ q1 A h₀ L m _ _ E rm (st.grow g1) fun v2 x2 h2 t2 q2 r2 g2 => ?_
  have r1 := r1.grow g2
  unfold subTP at q2
  split at q2
  · obtain ⟨d, k0, k1, hd, hq⟩ := q2
    cases r2
    cases r1 with
    | tuple a1 a2 a3 a4 =>
      obtain ⟨v, hv, hr⟩ := a4.get _ _ hd
      have hlt := (List.getElem?_eq_some_iff.mp hv).1
      exact item_tupleT ⟨_, a1, a2, _, a3⟩ (by omega) (by omega) (seqIdx_lt k0 hlt) hv (k _ _ _ _ hq hr fun b o e => g2 _ _ (g1 _ _ e)) (hs _ _ _)
  · exact q2.elim
theorem nat_ne {N : Fi} {i j : Nat} {x y : Str} {k k' : NameKind} (hn : (N.scope.names.map (·.1)).Nodup) (hx : NAt N i x k) (hy : NAt N j y k') (hij : i ≠ j) : x ≠ y := by
  rintro rfl
  exact hij (nodup_get hn hx hy)
theorem OkS.asg2 {x y : Str} {px py p p' pos : Pos} {kk kk' i j : Nat} {vs : List Expr} {a : EM} (he : OkE g fi n (.Tuple vs kk' p') a) (hx : NAt fi i x .local) (hy : NAt fi j y .local)
    (hij : i ≠ j) (hl : px.line = py.line) (h2 : vs.length = 2) (hs : vs.any isStar = false) (hf : vs.all (foldedForSure 8) = false) (hc : vs.all (constantsAlone 8) = false) :
    OkS g fi n (.Assign [.Tuple [.Name x px, .Name y py] kk p] (.Tuple vs kk' p') pos) (sAsgR [j, i] a) := by
  refine ⟨?_⟩
  intro ρ Q Rt q A h₀ L m s QQ E rm st k kr
  exact (OkS.asgR (is := [j, i]) (xs := [x, y]) he (fun _ => rfl) (fun L' => swapped2 (st.look hx) (st.look hy) (nat_ne st.nodup hx hy hij) hl (by show (if fi.scope.kind.isAnnotationScope then _ else fi.scope.kind) = _; rw [st.kind]; rfl) h2 hs hf hc) (.cons hy (.cons hx .nil))).1 ρ Q Rt q A h₀ L m s QQ E rm st k kr
theorem OkS.asg3 {x y z : Str} {px py pz p p' pos : Pos} {kk kk' i j l : Nat} {vs : List Expr} {a : EM} (he : OkE g fi n (.Tuple vs kk' p') a) (hx : NAt fi i x .local) (hy : NAt fi j y .local) (hz : NAt fi l z .local)
    (hij : i ≠ j) (hil : i ≠ l) (hjl : j ≠ l) (hl : px.line = py.line) (hl2 : px.line = pz.line) (h2 : vs.length = 3) (hs : vs.any isStar = false) (hf : vs.all (foldedForSure 8) = false) (hc : vs.all (constantsAlone 8) = false) :
    OkS g fi n (.Assign [.Tuple [.Name x px, .Name y py, .Name z pz] kk p] (.Tuple vs kk' p') pos) (sAsgR [l, j, i] a) := by
  refine ⟨?_⟩
  intro ρ Q Rt q A h₀ L m s QQ E rm st k kr
  exact (OkS.asgR (is := [l, j, i]) (xs := [x, y, z]) he (fun _ => rfl) (fun L' => swapped3 (st.look hx) (st.look hy) (st.look hz) (nat_ne st.nodup hx hy hij) (nat_ne st.nodup hx hz hil) (nat_ne st.nodup hy hz hjl) hl hl2 (by show (if fi.scope.kind.isAnnotationScope then _ else fi.scope.kind) = _; rw [st.kind]; rfl) h2 hs hf hc) (.cons hz (.cons hy (.cons hx .nil)))).1 ρ Q Rt q A h₀ L m s QQ E rm st k kr
end
end Mine

namespace Mine
/-- a def of the text by its place among the top's statements: parameters, body, scope -/
def dfn (i : Nat) : Arguments × List Stmt × Scope := match PySem.Challenge.pw_aj5010_01.main.body[i]? with
  | some (.FunctionDef _ a b _ _ _ sc _ _ _) => (a, b, sc)
  | _ => (⟨[], [], none, [], [], none, []⟩, [], { kind := .function, names := [], isGenerator := false, isCoroutine := false, more := [] })
def fi_rshift : Fi := ⟨Str.ofString "rshift", (dfn 3).2.2, 21, .ref 20⟩
def fi_lshift : Fi := ⟨Str.ofString "lshift", (dfn 4).2.2, 28, .ref 27⟩
def fi_trailing : Fi := ⟨Str.ofString "trailing", (dfn 5).2.2, 35, .ref 34⟩
def fi_isqrt_small : Fi := ⟨Str.ofString "isqrt_small", (dfn 6).2.2, 42, .ref 41⟩
def fi_sqrtrem : Fi := ⟨Str.ofString "sqrtrem", (dfn 7).2.2, 49, .ref 48⟩
def fi_isqrt : Fi := ⟨Str.ofString "isqrt", (dfn 8).2.2, 56, .ref 55⟩
def fi_sqrt_fixed : Fi := ⟨Str.ofString "sqrt_fixed", (dfn 9).2.2, 63, .ref 62⟩
def fi_round_int : Fi := ⟨Str.ofString "round_int", (dfn 24).2.2, 89, .ref 88⟩
def fi_normalize0 : Fi := ⟨Str.ofString "_normalize", (dfn 26).2.2, 101, .ref 100⟩
def fi_normalize : Fi := ⟨Str.ofString "normalize", (dfn 27).2.2, 108, .ref 107⟩
def fi_from_man_exp : Fi := ⟨Str.ofString "from_man_exp", (dfn 28).2.2, 116, .ref 115⟩
def fi_from_int : Fi := ⟨Str.ofString "from_int", (dfn 29).2.2, 124, .ref 123⟩
def fi_to_int : Fi := ⟨Str.ofString "to_int", (dfn 30).2.2, 132, .ref 131⟩
def fi_mpf_round_int : Fi := ⟨Str.ofString "mpf_round_int", (dfn 31).2.2, 139, .ref 138⟩
def fi_mpf_floor : Fi := ⟨Str.ofString "mpf_floor", (dfn 32).2.2, 147, .ref 146⟩
def fi_to_fixed : Fi := ⟨Str.ofString "to_fixed", (dfn 33).2.2, 154, .ref 153⟩
def fi_mpf_cmp : Fi := ⟨Str.ofString "mpf_cmp", (dfn 34).2.2, 161, .ref 160⟩
def fi_mpf_pos : Fi := ⟨Str.ofString "mpf_pos", (dfn 35).2.2, 169, .ref 168⟩
def fi_mpf_neg : Fi := ⟨Str.ofString "mpf_neg", (dfn 36).2.2, 177, .ref 176⟩
def fi_mpf_sign : Fi := ⟨Str.ofString "mpf_sign", (dfn 37).2.2, 184, .ref 183⟩
def fi_mpf_add : Fi := ⟨Str.ofString "mpf_add", (dfn 38).2.2, 192, .ref 191⟩
def fi_mpf_sub : Fi := ⟨Str.ofString "mpf_sub", (dfn 39).2.2, 200, .ref 199⟩
def fi_mpf_mul : Fi := ⟨Str.ofString "mpf_mul", (dfn 40).2.2, 208, .ref 207⟩
def fi_mpf_shift : Fi := ⟨Str.ofString "mpf_shift", (dfn 41).2.2, 215, .ref 214⟩
def fi_mpf_sqrt : Fi := ⟨Str.ofString "mpf_sqrt", (dfn 42).2.2, 223, .ref 222⟩
def fi_law_mixed : Fi := ⟨Str.ofString "_law_mixed", (dfn 44).2.2, 230, .ref 229⟩
def fi_law_raw : Fi := ⟨Str.ofString "_law_raw", (dfn 45).2.2, 237, .ref 236⟩
def fi_law_units_right : Fi := ⟨Str.ofString "_law_units_right", (dfn 46).2.2, 244, .ref 243⟩
def fi_law_both_right : Fi := ⟨Str.ofString "_law_both_right", (dfn 47).2.2, 251, .ref 250⟩
def fi_law_roots_right : Fi := ⟨Str.ofString "_law_roots_right", (dfn 48).2.2, 258, .ref 257⟩
def fi_law (a : Addr) (c : Value) : Fi := ⟨Str.ofString "law", (dfn 49).2.2, a, c⟩
structure Facts (g : Gl) : Prop where
  fn_rshift : FnOK g fi_rshift (dfn 3).1 (dfn 3).2.1 .none
  fn_lshift : FnOK g fi_lshift (dfn 4).1 (dfn 4).2.1 .none
  fn_trailing : FnOK g fi_trailing (dfn 5).1 (dfn 5).2.1 .none
  fn_isqrt_small : FnOK g fi_isqrt_small (dfn 6).1 (dfn 6).2.1 .none
  fn_sqrtrem : FnOK g fi_sqrtrem (dfn 7).1 (dfn 7).2.1 .none
  fn_isqrt : FnOK g fi_isqrt (dfn 8).1 (dfn 8).2.1 .none
  fn_sqrt_fixed : FnOK g fi_sqrt_fixed (dfn 9).1 (dfn 9).2.1 .none
  fn_round_int : FnOK g fi_round_int (dfn 24).1 (dfn 24).2.1 .none
  fn_normalize0 : FnOK g fi_normalize0 (dfn 26).1 (dfn 26).2.1 .none
  fn_normalize : FnOK g fi_normalize (dfn 27).1 (dfn 27).2.1 .none
  fn_from_man_exp : FnOK g fi_from_man_exp (dfn 28).1 (dfn 28).2.1 (.ref 109)
  fn_from_int : FnOK g fi_from_int (dfn 29).1 (dfn 29).2.1 (.ref 117)
  fn_to_int : FnOK g fi_to_int (dfn 30).1 (dfn 30).2.1 (.ref 125)
  fn_mpf_round_int : FnOK g fi_mpf_round_int (dfn 31).1 (dfn 31).2.1 .none
  fn_mpf_floor : FnOK g fi_mpf_floor (dfn 32).1 (dfn 32).2.1 (.ref 140)
  fn_to_fixed : FnOK g fi_to_fixed (dfn 33).1 (dfn 33).2.1 .none
  fn_mpf_cmp : FnOK g fi_mpf_cmp (dfn 34).1 (dfn 34).2.1 .none
  fn_mpf_pos : FnOK g fi_mpf_pos (dfn 35).1 (dfn 35).2.1 (.ref 162)
  fn_mpf_neg : FnOK g fi_mpf_neg (dfn 36).1 (dfn 36).2.1 (.ref 170)
  fn_mpf_sign : FnOK g fi_mpf_sign (dfn 37).1 (dfn 37).2.1 .none
  fn_mpf_add : FnOK g fi_mpf_add (dfn 38).1 (dfn 38).2.1 (.ref 185)
  fn_mpf_sub : FnOK g fi_mpf_sub (dfn 39).1 (dfn 39).2.1 (.ref 193)
  fn_mpf_mul : FnOK g fi_mpf_mul (dfn 40).1 (dfn 40).2.1 (.ref 201)
  fn_mpf_shift : FnOK g fi_mpf_shift (dfn 41).1 (dfn 41).2.1 .none
  fn_mpf_sqrt : FnOK g fi_mpf_sqrt (dfn 42).1 (dfn 42).2.1 (.ref 216)
  fn_law_mixed : FnOK g fi_law_mixed (dfn 44).1 (dfn 44).2.1 .none
  fn_law_raw : FnOK g fi_law_raw (dfn 45).1 (dfn 45).2.1 .none
  fn_law_units_right : FnOK g fi_law_units_right (dfn 46).1 (dfn 46).2.1 .none
  fn_law_both_right : FnOK g fi_law_both_right (dfn 47).1 (dfn 47).2.1 .none
  fn_law_roots_right : FnOK g fi_law_roots_right (dfn 48).1 (dfn 48).2.1 .none
  nm_rshift : GFn g (Str.ofString "rshift") 21
  nm_lshift : GFn g (Str.ofString "lshift") 28
  nm_trailing : GFn g (Str.ofString "trailing") 35
  nm_isqrt_small : GFn g (Str.ofString "isqrt_small") 42
  nm_sqrtrem : GFn g (Str.ofString "sqrtrem") 49
  nm_isqrt : GFn g (Str.ofString "isqrt") 56
  nm_sqrt_fixed : GFn g (Str.ofString "sqrt_fixed") 63
  nm_round_int : GFn g (Str.ofString "round_int") 89
  nm_normalize0 : GFn g (Str.ofString "_normalize") 101
  nm_normalize : GFn g (Str.ofString "normalize") 108
  nm_from_man_exp : GFn g (Str.ofString "from_man_exp") 116
  nm_from_int : GFn g (Str.ofString "from_int") 124
  nm_to_int : GFn g (Str.ofString "to_int") 132
  nm_mpf_round_int : GFn g (Str.ofString "mpf_round_int") 139
  nm_mpf_floor : GFn g (Str.ofString "mpf_floor") 147
  nm_to_fixed : GFn g (Str.ofString "to_fixed") 154
  nm_mpf_cmp : GFn g (Str.ofString "mpf_cmp") 161
  nm_mpf_pos : GFn g (Str.ofString "mpf_pos") 169
  nm_mpf_neg : GFn g (Str.ofString "mpf_neg") 177
  nm_mpf_sign : GFn g (Str.ofString "mpf_sign") 184
  nm_mpf_add : GFn g (Str.ofString "mpf_add") 192
  nm_mpf_sub : GFn g (Str.ofString "mpf_sub") 200
  nm_mpf_mul : GFn g (Str.ofString "mpf_mul") 208
  nm_mpf_shift : GFn g (Str.ofString "mpf_shift") 215
  nm_mpf_sqrt : GFn g (Str.ofString "mpf_sqrt") 223
  nm_law_mixed : GFn g (Str.ofString "_law_mixed") 230
  nm_law_raw : GFn g (Str.ofString "_law_raw") 237
  nm_law_units_right : GFn g (Str.ofString "_law_units_right") 244
  nm_law_both_right : GFn g (Str.ofString "_law_both_right") 251
  nm_law_roots_right : GFn g (Str.ofString "_law_roots_right") 258
  c_MPZ_ZERO : GCst g (Str.ofString "MPZ_ZERO") (.int 0)
  c_MPZ_ONE : GCst g (Str.ofString "MPZ_ONE") (.int 1)
  c_round_nearest : GCst g (Str.ofString "round_nearest") (.str (Str.ofString "n"))
  c_round_floor : GCst g (Str.ofString "round_floor") (.str (Str.ofString "f"))
  c_round_ceiling : GCst g (Str.ofString "round_ceiling") (.str (Str.ofString "c"))
  c_round_up : GCst g (Str.ofString "round_up") (.str (Str.ofString "u"))
  c_round_down : GCst g (Str.ofString "round_down") (.str (Str.ofString "d"))
  c_round_fast : GCst g (Str.ofString "round_fast") (.str (Str.ofString "d"))
  c_fzero : GCst g (Str.ofString "fzero") ((.tuple [.int 0, .int 0, .int 0, .int 0]))
  c_fone : GCst g (Str.ofString "fone") ((.tuple [.int 0, .int 1, .int 0, .int 1]))
  c_fnone : GCst g (Str.ofString "fnone") ((.tuple [.int 1, .int 1, .int 0, .int 1]))
  c_fnan : GCst g (Str.ofString "fnan") ((.tuple [.int 0, .int 0, .int (-123), .int (-1)]))
  c_finf : GCst g (Str.ofString "finf") ((.tuple [.int 0, .int 0, .int (-456), .int (-2)]))
  c_fninf : GCst g (Str.ofString "fninf") ((.tuple [.int 1, .int 0, .int (-789), .int (-3)]))
  b_len : GBi g (Str.ofString "len") (.builtin "len")
  b_int : GBi g (Str.ofString "int") (.type "int")
  b_isinstance : GBi g (Str.ofString "isinstance") (.builtin "isinstance")
  b_max : GBi g (Str.ofString "max") (.builtin "max")
  b_min : GBi g (Str.ofString "min") (.builtin "min")
  tab : GTab g (Str.ofString "shifts_down") 90
  row_f : TabRow g 90 (Str.ofString "f") (.tuple [.int 1, .int 0])
  row_d : TabRow g 90 (Str.ofString "d") (.tuple [.int 1, .int 1])
  d_109 : ∃ (t u v : Tok) (n : Nat) (o : Obj), g.K.lookup 109 = some o ∧ o.data = .seq #[.int 0 t, .str (Str.ofString "d") u] n
  d_117 : ∃ (t u v : Tok) (n : Nat) (o : Obj), g.K.lookup 117 = some o ∧ o.data = .seq #[.int 0 t, .str (Str.ofString "d") u] n
  d_125 : ∃ (t u v : Tok) (n : Nat) (o : Obj), g.K.lookup 125 = some o ∧ o.data = .seq #[.str (Str.ofString "d") u] n
  d_140 : ∃ (t u v : Tok) (n : Nat) (o : Obj), g.K.lookup 140 = some o ∧ o.data = .seq #[.int 0 t, .str (Str.ofString "d") u] n
  d_162 : ∃ (t u v : Tok) (n : Nat) (o : Obj), g.K.lookup 162 = some o ∧ o.data = .seq #[.int 0 t, .str (Str.ofString "d") u] n
  d_170 : ∃ (t u v : Tok) (n : Nat) (o : Obj), g.K.lookup 170 = some o ∧ o.data = .seq #[.int 0 t, .str (Str.ofString "d") u] n
  d_185 : ∃ (t u v : Tok) (n : Nat) (o : Obj), g.K.lookup 185 = some o ∧ o.data = .seq #[.int 0 t, .str (Str.ofString "d") u, .int 0 v] n
  d_193 : ∃ (t u v : Tok) (n : Nat) (o : Obj), g.K.lookup 193 = some o ∧ o.data = .seq #[.int 0 t, .str (Str.ofString "d") u] n
  d_201 : ∃ (t u v : Tok) (n : Nat) (o : Obj), g.K.lookup 201 = some o ∧ o.data = .seq #[.int 0 t, .str (Str.ofString "d") u] n
  d_216 : ∃ (t u v : Tok) (n : Nat) (o : Obj), g.K.lookup 216 = some o ∧ o.data = .seq #[.str (Str.ofString "d") u] n
end Mine

namespace Mine
local macro_rules | `(tactic| walk_at "mE") => `(tactic| first
  | with_reducible exact OkE.cint | with_reducible exact OkE.cstr | with_reducible exact OkE.cbool
  | ((with_reducible apply OkE.loc); (with_reducible assumption))
  | ((with_reducible apply OkE.glob); (with_reducible assumption); (with_reducible assumption))
  | ((with_reducible apply OkE.bin); (walk_at "mE"); (walk_at "mE"))
  | ((with_reducible apply OkE.cmp); (walk_at "mE"); (walk_at "mE"); exact rfl)
  | ((with_reducible apply OkE.un); walk_at "mE")
  | ((with_reducible apply OkE.one); walk_at "mE")
  | ((with_reducible apply OkE.and); (walk_at "mE"); (walk_at "mE"))
  | ((with_reducible apply OkE.or); (walk_at "mE"); (walk_at "mE"))
  | ((with_reducible apply OkE.ife); (walk_at "mT"); (walk_at "mE"); (walk_at "mE"))
  | ((with_reducible apply OkE.tup); walk_at "mEs")
  | ((with_reducible apply OkE.lst); walk_at "mEs")
  | ((with_reducible apply OkE.isint); (with_reducible assumption); (with_reducible assumption); (with_reducible assumption); (with_reducible assumption); (walk_at "mE"); (intro _; rfl))
  | ((with_reducible apply OkE.toint); (with_reducible assumption); (with_reducible assumption); (walk_at "mE"); (intro _; rfl))
  | ((with_reducible apply OkE.len); (with_reducible assumption); (with_reducible assumption); (walk_at "mE"); (intro _; rfl))
  | ((with_reducible apply OkE.max); (with_reducible assumption); (with_reducible assumption); (walk_at "mE"); (walk_at "mE"); (intro _; rfl); (intro _; rfl))
  | ((with_reducible apply OkE.min); (with_reducible assumption); (with_reducible assumption); (walk_at "mE"); (walk_at "mE"); (intro _; rfl); (intro _; rfl))
  | ((with_reducible apply OkE.bitlen); (walk_at "mE"); (intro _; rfl))
  | ((with_reducible apply OkE.call); (with_reducible assumption); (with_reducible assumption); (walk_at "mEs"); (intro _; rfl); (intro _ _; rfl))
  | ((with_reducible apply OkE.tab); (with_reducible assumption); (with_reducible assumption); (walk_at "mE"); (intro _ _ _; with_unfolding_all rfl))
  | ((with_reducible apply OkE.sub); (walk_at "mE"); (walk_at "mE"); (intro _ _ _; with_unfolding_all rfl); (intro _ _; rfl))
  | ((with_reducible apply OkE.subT); (walk_at "mE"); (walk_at "mE"); (intro _ _ _; with_unfolding_all rfl)))
local macro_rules | `(tactic| walk_at "mEs") => `(tactic| first
  | with_reducible exact OkEs.nil
  | ((with_reducible apply OkEs.cons); (walk_at "mE"); (walk_at "mEs"); (intro _; rfl)))
local macro_rules | `(tactic| walk_at "mT") => `(tactic| first
  | ((with_reducible apply OkT.not); walk_at "mT")
  | ((with_reducible apply OkT.cmp); (walk_at "mE"); (walk_at "mE"); exact rfl)
  | ((with_reducible apply OkT.bool); walk_at "mTs")
  | ((with_reducible apply OkT.plain); (walk_at "mE"); (intro _; rfl)))
local macro_rules | `(tactic| walk_at "mTs") => `(tactic| first
  | with_reducible exact OkTs.andNil | with_reducible exact OkTs.orNil
  | ((with_reducible apply OkTs.and); (walk_at "mT"); (walk_at "mTs"))
  | ((with_reducible apply OkTs.or); (walk_at "mT"); (walk_at "mTs")))
local macro_rules | `(tactic| walk_at "mN") => `(tactic| first
  | with_reducible exact NamesAre.nil
  | ((with_reducible apply NamesAre.cons); (with_reducible assumption); walk_at "mN"))
local macro_rules | `(tactic| walk_at "mI") => `(tactic| first
  | with_reducible exact IdxAre.nil
  | ((apply IdxAre.cons); (assumption); walk_at "mI"))
local macro_rules | `(tactic| walk_at "mS") => `(tactic| first
  | ((with_reducible apply OkS.ret); walk_at "mE")
  | ((with_reducible apply OkS.ife); (walk_at "mT"); (walk_at "mSs"); (walk_at "mSs"))
  | ((with_reducible apply OkS.asg); (walk_at "mE"); (with_reducible assumption); (intro _; rfl))
  | ((with_reducible apply OkS.asgT); (walk_at "mE"); (walk_at "mN"); (intro _; rfl); (intro _; rfl))
  | ((with_reducible apply OkS.asg2); (walk_at "mE"); (with_reducible assumption); (with_reducible assumption); (exact of_decide_eq_true rfl); exact rfl; exact rfl; exact rfl; exact rfl; exact rfl)
  | ((with_reducible apply OkS.asg3); (walk_at "mE"); (with_reducible assumption); (with_reducible assumption); (with_reducible assumption); (exact of_decide_eq_true rfl); (exact of_decide_eq_true rfl); (exact of_decide_eq_true rfl); exact rfl; exact rfl; exact rfl; exact rfl; exact rfl; exact rfl)
  | ((with_reducible apply OkS.aug); (walk_at "mE"); (with_reducible assumption))
  | ((with_reducible apply OkS.asrt); walk_at "mT")
  | ((with_reducible apply OkS.whl); (walk_at "mT"); (walk_at "mSs"))
  | with_reducible exact OkS.bad)
local macro_rules | `(tactic| walk_at "mSs") => `(tactic| first
  | with_reducible exact OkSs.nil
  | ((with_reducible apply OkSs.cons); (walk_at "mS"); (walk_at "mSs")))

set_option maxHeartbeats 2000000 in
def rshift_b (g : Gl) (F : Facts g) (n : Nat) : {d : SM // OkSs g fi_rshift n (dfn 3).2.1 d} := by
  apply Subtype.mk
  have n0 : NAt fi_rshift 0 (Str.ofString "x") .local := rfl
  have n1 : NAt fi_rshift 1 (Str.ofString "n") .local := rfl
  apply OkSs.cons
  walk_at "mS"
  walk_at "mSs"
set_option maxHeartbeats 2000000 in
def lshift_b (g : Gl) (F : Facts g) (n : Nat) : {d : SM // OkSs g fi_lshift n (dfn 4).2.1 d} := by
  apply Subtype.mk
  have n0 : NAt fi_lshift 0 (Str.ofString "x") .local := rfl
  have n1 : NAt fi_lshift 1 (Str.ofString "n") .local := rfl
  apply OkSs.cons
  walk_at "mS"
  walk_at "mSs"
set_option maxHeartbeats 2000000 in
def trailing_b (g : Gl) (F : Facts g) (n : Nat) : {d : SM // OkSs g fi_trailing n (dfn 5).2.1 d} := by
  apply Subtype.mk
  have n0 : NAt fi_trailing 0 (Str.ofString "n") .local := rfl
  apply OkSs.cons
  walk_at "mS"
  walk_at "mSs"
set_option maxHeartbeats 2000000 in
def isqrt_small_b (g : Gl) (F : Facts g) (n : Nat) : {d : SM // OkSs g fi_isqrt_small n (dfn 6).2.1 d} := by
  apply Subtype.mk
  have n0 : NAt fi_isqrt_small 0 (Str.ofString "x") .local := rfl
  have n1 : NAt fi_isqrt_small 1 (Str.ofString "r") .local := rfl
  have n2 : NAt fi_isqrt_small 2 (Str.ofString "y") .local := rfl
  apply OkSs.cons
  walk_at "mS"
  walk_at "mSs"
set_option maxHeartbeats 2000000 in
def sqrtrem_b (g : Gl) (F : Facts g) (n : Nat) : {d : SM // OkSs g fi_sqrtrem n (dfn 7).2.1 d} := by
  apply Subtype.mk
  have n0 : NAt fi_sqrtrem 0 (Str.ofString "x") .local := rfl
  have n1 : NAt fi_sqrtrem 1 (Str.ofString "y") .local := rfl
  have n2 : NAt fi_sqrtrem 2 (Str.ofString "isqrt_small") .globalImplicit := rfl
  have q2 := F.nm_isqrt_small
  apply OkSs.cons
  walk_at "mS"
  walk_at "mSs"
set_option maxHeartbeats 2000000 in
def isqrt_b (g : Gl) (F : Facts g) (n : Nat) : {d : SM // OkSs g fi_isqrt n (dfn 8).2.1 d} := by
  apply Subtype.mk
  have n0 : NAt fi_isqrt 0 (Str.ofString "x") .local := rfl
  have n1 : NAt fi_isqrt 1 (Str.ofString "sqrtrem") .globalImplicit := rfl
  have q1 := F.nm_sqrtrem
  apply OkSs.cons
  walk_at "mS"
  walk_at "mSs"
set_option maxHeartbeats 2000000 in
def sqrt_fixed_b (g : Gl) (F : Facts g) (n : Nat) : {d : SM // OkSs g fi_sqrt_fixed n (dfn 9).2.1 d} := by
  apply Subtype.mk
  have n0 : NAt fi_sqrt_fixed 0 (Str.ofString "x") .local := rfl
  have n1 : NAt fi_sqrt_fixed 1 (Str.ofString "prec") .local := rfl
  have n2 : NAt fi_sqrt_fixed 2 (Str.ofString "isqrt") .globalImplicit := rfl
  have q2 := F.nm_isqrt
  apply OkSs.cons
  walk_at "mS"
  walk_at "mSs"
set_option maxHeartbeats 2000000 in
def round_int_b (g : Gl) (F : Facts g) (n : Nat) : {d : SM // OkSs g fi_round_int n (dfn 24).2.1 d} := by
  apply Subtype.mk
  have n0 : NAt fi_round_int 0 (Str.ofString "x") .local := rfl
  have n1 : NAt fi_round_int 1 (Str.ofString "n") .local := rfl
  have n2 : NAt fi_round_int 2 (Str.ofString "rnd") .local := rfl
  have n3 : NAt fi_round_int 3 (Str.ofString "t") .local := rfl
  have n4 : NAt fi_round_int 4 (Str.ofString "round_nearest") .globalImplicit := rfl
  have q4 := F.c_round_nearest
  have n5 : NAt fi_round_int 5 (Str.ofString "MPZ_ONE") .globalImplicit := rfl
  have q5 := F.c_MPZ_ONE
  have n6 : NAt fi_round_int 6 (Str.ofString "round_int") .globalImplicit := rfl
  have q6 := F.nm_round_int
  have n7 : NAt fi_round_int 7 (Str.ofString "round_floor") .globalImplicit := rfl
  have q7 := F.c_round_floor
  have n8 : NAt fi_round_int 8 (Str.ofString "round_ceiling") .globalImplicit := rfl
  have q8 := F.c_round_ceiling
  have n9 : NAt fi_round_int 9 (Str.ofString "round_down") .globalImplicit := rfl
  have q9 := F.c_round_down
  have n10 : NAt fi_round_int 10 (Str.ofString "round_up") .globalImplicit := rfl
  have q10 := F.c_round_up
  apply OkSs.cons
  walk_at "mS"
  walk_at "mSs"
set_option maxHeartbeats 2000000 in
def normalize0_b (g : Gl) (F : Facts g) (n : Nat) : {d : SM // OkSs g fi_normalize0 n (dfn 26).2.1 d} := by
  apply Subtype.mk
  have n0 : NAt fi_normalize0 0 (Str.ofString "sign") .local := rfl
  have n1 : NAt fi_normalize0 1 (Str.ofString "man") .local := rfl
  have n2 : NAt fi_normalize0 2 (Str.ofString "exp") .local := rfl
  have n3 : NAt fi_normalize0 3 (Str.ofString "bc") .local := rfl
  have n4 : NAt fi_normalize0 4 (Str.ofString "prec") .local := rfl
  have n5 : NAt fi_normalize0 5 (Str.ofString "rnd") .local := rfl
  have n6 : NAt fi_normalize0 6 (Str.ofString "n") .local := rfl
  have n7 : NAt fi_normalize0 7 (Str.ofString "t") .local := rfl
  have n8 : NAt fi_normalize0 8 (Str.ofString "fzero") .globalImplicit := rfl
  have q8 := F.c_fzero
  have n9 : NAt fi_normalize0 9 (Str.ofString "round_nearest") .globalImplicit := rfl
  have q9 := F.c_round_nearest
  have n10 : NAt fi_normalize0 10 (Str.ofString "MPZ_ONE") .globalImplicit := rfl
  have q10 := F.c_MPZ_ONE
  have n11 : NAt fi_normalize0 11 (Str.ofString "shifts_down") .globalImplicit := rfl
  have q11 := F.tab
  have n12 : NAt fi_normalize0 12 (Str.ofString "trailing") .globalImplicit := rfl
  have q12 := F.nm_trailing
  apply OkSs.cons
  walk_at "mS"
  walk_at "mSs"
set_option maxHeartbeats 2000000 in
def normalize_b (g : Gl) (F : Facts g) (n : Nat) : {d : SM // OkSs g fi_normalize n (dfn 27).2.1 d} := by
  apply Subtype.mk
  have n0 : NAt fi_normalize 0 (Str.ofString "sign") .local := rfl
  have n1 : NAt fi_normalize 1 (Str.ofString "man") .local := rfl
  have n2 : NAt fi_normalize 2 (Str.ofString "exp") .local := rfl
  have n3 : NAt fi_normalize 3 (Str.ofString "bc") .local := rfl
  have n4 : NAt fi_normalize 4 (Str.ofString "prec") .local := rfl
  have n5 : NAt fi_normalize 5 (Str.ofString "rnd") .local := rfl
  have n6 : NAt fi_normalize 6 (Str.ofString "_normalize") .globalImplicit := rfl
  have q6 := F.nm_normalize0
  apply OkSs.cons
  walk_at "mS"
  walk_at "mSs"
set_option maxHeartbeats 2000000 in
def from_man_exp_b (g : Gl) (F : Facts g) (n : Nat) : {d : SM // OkSs g fi_from_man_exp n (dfn 28).2.1 d} := by
  apply Subtype.mk
  have n0 : NAt fi_from_man_exp 0 (Str.ofString "man") .local := rfl
  have n1 : NAt fi_from_man_exp 1 (Str.ofString "exp") .local := rfl
  have n2 : NAt fi_from_man_exp 2 (Str.ofString "prec") .local := rfl
  have n3 : NAt fi_from_man_exp 3 (Str.ofString "rnd") .local := rfl
  have n4 : NAt fi_from_man_exp 4 (Str.ofString "sign") .local := rfl
  have n5 : NAt fi_from_man_exp 5 (Str.ofString "bc") .local := rfl
  have n6 : NAt fi_from_man_exp 6 (Str.ofString "t") .local := rfl
  have n7 : NAt fi_from_man_exp 7 (Str.ofString "isinstance") .globalImplicit := rfl
  have q7 := F.b_isinstance
  have n8 : NAt fi_from_man_exp 8 (Str.ofString "int") .globalImplicit := rfl
  have q8 := F.b_int
  have n9 : NAt fi_from_man_exp 9 (Str.ofString "TypeError") .globalImplicit := rfl
  have n10 : NAt fi_from_man_exp 10 (Str.ofString "fzero") .globalImplicit := rfl
  have q10 := F.c_fzero
  have n11 : NAt fi_from_man_exp 11 (Str.ofString "trailing") .globalImplicit := rfl
  have q11 := F.nm_trailing
  have n12 : NAt fi_from_man_exp 12 (Str.ofString "normalize") .globalImplicit := rfl
  have q12 := F.nm_normalize
  apply OkSs.cons
  walk_at "mS"
  walk_at "mSs"
set_option maxHeartbeats 2000000 in
def from_int_b (g : Gl) (F : Facts g) (n : Nat) : {d : SM // OkSs g fi_from_int n (dfn 29).2.1 d} := by
  apply Subtype.mk
  have n0 : NAt fi_from_int 0 (Str.ofString "n") .local := rfl
  have n1 : NAt fi_from_int 1 (Str.ofString "prec") .local := rfl
  have n2 : NAt fi_from_int 2 (Str.ofString "rnd") .local := rfl
  have n3 : NAt fi_from_int 3 (Str.ofString "from_man_exp") .globalImplicit := rfl
  have q3 := F.nm_from_man_exp
  have n4 : NAt fi_from_int 4 (Str.ofString "int") .globalImplicit := rfl
  have q4 := F.b_int
  apply OkSs.cons
  walk_at "mS"
  walk_at "mSs"
set_option maxHeartbeats 2000000 in
def to_int_b (g : Gl) (F : Facts g) (n : Nat) : {d : SM // OkSs g fi_to_int n (dfn 30).2.1 d} := by
  apply Subtype.mk
  have n0 : NAt fi_to_int 0 (Str.ofString "s") .local := rfl
  have n1 : NAt fi_to_int 1 (Str.ofString "rnd") .local := rfl
  have n2 : NAt fi_to_int 2 (Str.ofString "sign") .local := rfl
  have n3 : NAt fi_to_int 3 (Str.ofString "man") .local := rfl
  have n4 : NAt fi_to_int 4 (Str.ofString "exp") .local := rfl
  have n5 : NAt fi_to_int 5 (Str.ofString "bc") .local := rfl
  have n6 : NAt fi_to_int 6 (Str.ofString "fnan") .globalImplicit := rfl
  have q6 := F.c_fnan
  have n7 : NAt fi_to_int 7 (Str.ofString "ValueError") .globalImplicit := rfl
  have n8 : NAt fi_to_int 8 (Str.ofString "OverflowError") .globalImplicit := rfl
  have n9 : NAt fi_to_int 9 (Str.ofString "round_fast") .globalImplicit := rfl
  have q9 := F.c_round_fast
  have n10 : NAt fi_to_int 10 (Str.ofString "round_int") .globalImplicit := rfl
  have q10 := F.nm_round_int
  apply OkSs.cons
  walk_at "mS"
  walk_at "mSs"
set_option maxHeartbeats 2000000 in
def mpf_round_int_b (g : Gl) (F : Facts g) (n : Nat) : {d : SM // OkSs g fi_mpf_round_int n (dfn 31).2.1 d} := by
  apply Subtype.mk
  have n0 : NAt fi_mpf_round_int 0 (Str.ofString "s") .local := rfl
  have n1 : NAt fi_mpf_round_int 1 (Str.ofString "rnd") .local := rfl
  have n2 : NAt fi_mpf_round_int 2 (Str.ofString "sign") .local := rfl
  have n3 : NAt fi_mpf_round_int 3 (Str.ofString "man") .local := rfl
  have n4 : NAt fi_mpf_round_int 4 (Str.ofString "exp") .local := rfl
  have n5 : NAt fi_mpf_round_int 5 (Str.ofString "bc") .local := rfl
  have n6 : NAt fi_mpf_round_int 6 (Str.ofString "mag") .local := rfl
  have n7 : NAt fi_mpf_round_int 7 (Str.ofString "round_ceiling") .globalImplicit := rfl
  have q7 := F.c_round_ceiling
  have n8 : NAt fi_mpf_round_int 8 (Str.ofString "fzero") .globalImplicit := rfl
  have q8 := F.c_fzero
  have n9 : NAt fi_mpf_round_int 9 (Str.ofString "fone") .globalImplicit := rfl
  have q9 := F.c_fone
  have n10 : NAt fi_mpf_round_int 10 (Str.ofString "round_floor") .globalImplicit := rfl
  have q10 := F.c_round_floor
  have n11 : NAt fi_mpf_round_int 11 (Str.ofString "fnone") .globalImplicit := rfl
  have q11 := F.c_fnone
  have n12 : NAt fi_mpf_round_int 12 (Str.ofString "round_nearest") .globalImplicit := rfl
  have q12 := F.c_round_nearest
  have n13 : NAt fi_mpf_round_int 13 (Str.ofString "MPZ_ONE") .globalImplicit := rfl
  have q13 := F.c_MPZ_ONE
  have n14 : NAt fi_mpf_round_int 14 (Str.ofString "NotImplementedError") .globalImplicit := rfl
  have n15 : NAt fi_mpf_round_int 15 (Str.ofString "mpf_pos") .globalImplicit := rfl
  have q15 := F.nm_mpf_pos
  have n16 : NAt fi_mpf_round_int 16 (Str.ofString "min") .globalImplicit := rfl
  have q16 := F.b_min
  apply OkSs.cons
  walk_at "mS"
  walk_at "mSs"
set_option maxHeartbeats 2000000 in
def mpf_floor_b (g : Gl) (F : Facts g) (n : Nat) : {d : SM // OkSs g fi_mpf_floor n (dfn 32).2.1 d} := by
  apply Subtype.mk
  have n0 : NAt fi_mpf_floor 0 (Str.ofString "s") .local := rfl
  have n1 : NAt fi_mpf_floor 1 (Str.ofString "prec") .local := rfl
  have n2 : NAt fi_mpf_floor 2 (Str.ofString "rnd") .local := rfl
  have n3 : NAt fi_mpf_floor 3 (Str.ofString "v") .local := rfl
  have n4 : NAt fi_mpf_floor 4 (Str.ofString "mpf_round_int") .globalImplicit := rfl
  have q4 := F.nm_mpf_round_int
  have n5 : NAt fi_mpf_floor 5 (Str.ofString "round_floor") .globalImplicit := rfl
  have q5 := F.c_round_floor
  have n6 : NAt fi_mpf_floor 6 (Str.ofString "mpf_pos") .globalImplicit := rfl
  have q6 := F.nm_mpf_pos
  apply OkSs.cons
  walk_at "mS"
  walk_at "mSs"
set_option maxHeartbeats 2000000 in
def to_fixed_b (g : Gl) (F : Facts g) (n : Nat) : {d : SM // OkSs g fi_to_fixed n (dfn 33).2.1 d} := by
  apply Subtype.mk
  have n0 : NAt fi_to_fixed 0 (Str.ofString "s") .local := rfl
  have n1 : NAt fi_to_fixed 1 (Str.ofString "prec") .local := rfl
  have n2 : NAt fi_to_fixed 2 (Str.ofString "sign") .local := rfl
  have n3 : NAt fi_to_fixed 3 (Str.ofString "man") .local := rfl
  have n4 : NAt fi_to_fixed 4 (Str.ofString "exp") .local := rfl
  have n5 : NAt fi_to_fixed 5 (Str.ofString "bc") .local := rfl
  have n6 : NAt fi_to_fixed 6 (Str.ofString "offset") .local := rfl
  apply OkSs.cons
  walk_at "mS"
  walk_at "mSs"
set_option maxHeartbeats 2000000 in
def mpf_cmp_b (g : Gl) (F : Facts g) (n : Nat) : {d : SM // OkSs g fi_mpf_cmp n (dfn 34).2.1 d} := by
  apply Subtype.mk
  have n0 : NAt fi_mpf_cmp 0 (Str.ofString "s") .local := rfl
  have n1 : NAt fi_mpf_cmp 1 (Str.ofString "t") .local := rfl
  have n2 : NAt fi_mpf_cmp 2 (Str.ofString "ssign") .local := rfl
  have n3 : NAt fi_mpf_cmp 3 (Str.ofString "sman") .local := rfl
  have n4 : NAt fi_mpf_cmp 4 (Str.ofString "sexp") .local := rfl
  have n5 : NAt fi_mpf_cmp 5 (Str.ofString "sbc") .local := rfl
  have n6 : NAt fi_mpf_cmp 6 (Str.ofString "tsign") .local := rfl
  have n7 : NAt fi_mpf_cmp 7 (Str.ofString "tman") .local := rfl
  have n8 : NAt fi_mpf_cmp 8 (Str.ofString "texp") .local := rfl
  have n9 : NAt fi_mpf_cmp 9 (Str.ofString "tbc") .local := rfl
  have n10 : NAt fi_mpf_cmp 10 (Str.ofString "a") .local := rfl
  have n11 : NAt fi_mpf_cmp 11 (Str.ofString "b") .local := rfl
  have n12 : NAt fi_mpf_cmp 12 (Str.ofString "delta") .local := rfl
  have n13 : NAt fi_mpf_cmp 13 (Str.ofString "fzero") .globalImplicit := rfl
  have q13 := F.c_fzero
  have n14 : NAt fi_mpf_cmp 14 (Str.ofString "mpf_sign") .globalImplicit := rfl
  have q14 := F.nm_mpf_sign
  have n15 : NAt fi_mpf_cmp 15 (Str.ofString "fnan") .globalImplicit := rfl
  have q15 := F.c_fnan
  have n16 : NAt fi_mpf_cmp 16 (Str.ofString "finf") .globalImplicit := rfl
  have q16 := F.c_finf
  have n17 : NAt fi_mpf_cmp 17 (Str.ofString "fninf") .globalImplicit := rfl
  have q17 := F.c_fninf
  have n18 : NAt fi_mpf_cmp 18 (Str.ofString "mpf_sub") .globalImplicit := rfl
  have q18 := F.nm_mpf_sub
  have n19 : NAt fi_mpf_cmp 19 (Str.ofString "round_floor") .globalImplicit := rfl
  have q19 := F.c_round_floor
  apply OkSs.cons
  walk_at "mS"
  walk_at "mSs"
set_option maxHeartbeats 2000000 in
def mpf_pos_b (g : Gl) (F : Facts g) (n : Nat) : {d : SM // OkSs g fi_mpf_pos n (dfn 35).2.1 d} := by
  apply Subtype.mk
  have n0 : NAt fi_mpf_pos 0 (Str.ofString "s") .local := rfl
  have n1 : NAt fi_mpf_pos 1 (Str.ofString "prec") .local := rfl
  have n2 : NAt fi_mpf_pos 2 (Str.ofString "rnd") .local := rfl
  have n3 : NAt fi_mpf_pos 3 (Str.ofString "sign") .local := rfl
  have n4 : NAt fi_mpf_pos 4 (Str.ofString "man") .local := rfl
  have n5 : NAt fi_mpf_pos 5 (Str.ofString "exp") .local := rfl
  have n6 : NAt fi_mpf_pos 6 (Str.ofString "bc") .local := rfl
  have n7 : NAt fi_mpf_pos 7 (Str.ofString "normalize") .globalImplicit := rfl
  have q7 := F.nm_normalize
  apply OkSs.cons
  walk_at "mS"
  walk_at "mSs"
set_option maxHeartbeats 2000000 in
def mpf_neg_b (g : Gl) (F : Facts g) (n : Nat) : {d : SM // OkSs g fi_mpf_neg n (dfn 36).2.1 d} := by
  apply Subtype.mk
  have n0 : NAt fi_mpf_neg 0 (Str.ofString "s") .local := rfl
  have n1 : NAt fi_mpf_neg 1 (Str.ofString "prec") .local := rfl
  have n2 : NAt fi_mpf_neg 2 (Str.ofString "rnd") .local := rfl
  have n3 : NAt fi_mpf_neg 3 (Str.ofString "sign") .local := rfl
  have n4 : NAt fi_mpf_neg 4 (Str.ofString "man") .local := rfl
  have n5 : NAt fi_mpf_neg 5 (Str.ofString "exp") .local := rfl
  have n6 : NAt fi_mpf_neg 6 (Str.ofString "bc") .local := rfl
  have n7 : NAt fi_mpf_neg 7 (Str.ofString "finf") .globalImplicit := rfl
  have q7 := F.c_finf
  have n8 : NAt fi_mpf_neg 8 (Str.ofString "fninf") .globalImplicit := rfl
  have q8 := F.c_fninf
  have n9 : NAt fi_mpf_neg 9 (Str.ofString "normalize") .globalImplicit := rfl
  have q9 := F.nm_normalize
  apply OkSs.cons
  walk_at "mS"
  walk_at "mSs"
set_option maxHeartbeats 2000000 in
def mpf_sign_b (g : Gl) (F : Facts g) (n : Nat) : {d : SM // OkSs g fi_mpf_sign n (dfn 37).2.1 d} := by
  apply Subtype.mk
  have n0 : NAt fi_mpf_sign 0 (Str.ofString "s") .local := rfl
  have n1 : NAt fi_mpf_sign 1 (Str.ofString "sign") .local := rfl
  have n2 : NAt fi_mpf_sign 2 (Str.ofString "man") .local := rfl
  have n3 : NAt fi_mpf_sign 3 (Str.ofString "exp") .local := rfl
  have n4 : NAt fi_mpf_sign 4 (Str.ofString "bc") .local := rfl
  have n5 : NAt fi_mpf_sign 5 (Str.ofString "finf") .globalImplicit := rfl
  have q5 := F.c_finf
  have n6 : NAt fi_mpf_sign 6 (Str.ofString "fninf") .globalImplicit := rfl
  have q6 := F.c_fninf
  apply OkSs.cons
  walk_at "mS"
  walk_at "mSs"
set_option maxHeartbeats 2000000 in
def mpf_add_b (g : Gl) (F : Facts g) (n : Nat) : {d : SM // OkSs g fi_mpf_add n (dfn 38).2.1 d} := by
  apply Subtype.mk
  have n0 : NAt fi_mpf_add 0 (Str.ofString "s") .local := rfl
  have n1 : NAt fi_mpf_add 1 (Str.ofString "t") .local := rfl
  have n2 : NAt fi_mpf_add 2 (Str.ofString "prec") .local := rfl
  have n3 : NAt fi_mpf_add 3 (Str.ofString "rnd") .local := rfl
  have n4 : NAt fi_mpf_add 4 (Str.ofString "_sub") .local := rfl
  have n5 : NAt fi_mpf_add 5 (Str.ofString "ssign") .local := rfl
  have n6 : NAt fi_mpf_add 6 (Str.ofString "sman") .local := rfl
  have n7 : NAt fi_mpf_add 7 (Str.ofString "sexp") .local := rfl
  have n8 : NAt fi_mpf_add 8 (Str.ofString "sbc") .local := rfl
  have n9 : NAt fi_mpf_add 9 (Str.ofString "tsign") .local := rfl
  have n10 : NAt fi_mpf_add 10 (Str.ofString "tman") .local := rfl
  have n11 : NAt fi_mpf_add 11 (Str.ofString "texp") .local := rfl
  have n12 : NAt fi_mpf_add 12 (Str.ofString "tbc") .local := rfl
  have n13 : NAt fi_mpf_add 13 (Str.ofString "offset") .local := rfl
  have n14 : NAt fi_mpf_add 14 (Str.ofString "delta") .local := rfl
  have n15 : NAt fi_mpf_add 15 (Str.ofString "man") .local := rfl
  have n16 : NAt fi_mpf_add 16 (Str.ofString "bc") .local := rfl
  have n17 : NAt fi_mpf_add 17 (Str.ofString "normalize") .globalImplicit := rfl
  have q17 := F.nm_normalize
  have n18 : NAt fi_mpf_add 18 (Str.ofString "mpf_neg") .globalImplicit := rfl
  have q18 := F.nm_mpf_neg
  have n19 : NAt fi_mpf_add 19 (Str.ofString "fnan") .globalImplicit := rfl
  have q19 := F.c_fnan
  apply OkSs.cons
  walk_at "mS"
  walk_at "mSs"
set_option maxHeartbeats 2000000 in
def mpf_sub_b (g : Gl) (F : Facts g) (n : Nat) : {d : SM // OkSs g fi_mpf_sub n (dfn 39).2.1 d} := by
  apply Subtype.mk
  have n0 : NAt fi_mpf_sub 0 (Str.ofString "s") .local := rfl
  have n1 : NAt fi_mpf_sub 1 (Str.ofString "t") .local := rfl
  have n2 : NAt fi_mpf_sub 2 (Str.ofString "prec") .local := rfl
  have n3 : NAt fi_mpf_sub 3 (Str.ofString "rnd") .local := rfl
  have n4 : NAt fi_mpf_sub 4 (Str.ofString "mpf_add") .globalImplicit := rfl
  have q4 := F.nm_mpf_add
  apply OkSs.cons
  walk_at "mS"
  walk_at "mSs"
set_option maxHeartbeats 2000000 in
def mpf_mul_b (g : Gl) (F : Facts g) (n : Nat) : {d : SM // OkSs g fi_mpf_mul n (dfn 40).2.1 d} := by
  apply Subtype.mk
  have n0 : NAt fi_mpf_mul 0 (Str.ofString "s") .local := rfl
  have n1 : NAt fi_mpf_mul 1 (Str.ofString "t") .local := rfl
  have n2 : NAt fi_mpf_mul 2 (Str.ofString "prec") .local := rfl
  have n3 : NAt fi_mpf_mul 3 (Str.ofString "rnd") .local := rfl
  have n4 : NAt fi_mpf_mul 4 (Str.ofString "ssign") .local := rfl
  have n5 : NAt fi_mpf_mul 5 (Str.ofString "sman") .local := rfl
  have n6 : NAt fi_mpf_mul 6 (Str.ofString "sexp") .local := rfl
  have n7 : NAt fi_mpf_mul 7 (Str.ofString "sbc") .local := rfl
  have n8 : NAt fi_mpf_mul 8 (Str.ofString "tsign") .local := rfl
  have n9 : NAt fi_mpf_mul 9 (Str.ofString "tman") .local := rfl
  have n10 : NAt fi_mpf_mul 10 (Str.ofString "texp") .local := rfl
  have n11 : NAt fi_mpf_mul 11 (Str.ofString "tbc") .local := rfl
  have n12 : NAt fi_mpf_mul 12 (Str.ofString "sign") .local := rfl
  have n13 : NAt fi_mpf_mul 13 (Str.ofString "man") .local := rfl
  have n14 : NAt fi_mpf_mul 14 (Str.ofString "bc") .local := rfl
  have n15 : NAt fi_mpf_mul 15 (Str.ofString "s_special") .local := rfl
  have n16 : NAt fi_mpf_mul 16 (Str.ofString "t_special") .local := rfl
  have n17 : NAt fi_mpf_mul 17 (Str.ofString "normalize") .globalImplicit := rfl
  have q17 := F.nm_normalize
  have n18 : NAt fi_mpf_mul 18 (Str.ofString "fzero") .globalImplicit := rfl
  have q18 := F.c_fzero
  have n19 : NAt fi_mpf_mul 19 (Str.ofString "fnan") .globalImplicit := rfl
  have q19 := F.c_fnan
  have n20 : NAt fi_mpf_mul 20 (Str.ofString "finf") .globalImplicit := rfl
  have q20 := F.c_finf
  have n21 : NAt fi_mpf_mul 21 (Str.ofString "fninf") .globalImplicit := rfl
  have q21 := F.c_fninf
  have n22 : NAt fi_mpf_mul 22 (Str.ofString "mpf_sign") .globalImplicit := rfl
  have q22 := F.nm_mpf_sign
  apply OkSs.cons
  walk_at "mS"
  walk_at "mSs"
set_option maxHeartbeats 2000000 in
def mpf_shift_b (g : Gl) (F : Facts g) (n : Nat) : {d : SM // OkSs g fi_mpf_shift n (dfn 41).2.1 d} := by
  apply Subtype.mk
  have n0 : NAt fi_mpf_shift 0 (Str.ofString "s") .local := rfl
  have n1 : NAt fi_mpf_shift 1 (Str.ofString "n") .local := rfl
  have n2 : NAt fi_mpf_shift 2 (Str.ofString "sign") .local := rfl
  have n3 : NAt fi_mpf_shift 3 (Str.ofString "man") .local := rfl
  have n4 : NAt fi_mpf_shift 4 (Str.ofString "exp") .local := rfl
  have n5 : NAt fi_mpf_shift 5 (Str.ofString "bc") .local := rfl
  apply OkSs.cons
  walk_at "mS"
  walk_at "mSs"
set_option maxHeartbeats 2000000 in
def mpf_sqrt_b (g : Gl) (F : Facts g) (n : Nat) : {d : SM // OkSs g fi_mpf_sqrt n (dfn 42).2.1 d} := by
  apply Subtype.mk
  have n0 : NAt fi_mpf_sqrt 0 (Str.ofString "s") .local := rfl
  have n1 : NAt fi_mpf_sqrt 1 (Str.ofString "prec") .local := rfl
  have n2 : NAt fi_mpf_sqrt 2 (Str.ofString "rnd") .local := rfl
  have n3 : NAt fi_mpf_sqrt 3 (Str.ofString "sign") .local := rfl
  have n4 : NAt fi_mpf_sqrt 4 (Str.ofString "man") .local := rfl
  have n5 : NAt fi_mpf_sqrt 5 (Str.ofString "exp") .local := rfl
  have n6 : NAt fi_mpf_sqrt 6 (Str.ofString "bc") .local := rfl
  have n7 : NAt fi_mpf_sqrt 7 (Str.ofString "shift") .local := rfl
  have n8 : NAt fi_mpf_sqrt 8 (Str.ofString "rem") .local := rfl
  have n9 : NAt fi_mpf_sqrt 9 (Str.ofString "ComplexResult") .globalImplicit := rfl
  have n10 : NAt fi_mpf_sqrt 10 (Str.ofString "normalize") .globalImplicit := rfl
  have q10 := F.nm_normalize
  have n11 : NAt fi_mpf_sqrt 11 (Str.ofString "max") .globalImplicit := rfl
  have q11 := F.b_max
  have n12 : NAt fi_mpf_sqrt 12 (Str.ofString "isqrt") .globalImplicit := rfl
  have q12 := F.nm_isqrt
  have n13 : NAt fi_mpf_sqrt 13 (Str.ofString "sqrtrem") .globalImplicit := rfl
  have q13 := F.nm_sqrtrem
  have n14 : NAt fi_mpf_sqrt 14 (Str.ofString "from_man_exp") .globalImplicit := rfl
  have q14 := F.nm_from_man_exp
  apply OkSs.cons
  walk_at "mS"
  walk_at "mSs"
set_option maxHeartbeats 2000000 in
def law_mixed_b (g : Gl) (F : Facts g) (n : Nat) : {d : SM // OkSs g fi_law_mixed n (dfn 44).2.1 d} := by
  apply Subtype.mk
  have n0 : NAt fi_law_mixed 0 (Str.ofString "script") .local := rfl
  have n1 : NAt fi_law_mixed 1 (Str.ofString "k") .local := rfl
  have n2 : NAt fi_law_mixed 2 (Str.ofString "n") .local := rfl
  have n3 : NAt fi_law_mixed 3 (Str.ofString "len") .globalImplicit := rfl
  have q3 := F.b_len
  apply OkSs.cons
  walk_at "mS"
  walk_at "mSs"
set_option maxHeartbeats 2000000 in
def law_raw_b (g : Gl) (F : Facts g) (n : Nat) : {d : SM // OkSs g fi_law_raw n (dfn 45).2.1 d} := by
  apply Subtype.mk
  have n0 : NAt fi_law_raw 0 (Str.ofString "rich") .local := rfl
  have n1 : NAt fi_law_raw 1 (Str.ofString "bits") .local := rfl
  have n2 : NAt fi_law_raw 2 (Str.ofString "spread") .local := rfl
  have n3 : NAt fi_law_raw 3 (Str.ofString "kind") .local := rfl
  have n4 : NAt fi_law_raw 4 (Str.ofString "e") .local := rfl
  have n5 : NAt fi_law_raw 5 (Str.ofString "m") .local := rfl
  have n6 : NAt fi_law_raw 6 (Str.ofString "man") .local := rfl
  apply OkSs.cons
  walk_at "mS"
  walk_at "mSs"
set_option maxHeartbeats 2000000 in
def law_units_right_b (g : Gl) (F : Facts g) (n : Nat) : {d : SM // OkSs g fi_law_units_right n (dfn 46).2.1 d} := by
  apply Subtype.mk
  have n0 : NAt fi_law_units_right 0 (Str.ofString "s") .local := rfl
  have n1 : NAt fi_law_units_right 1 (Str.ofString "few") .local := rfl
  have n2 : NAt fi_law_units_right 2 (Str.ofString "many") .local := rfl
  have n3 : NAt fi_law_units_right 3 (Str.ofString "low") .local := rfl
  have n4 : NAt fi_law_units_right 4 (Str.ofString "more") .local := rfl
  have n5 : NAt fi_law_units_right 5 (Str.ofString "whole") .local := rfl
  have n6 : NAt fi_law_units_right 6 (Str.ofString "part") .local := rfl
  have n7 : NAt fi_law_units_right 7 (Str.ofString "to_fixed") .globalImplicit := rfl
  have q7 := F.nm_to_fixed
  have n8 : NAt fi_law_units_right 8 (Str.ofString "mpf_floor") .globalImplicit := rfl
  have q8 := F.nm_mpf_floor
  have n9 : NAt fi_law_units_right 9 (Str.ofString "mpf_shift") .globalImplicit := rfl
  have q9 := F.nm_mpf_shift
  have n10 : NAt fi_law_units_right 10 (Str.ofString "from_int") .globalImplicit := rfl
  have q10 := F.nm_from_int
  have n11 : NAt fi_law_units_right 11 (Str.ofString "to_int") .globalImplicit := rfl
  have q11 := F.nm_to_int
  have n12 : NAt fi_law_units_right 12 (Str.ofString "from_man_exp") .globalImplicit := rfl
  have q12 := F.nm_from_man_exp
  have n13 : NAt fi_law_units_right 13 (Str.ofString "mpf_cmp") .globalImplicit := rfl
  have q13 := F.nm_mpf_cmp
  have n14 : NAt fi_law_units_right 14 (Str.ofString "rshift") .globalImplicit := rfl
  have q14 := F.nm_rshift
  have n15 : NAt fi_law_units_right 15 (Str.ofString "lshift") .globalImplicit := rfl
  have q15 := F.nm_lshift
  have n16 : NAt fi_law_units_right 16 (Str.ofString "mpf_neg") .globalImplicit := rfl
  have q16 := F.nm_mpf_neg
  apply OkSs.cons
  walk_at "mS"
  walk_at "mSs"
set_option maxHeartbeats 2000000 in
def law_both_right_b (g : Gl) (F : Facts g) (n : Nat) : {d : SM // OkSs g fi_law_both_right n (dfn 47).2.1 d} := by
  apply Subtype.mk
  have n0 : NAt fi_law_both_right 0 (Str.ofString "s") .local := rfl
  have n1 : NAt fi_law_both_right 1 (Str.ofString "t") .local := rfl
  have n2 : NAt fi_law_both_right 2 (Str.ofString "few") .local := rfl
  have n3 : NAt fi_law_both_right 3 (Str.ofString "one") .local := rfl
  have n4 : NAt fi_law_both_right 4 (Str.ofString "other") .local := rfl
  have n5 : NAt fi_law_both_right 5 (Str.ofString "order") .local := rfl
  have n6 : NAt fi_law_both_right 6 (Str.ofString "first") .local := rfl
  have n7 : NAt fi_law_both_right 7 (Str.ofString "second") .local := rfl
  have n8 : NAt fi_law_both_right 8 (Str.ofString "to_fixed") .globalImplicit := rfl
  have q8 := F.nm_to_fixed
  have n9 : NAt fi_law_both_right 9 (Str.ofString "mpf_add") .globalImplicit := rfl
  have q9 := F.nm_mpf_add
  have n10 : NAt fi_law_both_right 10 (Str.ofString "mpf_cmp") .globalImplicit := rfl
  have q10 := F.nm_mpf_cmp
  have n11 : NAt fi_law_both_right 11 (Str.ofString "from_man_exp") .globalImplicit := rfl
  have q11 := F.nm_from_man_exp
  have n12 : NAt fi_law_both_right 12 (Str.ofString "mpf_mul") .globalImplicit := rfl
  have q12 := F.nm_mpf_mul
  have n13 : NAt fi_law_both_right 13 (Str.ofString "rshift") .globalImplicit := rfl
  have q13 := F.nm_rshift
  apply OkSs.cons
  walk_at "mS"
  walk_at "mSs"
set_option maxHeartbeats 2000000 in
def law_roots_right_b (g : Gl) (F : Facts g) (n : Nat) : {d : SM // OkSs g fi_law_roots_right n (dfn 48).2.1 d} := by
  apply Subtype.mk
  have n0 : NAt fi_law_roots_right 0 (Str.ofString "s") .local := rfl
  have n1 : NAt fi_law_roots_right 1 (Str.ofString "few") .local := rfl
  have n2 : NAt fi_law_roots_right 2 (Str.ofString "n") .local := rfl
  have n3 : NAt fi_law_roots_right 3 (Str.ofString "units") .local := rfl
  have n4 : NAt fi_law_roots_right 4 (Str.ofString "root") .local := rfl
  have n5 : NAt fi_law_roots_right 5 (Str.ofString "whole") .local := rfl
  have n6 : NAt fi_law_roots_right 6 (Str.ofString "rest") .local := rfl
  have n7 : NAt fi_law_roots_right 7 (Str.ofString "to_fixed") .globalImplicit := rfl
  have q7 := F.nm_to_fixed
  have n8 : NAt fi_law_roots_right 8 (Str.ofString "sqrt_fixed") .globalImplicit := rfl
  have q8 := F.nm_sqrt_fixed
  have n9 : NAt fi_law_roots_right 9 (Str.ofString "mpf_sqrt") .globalImplicit := rfl
  have q9 := F.nm_mpf_sqrt
  have n10 : NAt fi_law_roots_right 10 (Str.ofString "from_man_exp") .globalImplicit := rfl
  have q10 := F.nm_from_man_exp
  have n11 : NAt fi_law_roots_right 11 (Str.ofString "sqrtrem") .globalImplicit := rfl
  have q11 := F.nm_sqrtrem
  have n12 : NAt fi_law_roots_right 12 (Str.ofString "isqrt") .globalImplicit := rfl
  have q12 := F.nm_isqrt
  have n13 : NAt fi_law_roots_right 13 (Str.ofString "to_int") .globalImplicit := rfl
  have q13 := F.nm_to_int
  have n14 : NAt fi_law_roots_right 14 (Str.ofString "from_int") .globalImplicit := rfl
  have q14 := F.nm_from_int
  apply OkSs.cons
  walk_at "mS"
  walk_at "mSs"
set_option maxHeartbeats 2000000 in
def law_b (fa : Addr) (fc : Value) (g : Gl) (F : Facts g) (n : Nat) : {d : SM // OkSs g (fi_law fa fc) n (dfn 49).2.1 d} := by
  apply Subtype.mk
  have n0 : NAt (fi_law fa fc) 0 (Str.ofString "script") .local := rfl
  have n1 : NAt (fi_law fa fc) 1 (Str.ofString "first") .local := rfl
  have n2 : NAt (fi_law fa fc) 2 (Str.ofString "n") .local := rfl
  have n3 : NAt (fi_law fa fc) 3 (Str.ofString "few") .local := rfl
  have n4 : NAt (fi_law fa fc) 4 (Str.ofString "many") .local := rfl
  have n5 : NAt (fi_law fa fc) 5 (Str.ofString "s") .local := rfl
  have n6 : NAt (fi_law fa fc) 6 (Str.ofString "t") .local := rfl
  have n7 : NAt (fi_law fa fc) 7 (Str.ofString "noughts") .local := rfl
  have n8 : NAt (fi_law fa fc) 8 (Str.ofString "size") .local := rfl
  have n9 : NAt (fi_law fa fc) 9 (Str.ofString "_law_mixed") .globalImplicit := rfl
  have q9 := F.nm_law_mixed
  have n10 : NAt (fi_law fa fc) 10 (Str.ofString "_law_raw") .globalImplicit := rfl
  have q10 := F.nm_law_raw
  have n11 : NAt (fi_law fa fc) 11 (Str.ofString "mpf_shift") .globalImplicit := rfl
  have q11 := F.nm_mpf_shift
  have n12 : NAt (fi_law fa fc) 12 (Str.ofString "mpf_add") .globalImplicit := rfl
  have q12 := F.nm_mpf_add
  have n13 : NAt (fi_law fa fc) 13 (Str.ofString "from_man_exp") .globalImplicit := rfl
  have q13 := F.nm_from_man_exp
  have n14 : NAt (fi_law fa fc) 14 (Str.ofString "trailing") .globalImplicit := rfl
  have q14 := F.nm_trailing
  have n15 : NAt (fi_law fa fc) 15 (Str.ofString "rshift") .globalImplicit := rfl
  have q15 := F.nm_rshift
  have n16 : NAt (fi_law fa fc) 16 (Str.ofString "_law_units_right") .globalImplicit := rfl
  have q16 := F.nm_law_units_right
  have n17 : NAt (fi_law fa fc) 17 (Str.ofString "_law_both_right") .globalImplicit := rfl
  have q17 := F.nm_law_both_right
  have n18 : NAt (fi_law fa fc) 18 (Str.ofString "mpf_neg") .globalImplicit := rfl
  have q18 := F.nm_mpf_neg
  have n19 : NAt (fi_law fa fc) 19 (Str.ofString "_law_roots_right") .globalImplicit := rfl
  have q19 := F.nm_law_roots_right
  have n20 : NAt (fi_law fa fc) 20 (Str.ofString "from_int") .globalImplicit := rfl
  have q20 := F.nm_from_int
  apply OkSs.cons
  walk_at "mS"
  walk_at "mSs"
end Mine

namespace Mine

abbrev bits (a : Int) : Nat := Builtin.Int.intBits a

def p2 (n : Int) : Int := 2 ^ n.toNat
theorem p2_pos (n : Int) : 0 < p2 n := Int.pow_pos (by decide)
theorem p2_add {a b : Int} (ha : 0 ≤ a) (hb : 0 ≤ b) : p2 (a + b) = p2 a * p2 b := by
  unfold p2; rw [Int.toNat_add ha hb, Int.pow_add]
theorem p2_zero : p2 0 = 1 := rfl
theorem p2_one : p2 1 = 2 := rfl
theorem p2_nat (n : Nat) : p2 n = 2 ^ n := rfl
theorem p2_ge {n : Int} : 1 ≤ p2 n := p2_pos n

/-- the floor of A times 2 to the k -/
def fx (A k : Int) : Int := if 0 ≤ k then A * p2 k else A.fdiv (p2 (-k))

theorem fx_char {A k N q : Int} (hN : 0 ≤ N) (hk : 0 ≤ k + N) : fx A k = q ↔ q * p2 N ≤ A * p2 (k + N) ∧ A * p2 (k + N) < (q + 1) * p2 N := by
  unfold fx
  by_cases h : 0 ≤ k
  · rw [if_pos h, p2_add h hN, ← Int.mul_assoc]
    constructor
    · rintro rfl
      exact ⟨Int.le_refl _, Int.mul_lt_mul_of_pos_right (by omega) (p2_pos _)⟩
    · rintro ⟨a, b⟩
      have a' := Int.le_of_mul_le_mul_right a (p2_pos _)
      have b' := Int.lt_of_mul_lt_mul_right b (Int.le_of_lt (p2_pos _))
      omega
  · rw [if_neg h, Int.fdiv_eq_ediv_of_nonneg _ (Int.le_of_lt (p2_pos _))]
    have e : p2 N = p2 (-k) * p2 (k + N) := by rw [← p2_add (by omega) hk]; congr 1; omega
    rw [e, ← Int.mul_assoc, ← Int.mul_assoc]
    have hD := p2_pos (-k)
    have hM := p2_pos (k + N)
    constructor
    · rintro rfl
      refine ⟨Int.mul_le_mul_of_nonneg_right ((Int.le_ediv_iff_mul_le hD).mp (Int.le_refl _)) (Int.le_of_lt hM), Int.mul_lt_mul_of_pos_right ((Int.ediv_lt_iff_lt_mul hD).mp (by omega)) hM⟩
    · rintro ⟨a, b⟩
      have a' := (Int.le_ediv_iff_mul_le hD).mpr (Int.le_of_mul_le_mul_right a hM)
      have b' := (Int.ediv_lt_iff_lt_mul hD).mpr (Int.lt_of_mul_lt_mul_right b (Int.le_of_lt hM))
      omega

theorem fx_lo {A k N : Int} (hN : 0 ≤ N) (hk : 0 ≤ k + N) : fx A k * p2 N ≤ A * p2 (k + N) := ((fx_char hN hk).mp rfl).1
theorem fx_hi {A k N : Int} (hN : 0 ≤ N) (hk : 0 ≤ k + N) : A * p2 (k + N) < (fx A k + 1) * p2 N := ((fx_char hN hk).mp rfl).2

/-- the same number: A times 2 to the k, B times 2 to the l -/
def Sm (A k B l : Int) : Prop := ∀ N, 0 ≤ k + N → 0 ≤ l + N → A * p2 (k + N) = B * p2 (l + N)
theorem Sm.of {A k B l N : Int} (hk : 0 ≤ k + N) (hl : 0 ≤ l + N) (h : A * p2 (k + N) = B * p2 (l + N)) : Sm A k B l := by
  intro M hk' hl'
  by_cases c : N ≤ M
  · have e1 : p2 (k + M) = p2 (k + N) * p2 (M - N) := by rw [← p2_add hk (by omega)]; congr 1; omega
    have e2 : p2 (l + M) = p2 (l + N) * p2 (M - N) := by rw [← p2_add hl (by omega)]; congr 1; omega
    rw [e1, e2, ← Int.mul_assoc, ← Int.mul_assoc, h]
  · have e1 : p2 (k + N) = p2 (k + M) * p2 (N - M) := by rw [← p2_add hk' (by omega)]; congr 1; omega
    have e2 : p2 (l + N) = p2 (l + M) * p2 (N - M) := by rw [← p2_add hl' (by omega)]; congr 1; omega
    rw [e1, e2, ← Int.mul_assoc, ← Int.mul_assoc] at h
    exact Int.eq_of_mul_eq_mul_right (Int.ne_of_gt (p2_pos _)) h
theorem Sm.refl (A k : Int) : Sm A k A k := fun _ _ _ => rfl
theorem Sm.symm {A k B l : Int} (h : Sm A k B l) : Sm B l A k := fun N a b => (h N b a).symm
theorem Sm.shift {A k B l : Int} (h : Sm A k B l) (p : Int) : Sm A (k + p) B (l + p) := fun N a b => by
  have := h (p + N) (by omega) (by omega)
  rw [show k + p + N = k + (p + N) from by omega, show l + p + N = l + (p + N) from by omega]
  exact this
theorem Sm.neg {A k B l : Int} (h : Sm A k B l) : Sm (-A) k (-B) l := fun N a b => by
  rw [Int.neg_mul, Int.neg_mul, h N a b]
theorem Sm.trans {A k B l C m : Int} (h : Sm A k B l) (h' : Sm B l C m) : Sm A k C m :=
  Sm.of (N := (k.natAbs + l.natAbs + m.natAbs : Nat)) (by omega) (by omega) ((h _ (by omega) (by omega)).trans (h' _ (by omega) (by omega)))
theorem Sm.fx {A k B l : Int} (h : Sm A k B l) : fx A k = fx B l := by
  refine (fx_char (N := (k.natAbs + l.natAbs : Nat)) (by omega) (by omega)).mpr ?_
  rw [h _ (by omega) (by omega)]
  exact (fx_char (by omega) (by omega)).mp rfl

theorem exists_odd (A : Int) (h : A ≠ 0) : ∃ p : Int × Nat, p.1 % 2 = 1 ∧ A = p.1 * 2 ^ p.2 := by
  have key : ∀ n : Nat, ∀ A : Int, A.natAbs ≤ n → A ≠ 0 → ∃ p : Int × Nat, p.1 % 2 = 1 ∧ A = p.1 * 2 ^ p.2 := by
    intro n
    induction n with
    | zero => intro A h1 h2; omega
    | succ n ih =>
      intro A h1 h2
      by_cases c : A % 2 = 1
      · exact ⟨(A, 0), c, by simp⟩
      · obtain ⟨⟨a, t⟩, ha, hb⟩ := ih (A / 2) (by omega) (by omega)
        refine ⟨(a, t + 1), ha, ?_⟩
        simp only [Int.pow_succ] at hb ⊢
        rw [← Int.mul_assoc, ← hb]
        omega
  exact key _ A (Nat.le_refl _) h
theorem odd_unique {a b : Int} : ∀ {s t : Nat}, a % 2 = 1 → b % 2 = 1 → a * 2 ^ s = b * 2 ^ t → a = b ∧ s = t
  | 0, 0, _, _, h => by simpa using h
  | 0, t + 1, ha, _, h => by
    exfalso
    rw [Int.pow_succ, ← Int.mul_assoc] at h
    simp only [Int.pow_zero, Int.mul_one] at h
    omega
  | s + 1, 0, _, hb, h => by
    exfalso
    rw [Int.pow_succ, ← Int.mul_assoc] at h
    simp only [Int.pow_zero, Int.mul_one] at h
    omega
  | s + 1, t + 1, ha, hb, h => by
    rw [Int.pow_succ, Int.pow_succ, ← Int.mul_assoc, ← Int.mul_assoc] at h
    obtain ⟨e1, e2⟩ := odd_unique ha hb (Int.eq_of_mul_eq_mul_right (by decide) h)
    exact ⟨e1, by omega⟩

abbrev VV := PyData
def num (a e : Int) : VV := .tuple [.int (if a < 0 then 1 else 0), .int a.natAbs, .int e, .int (bits a)]
/-- the text's form of A times 2 to the k -/
noncomputable def norm (A k : Int) : VV := if h : A = 0 then num 0 0 else num (Classical.choose (exists_odd A h)).1 (k + (Classical.choose (exists_odd A h)).2)
theorem norm_zero (k : Int) : norm 0 k = num 0 0 := dif_pos rfl
theorem norm_odd {a : Int} (ha : a % 2 = 1) (t : Nat) (k : Int) : norm (a * 2 ^ t) k = num a (k + t) := by
  have hne : a * 2 ^ t ≠ 0 := fun h => by
    rcases Int.mul_eq_zero.mp h with h | h
    · omega
    · exact absurd h (Int.ne_of_gt (Int.pow_pos (by decide)))
  unfold norm
  rw [dif_neg hne]
  obtain ⟨h1, h2⟩ := Classical.choose_spec (exists_odd _ hne)
  obtain ⟨e1, e2⟩ := odd_unique ha h1 h2
  rw [← e1, ← e2]
theorem norm_odd0 {a : Int} (ha : a % 2 = 1) (k : Int) : norm a k = num a k := by
  have := norm_odd ha 0 k
  simpa using this

/-- a number in its form: odd, or nought -/
def Cn (a e : Int) : Prop := a % 2 = 1 ∨ (a = 0 ∧ e = 0)
theorem Cn.norm {a e : Int} (h : Cn a e) : norm a e = num a e := by
  rcases h with h | ⟨rfl, rfl⟩
  · exact norm_odd0 h e
  · exact norm_zero 0

theorem bits_le {a : Int} {k : Nat} (h : a.natAbs < 2 ^ k) : bits a ≤ k := PyProof.Rows.intBits_le h
theorem lt_bits (a : Int) : a.natAbs < 2 ^ bits a := natAbs_lt_pow_bits a
theorem bits_zero : bits 0 = 0 := rfl
theorem bits_ge {a : Int} (h : a ≠ 0) : 2 ^ (bits a - 1) ≤ a.natAbs := by
  unfold bits Builtin.Int.intBits
  have hb : (a == 0) = false := by simpa using h
  rw [hb]
  simp only [Bool.false_eq_true, if_false, Nat.add_sub_cancel]
  exact Nat.log2_self_le (by omega)
theorem bits_pos {a : Int} (h : a ≠ 0) : 1 ≤ bits a := by
  unfold bits Builtin.Int.intBits
  have hb : (a == 0) = false := by simpa using h
  rw [hb]
  simp
theorem bits_unique {a : Int} {b : Nat} (h1 : 2 ^ b ≤ a.natAbs) (h2 : a.natAbs < 2 ^ (b + 1)) : bits a = b + 1 := by
  have h3 := bits_le h2
  have h4 := lt_bits a
  have h5 : 2 ^ b < 2 ^ bits a := Nat.lt_of_le_of_lt h1 h4
  have h6 := (Nat.pow_lt_pow_iff_right (by decide)).mp h5
  omega
theorem bits_neg (a : Int) : bits (-a) = bits a := by
  unfold bits Builtin.Int.intBits
  by_cases h : a = 0
  · subst h; rfl
  · have h1 : (a == 0) = false := by simpa using h
    have h2 : (-a == 0) = false := by simpa using h
    rw [h1, h2, Int.natAbs_neg]
theorem bits_abs (a : Int) : bits (a.natAbs : Int) = bits a := by
  rcases Int.natAbs_eq a with h | h
  · rw [← h]
  · have := bits_neg (a.natAbs : Int)
    rw [← h] at this
    exact this.symm
theorem bits_mul_pow {a : Int} (h : a ≠ 0) (t : Nat) : bits (a * 2 ^ t) = bits a + t := by
  have h1 := bits_ge h
  have h2 := lt_bits a
  have h3 := bits_pos h
  have e : (a * 2 ^ t).natAbs = a.natAbs * 2 ^ t := by rw [Int.natAbs_mul, Int.natAbs_pow]; rfl
  have hp : 0 < 2 ^ t := Nat.pow_pos (by decide)
  have := bits_unique (a := a * 2 ^ t) (b := bits a + t - 1) (by
    rw [e, show bits a + t - 1 = (bits a - 1) + t from by omega, Nat.pow_add]
    exact Nat.mul_le_mul_right _ h1) (by
    rw [e, show bits a + t - 1 + 1 = bits a + t from by omega, Nat.pow_add]
    exact Nat.mul_lt_mul_of_pos_right h2 hp)
  omega
theorem bits_mono {a b : Int} (h : a.natAbs ≤ b.natAbs) : bits a ≤ bits b := bits_le (Nat.lt_of_le_of_lt h (lt_bits b))
theorem bits_add_le (a b : Int) : bits (a + b) ≤ max (bits a) (bits b) + 1 := by
  refine bits_le ?_
  have h1 := lt_bits a
  have h2 := lt_bits b
  have h3 : 2 ^ bits a ≤ 2 ^ max (bits a) (bits b) := Nat.pow_le_pow_right (by decide) (Nat.le_max_left _ _)
  have h4 : 2 ^ bits b ≤ 2 ^ max (bits a) (bits b) := Nat.pow_le_pow_right (by decide) (Nat.le_max_right _ _)
  rw [Nat.pow_succ]
  omega
theorem bits_mul_le (a b : Int) : bits (a * b) ≤ bits a + bits b := by
  refine bits_le ?_
  rw [Int.natAbs_mul, Nat.pow_add]
  exact Nat.mul_lt_mul'' (lt_bits a) (lt_bits b)

/-- a number's form, its parts within bounds -/
theorem norm_num (A k : Int) : ∃ a e, norm A k = num a e ∧ Cn a e ∧ Sm A k a e ∧ bits a ≤ bits A ∧ (a ≠ 0 → k ≤ e ∧ e + bits a = k + bits A) ∧ (a < 0 ↔ A < 0) ∧ (a = 0 ↔ A = 0) := by
  by_cases h : A = 0
  · subst h
    refine ⟨0, 0, norm_zero k, .inr ⟨rfl, rfl⟩, fun N _ _ => by simp, Nat.le_refl _, fun h => absurd rfl h, Iff.rfl, Iff.rfl⟩
  · obtain ⟨⟨a, t⟩, ha, rfl⟩ := exists_odd A h
    simp only at ha h ⊢
    have hp : (0 : Int) < 2 ^ t := Int.pow_pos (by decide)
    have ha0 : a ≠ 0 := by rintro rfl; simp at ha
    refine ⟨a, k + t, norm_odd ha t k, .inl ha, fun N h1 h2 => ?_, ?_, fun _ => ?_, ?_, ?_⟩
    · rw [show k + (t : Int) + N = (t : Int) + (k + N) from by omega, p2_add (by omega) h1, p2_nat, Int.mul_assoc]
    · rw [bits_mul_pow ha0]; omega
    · rw [bits_mul_pow ha0]; omega
    · constructor
      · intro q; exact Int.mul_neg_of_neg_of_pos q hp
      · intro q
        rcases Int.lt_or_le a 0 with c | c
        · exact c
        · have := Int.mul_nonneg c (Int.le_of_lt hp); omega
    · simp [ha0, h]
theorem Sm.norm {A k B l : Int} (h : Sm A k B l) : norm A k = norm B l := by
  have hz : ∀ {A k B l : Int}, Sm A k B l → A = 0 → B = 0 := fun {A k B l} h e => by
    have := h (k.natAbs + l.natAbs : Nat) (by omega) (by omega)
    rw [e, Int.zero_mul] at this
    rcases Int.mul_eq_zero.mp this.symm with q | q
    · exact q
    · exact absurd q (Int.ne_of_gt (p2_pos _))
  by_cases hA : A = 0
  · rw [hA, hz h hA, norm_zero, norm_zero]
  · have hB : B ≠ 0 := fun e => hA (hz h.symm e)
    obtain ⟨⟨a, t⟩, ha, rfl⟩ := exists_odd A hA
    obtain ⟨⟨b, u⟩, hb, rfl⟩ := exists_odd B hB
    simp only at ha hb h ⊢
    have := h (k.natAbs + l.natAbs : Nat) (by omega) (by omega)
    unfold p2 at this
    rw [Int.mul_assoc, Int.mul_assoc, ← Int.pow_add, ← Int.pow_add] at this
    obtain ⟨e1, e2⟩ := odd_unique ha hb this
    rw [norm_odd ha, norm_odd hb, e1]
    congr 1
    omega
theorem num_inj {a e b f : Int} (h : num a e = num b f) : a = b ∧ e = f := by
  unfold num at h
  simp only [PyData.tuple.injEq, List.cons.injEq, PyData.int.injEq, and_true] at h
  obtain ⟨h1, h2, h3, _⟩ := h
  refine ⟨?_, h3⟩
  by_cases c : a < 0 <;> by_cases d : b < 0 <;> simp [c, d] at h1 <;> omega
theorem norm_inj {A k B l : Int} (h : norm A k = norm B l) : Sm A k B l := by
  obtain ⟨a, e, h1, _, h2, _⟩ := norm_num A k
  obtain ⟨b, f, h3, _, h4, _⟩ := norm_num B l
  rw [h1, h3] at h
  obtain ⟨rfl, rfl⟩ := num_inj h
  exact h2.trans h4.symm
end Mine

namespace Mine
open PySem.Calls

theorem binP_add {a b : Int} {Q : V → Prop} : binP .Add (.int a) (.int b) Q = Q (.int (a + b)) := rfl
theorem binP_sub {a b : Int} {Q : V → Prop} : binP .Sub (.int a) (.int b) Q = Q (.int (a - b)) := rfl
theorem binP_mul {a b : Int} {Q : V → Prop} : binP .Mult (.int a) (.int b) Q = (IntMulOk a b ∧ Q (.int (a * b))) := rfl
theorem binP_fdiv {a b : Int} {Q : V → Prop} : binP .FloorDiv (.int a) (.int b) Q = (b ≠ 0 ∧ b.natAbs.log2 < 9000 ∧ Q (.int (a.fdiv b))) := rfl
theorem binP_mod {a b : Int} {Q : V → Prop} : binP .Mod (.int a) (.int b) Q = (b ≠ 0 ∧ Q (.int (a.fmod b))) := rfl
theorem binP_pow {a b : Int} {Q : V → Prop} : binP .Pow (.int a) (.int b) Q = (0 ≤ b ∧ (Builtin.Int.intBits a : Int) * b ≤ 2 ^ 27 ∧ Q (.int (a ^ b.toNat))) := rfl
theorem binP_shl {a b : Int} {Q : V → Prop} : binP .LShift (.int a) (.int b) Q = (0 ≤ b ∧ (Builtin.Int.intBits a : Int) + b ≤ 2 ^ 27 ∧ Q (.int (a * 2 ^ b.toNat))) := rfl
theorem binP_shr {a b : Int} {Q : V → Prop} : binP .RShift (.int a) (.int b) Q = (0 ≤ b ∧ Q (.int (a.fdiv (2 ^ b.toNat)))) := rfl
theorem binP_and {a b : Int} {Q : V → Prop} : binP .BitAnd (.int a) (.int b) Q = Q (.int (Builtin.bitAnd a b)) := rfl
theorem binP_xor {a b : Int} {Q : V → Prop} : binP .BitXor (.int a) (.int b) Q = Q (.int (Builtin.bitXor a b)) := rfl
theorem cmpP_eq {a b : Int} {Q : V → Prop} : cmpP .Eq (.int a) (.int b) Q = Q (.bool (a == b)) := rfl
theorem cmpP_ne {a b : Int} {Q : V → Prop} : cmpP .NotEq (.int a) (.int b) Q = Q (.bool (a != b)) := rfl
theorem cmpP_lt {a b : Int} {Q : V → Prop} : cmpP .Lt (.int a) (.int b) Q = Q (.bool (decide (a < b))) := rfl
theorem cmpP_le {a b : Int} {Q : V → Prop} : cmpP .LtE (.int a) (.int b) Q = Q (.bool (decide (a ≤ b))) := rfl
theorem cmpP_gt {a b : Int} {Q : V → Prop} : cmpP .Gt (.int a) (.int b) Q = Q (.bool (decide (b < a))) := rfl
theorem cmpP_ge {a b : Int} {Q : V → Prop} : cmpP .GtE (.int a) (.int b) Q = Q (.bool (decide (b ≤ a))) := rfl
theorem cmpP_eqs {a b : Str} {Q : V → Prop} : cmpP .Eq (.str a) (.str b) Q = Q (.bool (a == b)) := rfl
theorem cmpP_nes {a b : Str} {Q : V → Prop} : cmpP .NotEq (.str a) (.str b) Q = Q (.bool (a != b)) := rfl
theorem cmpP_ins {a b : Str} {Q : V → Prop} : cmpP .In (.str a) (.str b) Q = Q (.bool !(Builtin.Str.occurrences b a 0 b.length 1).isEmpty) := rfl
theorem cmpP_eqb {a b : Bool} {Q : V → Prop} : cmpP .Eq (.bool a) (.bool b) Q = Q (.bool (a == b)) := rfl
theorem cmpP_neb {a b : Bool} {Q : V → Prop} : cmpP .NotEq (.bool a) (.bool b) Q = Q (.bool (a != b)) := rfl
theorem cmpP_eqt {a b : List V} {Q : V → Prop} : cmpP .Eq (.tuple a) (.tuple b) Q = (SeqAt.shaped (.tuple a) = true ∧ SeqAt.shaped (.tuple b) = true ∧ Q (.bool (PyData.eqv (.tuple a) (.tuple b)))) := rfl
theorem cmpP_net {a b : List V} {Q : V → Prop} : cmpP .NotEq (.tuple a) (.tuple b) Q = (SeqAt.shaped (.tuple a) = true ∧ SeqAt.shaped (.tuple b) = true ∧ Q (.bool (!PyData.eqv (.tuple a) (.tuple b)))) := rfl
theorem cmpP_nin {k : Int} {ds : List V} {Q : V → Prop} : cmpP .NotIn (.int k) (.list ds) Q = (∃ ns : List Int, ds = ns.map PyData.int ∧ Q (.bool (!(ns.any (· == k))))) := rfl
theorem unP_neg {a : Int} {Q : V → Prop} : unP .USub (.int a) Q = Q (.int (-a)) := rfl
theorem unP_not {a : V} {Q : V → Prop} : unP .Not a Q = truthyP a fun b => Q (.bool !b) := rfl
theorem subP_tup {ds : List V} {k : Int} {Q : V → Prop} : subP (.tuple ds) (.int k) Q = (∃ d, 0 ≤ k ∧ k < 2 ^ 31 ∧ ds[k.toNat]? = some d ∧ Q d) := rfl
theorem subP_lst {ds : List V} {k : Int} {Q : V → Prop} : subP (.list ds) (.int k) Q = (∃ ns : List Int, ds = ns.map PyData.int ∧ 0 ≤ k ∧ k < ns.length ∧ k < 2 ^ 63 ∧ Q (.int (ns.getD k.toNat 0))) := rfl
theorem subTP_tup {ds : List V} {k : Int} {Q : V → Prop} : subTP (.tuple ds) (.int k) Q = (∃ d, 0 ≤ k ∧ k < 2 ^ 31 ∧ ds[k.toNat]? = some d ∧ Q d) := rfl
theorem truthyP_int {a : Int} {Q : Bool → Prop} : truthyP (.int a) Q = Q (a != 0) := rfl
theorem truthyP_bool {a : Bool} {Q : Bool → Prop} : truthyP (.bool a) Q = Q a := rfl
theorem unpackP_tup {ds : List V} {k : Nat} {Q : List V → Prop} : unpackP (.tuple ds) k Q = (k = ds.length ∧ Q ds) := rfl
theorem getP_zero {d : V} {r : VEnv} {Q : V → Prop} : getP (some d :: r) 0 Q = Q d := by simp [getP]
theorem getP_succ {x : Option V} {r : VEnv} {i : Nat} {Q : V → Prop} : getP (x :: r) (i + 1) Q = getP r i Q := by simp [getP]
theorem set_zero {x y : Option V} {r : VEnv} : List.set (x :: r) 0 y = y :: r := rfl
theorem set_succ {x y : Option V} {r : VEnv} {i : Nat} : List.set (x :: r) (i + 1) y = x :: List.set r i y := rfl
theorem ex_int {a : Int} {Q : Int → Prop} : (∃ i, PyData.int a = PyData.int i ∧ Q i) = Q a := by simp
theorem ite_dec {p : Prop} [Decidable p] {a b : Prop} : (if decide p = true then a else b) = if p then a else b := by simp
theorem ite_bne {a b : Int} {x y : Prop} : (if (a != b) = true then x else y) = if a = b then y else x := by by_cases h : a = b <;> simp [h]
theorem ite_beq {a b : Int} {x y : Prop} : (if (a == b) = true then x else y) = if a = b then x else y := by by_cases h : a = b <;> simp [h]
theorem ite_not {a : Bool} {x y : Prop} : (if (!a) = true then x else y) = if a = true then y else x := by cases a <;> simp

theorem binds1 {g : Gl} {fi : Fi} {params : Arguments} {body : List Stmt} {p1 : Str} {d1 : V}
    (h : ∀ (s : Shared) name doc pm an ct (v1 : Value), BindsTo s (fnOf name fi.qual params body fi.scope .none .none doc pm an fi.cdv ct) ⟨[v1], []⟩ [(p1, v1)]) : Binds g fi params body .none [p1] [d1] [d1] := by
  intro s xs name doc pm an ct hK hx
  cases hx with
  | cons r1 hx => cases hx; exact ⟨_, .cons r1 .nil, h _ _ _ _ _ _ _⟩
theorem binds2 {g : Gl} {fi : Fi} {params : Arguments} {body : List Stmt} {p1 p2 : Str} {d1 d2 : V}
    (h : ∀ (s : Shared) name doc pm an ct (v1 v2 : Value), BindsTo s (fnOf name fi.qual params body fi.scope .none .none doc pm an fi.cdv ct) ⟨[v1, v2], []⟩ [(p1, v1), (p2, v2)]) : Binds g fi params body .none [p1, p2] [d1, d2] [d1, d2] := by
  intro s xs name doc pm an ct hK hx
  cases hx with
  | cons r1 hx => cases hx with
    | cons r2 hx => cases hx; exact ⟨_, .cons r1 (.cons r2 .nil), h _ _ _ _ _ _ _ _⟩


theorem binds3 {g : Gl} {fi : Fi} {params : Arguments} {body : List Stmt} {p1 p2 p3 : Str} {d1 d2 d3 : V}
    (h : ∀ (s : Shared) name doc pm an ct (v1 v2 v3 : Value), BindsTo s (fnOf name fi.qual params body fi.scope .none .none doc pm an fi.cdv ct) ⟨[v1, v2, v3], []⟩ [(p1, v1), (p2, v2), (p3, v3)]) : Binds g fi params body .none [p1, p2, p3] [d1, d2, d3] [d1, d2, d3] := by
  intro s xs name doc pm an ct hK hx
  cases hx with
  | cons r1 hx => cases hx with
    | cons r2 hx => cases hx with
      | cons r3 hx => cases hx; exact ⟨_, .cons r1 (.cons r2 (.cons r3 .nil)), h _ _ _ _ _ _ _ _ _⟩
theorem binds6 {g : Gl} {fi : Fi} {params : Arguments} {body : List Stmt} {p1 p2 p3 p4 p5 p6 : Str} {d1 d2 d3 d4 d5 d6 : V}
    (h : ∀ (s : Shared) name doc pm an ct (v1 v2 v3 v4 v5 v6 : Value), BindsTo s (fnOf name fi.qual params body fi.scope .none .none doc pm an fi.cdv ct) ⟨[v1, v2, v3, v4, v5, v6], []⟩ [(p1, v1), (p2, v2), (p3, v3), (p4, v4), (p5, v5), (p6, v6)]) :
    Binds g fi params body .none [p1, p2, p3, p4, p5, p6] [d1, d2, d3, d4, d5, d6] [d1, d2, d3, d4, d5, d6] := by
  intro s xs name doc pm an ct hK hx
  cases hx with
  | cons r1 hx => cases hx with
    | cons r2 hx => cases hx with
      | cons r3 hx => cases hx with
        | cons r4 hx => cases hx with
          | cons r5 hx => cases hx with
            | cons r6 hx => cases hx; exact ⟨_, .cons r1 (.cons r2 (.cons r3 (.cons r4 (.cons r5 (.cons r6 .nil))))), h _ _ _ _ _ _ _ _ _ _ _ _⟩
theorem rows_inv1 {h : Heap} {xs : List Value} {d1 : V} (r : Rs h xs [d1]) : ∃ v1, xs = [v1] ∧ R h v1 d1 := by
  cases r with
  | cons r1 hx => cases hx; exact ⟨_, rfl, r1⟩
theorem rows_inv2 {h : Heap} {xs : List Value} {d1 d2 : V} (r : Rs h xs [d1, d2]) : ∃ v1 v2, xs = [v1, v2] ∧ R h v1 d1 ∧ R h v2 d2 := by
  cases r with
  | cons r1 hx => obtain ⟨_, e, h⟩ := rows_inv1 hx; subst e; exact ⟨_, _, rfl, r1, h⟩
theorem rows_inv3 {h : Heap} {xs : List Value} {d1 d2 d3 : V} (r : Rs h xs [d1, d2, d3]) : ∃ v1 v2 v3, xs = [v1, v2, v3] ∧ R h v1 d1 ∧ R h v2 d2 ∧ R h v3 d3 := by
  cases r with
  | cons r1 hx => obtain ⟨_, _, e, h⟩ := rows_inv2 hx; subst e; exact ⟨_, _, _, rfl, r1, h⟩
theorem rows_inv4 {h : Heap} {xs : List Value} {d1 d2 d3 d4 : V} (r : Rs h xs [d1, d2, d3, d4]) : ∃ v1 v2 v3 v4, xs = [v1, v2, v3, v4] ∧ R h v1 d1 ∧ R h v2 d2 ∧ R h v3 d3 ∧ R h v4 d4 := by
  cases r with
  | cons r1 hx => obtain ⟨_, _, _, e, h⟩ := rows_inv3 hx; subst e; exact ⟨_, _, _, _, rfl, r1, h⟩
theorem rows_inv5 {h : Heap} {xs : List Value} {d1 d2 d3 d4 d5 : V} (r : Rs h xs [d1, d2, d3, d4, d5]) : ∃ v1 v2 v3 v4 v5, xs = [v1, v2, v3, v4, v5] ∧ R h v1 d1 ∧ R h v2 d2 ∧ R h v3 d3 ∧ R h v4 d4 ∧ R h v5 d5 := by
  cases r with
  | cons r1 hx => obtain ⟨_, _, _, _, e, h⟩ := rows_inv4 hx; subst e; exact ⟨_, _, _, _, _, rfl, r1, h⟩
abbrev sf : V := .str (Str.ofString "f")
abbrev sd : V := .str (Str.ofString "d")
end Mine

namespace Mine
open PySem.Calls
local macro_rules | `(tactic| walk_at "mRun") => `(tactic| simp only [sSeq, sIf, sRet, sAsg, sAsgT, sAsgR, sAug, sNil, sAsrt, eLoc, eCst, eBin, eCmp, eUn, eAnd, eOr, eIf, eCall, eTup, eLst, eSub, eSubT, eTab, eBitLen, eInt, eIsInt, eLen, eMax, eMin, lNil, lCons, tPlain, tNot, tTrue, tFalse, tAnd, tOr,
  binP_add, binP_sub, binP_mul, binP_fdiv, binP_mod, binP_pow, binP_shl, binP_shr, binP_and, binP_xor, cmpP_eq, cmpP_ne, cmpP_lt, cmpP_le, cmpP_gt, cmpP_ge, cmpP_eqs, cmpP_nes, cmpP_ins, cmpP_eqb, cmpP_neb, cmpP_eqt, cmpP_net, cmpP_nin, unP_neg, unP_not, subP_tup, subP_lst, subTP_tup, truthyP_int, truthyP_bool, unpackP_tup, setAll, getP_zero, getP_succ, set_zero, set_succ, ex_int, ite_dec, ite_bne, ite_beq, ite_not, List.map_cons, List.map_nil, List.cons_append, List.nil_append, List.replicate_succ, List.replicate_zero, List.length_cons, List.length_nil, List.reverse_cons, List.reverse_nil, Nat.reduceAdd, Nat.reduceSub, true_and, and_true, if_true, if_false, ite_true, ite_false])

theorem rshift_ok (g : Gl) (F : Facts g) (n : Nat) (x k : Int) (hk : 0 ≤ k) : CallOK g (n + 1) 21 [.int x, .int k] (.int (fx x (-k))) := by
  refine callOK_of (ps := [Str.ofString "x", Str.ofString "n"]) F.fn_rshift (binds2 fun _ _ _ _ _ _ _ _ => BindsTo.of_eq rfl) rfl rfl (rshift_b g F n).2 ?_
  intro z hz
  have : z = 0 := hz
  subst this
  simp only [rshift_b]
  walk_at "mRun"
  rw [if_pos hk]
  refine ⟨hk, ?_⟩
  congr 1
  unfold fx
  by_cases h : k = 0
  · subst h; simp [p2]
  · rw [if_neg (by omega)]; simp [p2]
theorem lshift_ok (g : Gl) (F : Facts g) (n : Nat) (x k : Int) (hk : 0 ≤ k) (hb : (bits x : Int) + k ≤ 2 ^ 27) : CallOK g (n + 1) 28 [.int x, .int k] (.int (fx x k)) := by
  refine callOK_of (ps := [Str.ofString "x", Str.ofString "n"]) F.fn_lshift (binds2 fun _ _ _ _ _ _ _ _ => BindsTo.of_eq rfl) rfl rfl (lshift_b g F n).2 ?_
  intro z hz
  have : z = 0 := hz
  subst this
  simp only [lshift_b]
  walk_at "mRun"
  rw [if_pos hk]
  refine ⟨hk, hb, ?_⟩
  congr 1
  unfold fx
  rw [if_pos hk]
  rfl
theorem trailing_ok (g : Gl) (F : Facts g) (n : Nat) (a : Int) (t : Nat) (ha : a % 2 = 1) : CallOK g (n + 1) 35 [.int (a * 2 ^ t)] (.int t) := by
  refine callOK_of (ps := [Str.ofString "n"]) F.fn_trailing (binds1 fun _ _ _ _ _ _ _ => BindsTo.of_eq rfl) rfl rfl (trailing_b g F n).2 ?_
  intro z hz
  have : z = 0 := hz
  subst this
  simp only [trailing_b]
  walk_at "mRun"
  have hne : a * 2 ^ t ≠ 0 := fun h => by
    rcases Int.mul_eq_zero.mp h with h | h
    · omega
    · exact absurd h (Int.ne_of_gt (Int.pow_pos (by decide)))
  have e : Builtin.bitAnd (a * 2 ^ t) (-(a * 2 ^ t)) = 2 ^ t := by
    have := kbt_low t (a / 2)
    rw [show 2 * (a / 2) + 1 = a from by omega, Int.mul_comm] at this
    exact this
  rw [if_neg (by simpa using hne), e]
  have hb : bits ((2 : Int) ^ t) = t + 1 := by
    have := bits_mul_pow (a := 1) (by decide) t
    rw [Int.one_mul] at this
    rw [this]
    show 1 + t = t + 1
    omega
  congr 1
  show ((bits ((2 : Int) ^ t) : Nat) : Int) - 1 = t
  rw [hb]
  omega
theorem trailing_zero (g : Gl) (F : Facts g) (n : Nat) : CallOK g (n + 1) 35 [.int 0] (.int 0) := by
  refine callOK_of (ps := [Str.ofString "n"]) F.fn_trailing (binds1 fun _ _ _ _ _ _ _ => BindsTo.of_eq rfl) rfl rfl (trailing_b g F n).2 ?_
  intro z hz
  have : z = 0 := hz
  subst this
  simp only [trailing_b]
  walk_at "mRun"

theorem pow2_lt {a b : Nat} (h : a < b) : 2 ^ a < 2 ^ b := Nat.pow_lt_pow_right (by decide) h
/-- the floor of the root -/
def IsRt (x r : Int) : Prop := 0 ≤ r ∧ r * r ≤ x ∧ x < (r + 1) * (r + 1)
theorem isRt_exists (x : Int) (hx : 0 ≤ x) : ∃ r, IsRt x r := by
  have key : ∀ n : Nat, ∃ r, IsRt (n : Int) r := by
    intro n
    induction n with
    | zero => exact ⟨0, by decide, by decide, by decide⟩
    | succ n ih =>
      obtain ⟨r, h0, h1, h2⟩ := ih
      by_cases c : ((n : Int) + 1) < (r + 1) * (r + 1)
      · exact ⟨r, h0, by push_cast; omega, by push_cast; omega⟩
      · refine ⟨r + 1, by omega, by push_cast; omega, ?_⟩
        push_cast
        have : (r + 1 + 1) * (r + 1 + 1) = (r + 1) * (r + 1) + 2 * r + 3 := by
          rw [Int.add_mul, Int.mul_add, Int.mul_add]; omega
        omega
  have := key x.toNat
  rwa [Int.toNat_of_nonneg hx] at this
theorem IsRt.le {x r s : Int} (h : IsRt x r) (hs : 0 ≤ s) (h2 : s * s ≤ x) : s ≤ r := by
  rcases Int.lt_or_le r s with c | c
  · exfalso
    have h3 : (r + 1) * (r + 1) ≤ s * s := Int.mul_le_mul (by omega) (by omega) (by have := h.1; omega) hs
    have := h.2.2
    omega
  · exact c
theorem IsRt.lt {x r s : Int} (h : IsRt x r) (hs : 0 ≤ s) (h2 : x < s * s) : r < s := by
  rcases Int.lt_or_le r s with c | c
  · exact c
  · exfalso
    have h3 : s * s ≤ r * r := Int.mul_le_mul c c hs h.1
    have := h.2.1
    omega
theorem IsRt.unique {x r s : Int} (h : IsRt x r) (h' : IsRt x s) : r = s := by
  have := h.le h'.1 h'.2.1
  have := h'.le h.1 h.2.1
  omega

abbrev isqC : TM := tPlain (eCst (.int 1))
abbrev isqB : SM := sSeq (sAsg 2 (eBin .RShift (eBin .Add (eLoc 1) (eBin .FloorDiv (eLoc 0) (eLoc 1))) (eCst (.int 1)))) (sSeq (sIf (tPlain (eCmp .GtE (eLoc 2) (eLoc 1))) (sSeq (sRet (eLoc 1)) sNil) sNil) (sSeq (sAsg 1 (eLoc 2)) sNil))
theorem isq_loop {x s : Int} (hx : 0 < x) (hs : IsRt x s) (Q : VEnv → Prop) (Rt : V → Prop) (hR : Rt (.int s)) : ∀ (k : Nat) (r : Int) (y : Option V), s ≤ r → 0 < r → r < k → r.natAbs < 2 ^ 9000 → whlN isqC isqB Q Rt k [some (.int x), some (.int r), y] := by
  intro k
  induction k with
  | zero => intro r y h1 h2 h3; omega
  | succ k ih =>
    intro r y h1 h2 h3 h4
    have hs1 : 1 ≤ s := by
      rcases Int.lt_or_le s 1 with c | c
      · have := hs.1
        have e : s = 0 := by omega
        have := hs.2.2
        rw [e] at this
        omega
      · exact c
    unfold whlN
    walk_at "mRun"
    have hd : x.fdiv r = x / r := Int.fdiv_eq_ediv_of_nonneg _ (by omega)
    have h2' : (2 : Int) ^ (Int.toNat 1) = 2 := rfl
    have hlog : r.natAbs.log2 < 9000 := (Nat.log2_lt (by omega)).mpr h4
    simp only [hd, h2']
    rw [Int.fdiv_eq_ediv_of_nonneg _ (by decide : (0 : Int) ≤ 2)]
    have q1 : x / r * r ≤ x := (Int.le_ediv_iff_mul_le h2).mp (Int.le_refl _)
    have q2 : x < (x / r + 1) * r := (Int.ediv_lt_iff_lt_mul h2).mp (by omega)
    have hy : s ≤ (r + x / r) / 2 := by
      have : 2 * s - r ≤ x / r := by
        rcases Int.lt_or_le (x / r) (2 * s - r) with c | c
        · exfalso
          have a1 : (x / r + 1) * r ≤ (2 * s - r) * r := Int.mul_le_mul_of_nonneg_right (by omega) (by omega)
          have a2 := hs.2.1
          have a3 : 0 ≤ (s - r) * (s - r) := by
            rcases Int.le_total 0 (s - r) with c | c
            · exact Int.mul_nonneg c c
            · exact Int.mul_nonneg_of_nonpos_of_nonpos c c
          have a4 : (s - r) * (s - r) = s * s - (2 * s - r) * r := by
            rw [Int.sub_mul, Int.mul_sub, Int.mul_sub, Int.sub_mul, Int.mul_assoc, Int.mul_comm r s]; omega
          omega
        · exact c
      omega
    have hr2 : (0 : Int) < 2 ∧ True := ⟨by decide, trivial⟩
    refine ⟨by omega, hlog, by decide, ?_⟩
    by_cases c : r ≤ (r + x / r) / 2
    · rw [if_pos c]
      have hxr : r * r ≤ x := by
        have : r ≤ x / r := by omega
        have := Int.mul_le_mul_of_nonneg_right this (Int.le_of_lt h2)
        omega
      have := hs.le (Int.le_of_lt h2) hxr
      have e : r = s := by omega
      rw [e]; exact hR
    · rw [if_neg c]
      exact ih _ _ hy (by omega) (by omega) (Nat.lt_of_le_of_lt (by omega) h4)
theorem isqrt_small_ok (g : Gl) (F : Facts g) (n : Nat) (x s : Int) (hs : IsRt x s) (hb : bits x ≤ 6000) : CallOK g (n + 1) 42 [.int x] (.int s) := by
  refine callOK_of (ps := [Str.ofString "x"]) F.fn_isqrt_small (binds1 fun _ _ _ _ _ _ _ => BindsTo.of_eq rfl) rfl rfl (isqrt_small_b g F n).2 ?_
  intro z hz
  have : z = 2 := hz
  subst this
  simp only [isqrt_small_b]
  generalize hW : sWhl _ _ = W
  walk_at "mRun"
  have hx0 : 0 ≤ x := Int.le_trans (Int.mul_nonneg hs.1 hs.1) hs.2.1
  by_cases h : x = 0
  · rw [if_pos h]
    subst h
    congr 1
    have := hs.le (Int.le_refl 0) (by decide)
    have h2 := hs.lt (s := 1) (by decide) (by decide)
    omega
  · rw [if_neg h]
    have e1 : ((bits x : Int) + 1).fdiv (2 ^ Int.toNat 1) = ((bits x + 1) / 2 : Nat) := by
      rw [Int.fdiv_eq_ediv_of_nonneg _ (by decide)]
      show ((bits x : Int) + 1) / 2 = _
      omega
    have e1' : ((Builtin.Int.intBits x : Int) + 1).fdiv (2 ^ Int.toNat 1) = ((bits x + 1) / 2 : Nat) := e1
    rw [e1']
    refine ⟨by decide, by omega, ?_, ?_⟩
    · show ((1 : Nat) : Int) + _ ≤ _
      omega
    · rw [← hW, Int.one_mul, Int.toNat_natCast]
      have hlt := lt_bits x
      have hp : (0 : Int) < 2 ^ ((bits x + 1) / 2) := Int.pow_pos (by decide)
      have hlt' : x < (2 ^ ((bits x + 1) / 2) : Int) * 2 ^ ((bits x + 1) / 2) := by
        rw [← Int.pow_add]
        have h1 : x < (2 : Int) ^ bits x := by
          have : ((2 ^ bits x : Nat) : Int) = (2 : Int) ^ bits x := by push_cast; rfl
          omega
        have h2 : (2 : Int) ^ bits x ≤ 2 ^ ((bits x + 1) / 2 + (bits x + 1) / 2) := by
          have := Nat.pow_le_pow_right (n := 2) (by decide) (show bits x ≤ (bits x + 1) / 2 + (bits x + 1) / 2 by omega)
          have e : ∀ k : Nat, ((2 ^ k : Nat) : Int) = (2 : Int) ^ k := fun k => by push_cast; rfl
          rw [← e, ← e]
          exact Int.ofNat_le.mpr this
        omega
      have hk : (2 : Int) ^ ((bits x + 1) / 2) < ((((2 : Int) ^ ((bits x + 1) / 2)).toNat + 1 : Nat) : Int) := by
        have := Int.toNat_of_nonneg (Int.le_of_lt hp)
        omega
      have h9 : ((2 : Int) ^ ((bits x + 1) / 2)).natAbs < 2 ^ 9000 := by
        have e2 : Int.natAbs 2 = 2 := rfl
        rw [Int.natAbs_pow, e2]
        exact pow2_lt (by omega)
      have h0 : 0 < x := by omega
      have key := isq_loop h0 hs (fun _ => False) (fun r => r = PyData.int s) rfl _ _ none (Int.le_of_lt (hs.lt (Int.le_of_lt hp) hlt')) hp hk h9
      exact ⟨_, key⟩
theorem sqrtrem_ok (g : Gl) (F : Facts g) (n : Nat) (x s : Int) (hs : IsRt x s) (hb : bits x ≤ 6000) : CallOK g (n + 2) 49 [.int x] (.tuple [.int s, .int (x - s * s)]) := by
  refine callOK_of (ps := [Str.ofString "x"]) F.fn_sqrtrem (binds1 fun _ _ _ _ _ _ _ => BindsTo.of_eq rfl) rfl rfl (sqrtrem_b g F (n + 1)).2 ?_
  intro z hz
  have : z = 2 := hz
  subst this
  simp only [sqrtrem_b]
  walk_at "mRun"
  refine ⟨_, isqrt_small_ok g F n x s hs hb, ?_⟩
  walk_at "mRun"
  have hbs : bits s ≤ 2 ^ 20 := by
    have h1 : s ≤ x := by
      rcases Int.lt_or_le s 1 with c | c
      · have := hs.2.1; have := hs.1; have e : s = 0 := by omega
        subst e; omega
      · have := Int.mul_le_mul_of_nonneg_right c hs.1
        have := hs.2.1
        omega
    have := bits_mono (a := s) (b := x) (by have := hs.1; omega)
    omega
  exact ⟨IntMulOk.of_bits hbs hbs, by decide⟩
theorem isqrt_ok (g : Gl) (F : Facts g) (n : Nat) (x s : Int) (hs : IsRt x s) (hb : bits x ≤ 6000) : CallOK g (n + 3) 56 [.int x] (.int s) := by
  refine callOK_of (ps := [Str.ofString "x"]) F.fn_isqrt (binds1 fun _ _ _ _ _ _ _ => BindsTo.of_eq rfl) rfl rfl (isqrt_b g F (n + 2)).2 ?_
  intro z hz
  have : z = 1 := hz
  subst this
  simp only [isqrt_b]
  walk_at "mRun"
  refine ⟨_, sqrtrem_ok g F n x s hs hb, ?_⟩
  walk_at "mRun"
  exact ⟨_, by decide, by decide, rfl, rfl⟩
theorem sqrt_fixed_ok (g : Gl) (F : Facts g) (n : Nat) (x p s : Int) (hp : 0 ≤ p) (hs : IsRt (x * p2 p) s) (hb : (bits x : Int) + p ≤ 6000) : CallOK g (n + 4) 63 [.int x, .int p] (.int s) := by
  refine callOK_of (ps := [Str.ofString "x", Str.ofString "prec"]) F.fn_sqrt_fixed (binds2 fun _ _ _ _ _ _ _ _ => BindsTo.of_eq rfl) rfl rfl (sqrt_fixed_b g F (n + 3)).2 ?_
  intro z hz
  have : z = 1 := hz
  subst this
  simp only [sqrt_fixed_b]
  walk_at "mRun"
  refine ⟨hp, by show (bits x : Int) + p ≤ _; omega, _, isqrt_ok g F n (x * 2 ^ p.toNat) s hs ?_, rfl⟩
  by_cases h : x = 0
  · subst h; rw [Int.zero_mul]; decide
  · rw [bits_mul_pow h]; omega
theorem round_int_ok (g : Gl) (F : Facts g) (n : Nat) (x k : Int) (hk : 0 ≤ k) : CallOK g (n + 1) 89 [.int x, .int k, sf] (.int (fx x (-k))) := by
  refine callOK_of (ps := [Str.ofString "x", Str.ofString "n", Str.ofString "rnd"]) F.fn_round_int (binds3 fun _ _ _ _ _ _ _ _ _ => BindsTo.of_eq rfl) rfl rfl (round_int_b g F n).2 ?_
  intro z hz
  have : z = 8 := hz
  subst this
  simp only [round_int_b]
  walk_at "mRun"
  have e1 : (Str.ofString "f" == Str.ofString "n") = false := by decide
  have e2 : (Str.ofString "f" == Str.ofString "f") = true := by decide
  simp only [e1, e2, if_true, Bool.false_eq_true, if_false]
  refine ⟨hk, ?_⟩
  congr 1
  unfold fx
  by_cases h : k = 0
  · subst h; simp [p2]
  · rw [if_neg (by omega)]; simp [p2]
end Mine

namespace Mine
open PySem.Calls
local macro_rules | `(tactic| walk_at "mRun") => `(tactic| simp only [sSeq, sIf, sRet, sAsg, sAsgT, sAsgR, sAug, sNil, sAsrt, eLoc, eCst, eBin, eCmp, eUn, eAnd, eOr, eIf, eCall, eTup, eLst, eSub, eSubT, eTab, eBitLen, eInt, eIsInt, eLen, eMax, eMin, lNil, lCons, tPlain, tNot, tTrue, tFalse, tAnd, tOr,
  binP_add, binP_sub, binP_mul, binP_fdiv, binP_mod, binP_pow, binP_shl, binP_shr, binP_and, binP_xor, cmpP_eq, cmpP_ne, cmpP_lt, cmpP_le, cmpP_gt, cmpP_ge, cmpP_eqs, cmpP_nes, cmpP_ins, cmpP_eqb, cmpP_neb, cmpP_eqt, cmpP_net, cmpP_nin, unP_neg, unP_not, subP_tup, subP_lst, subTP_tup, truthyP_int, truthyP_bool, unpackP_tup, setAll, getP_zero, getP_succ, set_zero, set_succ, ex_int, ite_dec, ite_bne, ite_beq, ite_not, List.map_cons, List.map_nil, List.cons_append, List.nil_append, List.replicate_succ, List.replicate_zero, List.length_cons, List.length_nil, List.reverse_cons, List.reverse_nil, Nat.reduceAdd, Nat.reduceSub, true_and, and_true, if_true, if_false, ite_true, ite_false])

abbrev stripM (g : Gl) (n : Nat) : SM := sSeq
            (sIf (tNot (tPlain (eBin Operator.BitAnd (eLoc 1) (eCst (PyData.int 1)))))
              (sSeq (sAsg 7 (eCall (CallOK g n 35) (lCons (eLoc 1) lNil)))
                (sSeq (sAug 1 Operator.RShift (eLoc 7))
                  (sSeq (sAug 2 Operator.Add (eLoc 7)) (sSeq (sAug 3 Operator.Sub (eLoc 7)) sNil))))
              sNil)
            (sSeq
              (sIf (tPlain (eCmp CmpOp.Eq (eLoc 1) (eCst (PyData.int 1)))) (sSeq (sAsg 3 (eCst (PyData.int 1))) sNil)
                sNil)
              (sSeq (sRet (eTup (lCons (eLoc 0) (lCons (eLoc 1) (lCons (eLoc 2) (lCons (eLoc 3) lNil)))))) sNil))
theorem bitAnd_one (x : Int) : Builtin.bitAnd x 1 = x % 2 := by
  have := kbt_mask x 1
  simpa using this
theorem pow_mod_two {a : Int} {t : Nat} (ht : t ≠ 0) : a * 2 ^ t % 2 = 0 := by
  obtain ⟨u, rfl⟩ : ∃ u, t = u + 1 := ⟨t - 1, by omega⟩
  rw [Int.pow_succ, ← Int.mul_assoc]
  omega
theorem pow_ediv (a : Int) (t : Nat) : (a * 2 ^ t).fdiv (2 ^ t) = a := by
  have hp : (0 : Int) < 2 ^ t := Int.pow_pos (by decide)
  rw [Int.fdiv_eq_ediv_of_nonneg _ (Int.le_of_lt hp), Int.mul_ediv_cancel _ (Int.ne_of_gt hp)]
theorem strip_run (g : Gl) (F : Facts g) (n : Nat) {a : Int} (ha : a % 2 = 1) (t : Nat) (sg e bc : Int) (hbc : bc = bits a + t ∨ (a = 1 ∧ t ≠ 0)) (p5 p6 p7 p8 : Option V) (r : VEnv) (Q : VEnv → Prop) (Rt : V → Prop)
    (hR : Rt (.tuple [.int sg, .int a, .int (e + t), .int (bits a)])) : stripM g (n + 1) (some (.int sg) :: some (.int (a * 2 ^ t)) :: some (.int e) :: some (.int bc) :: p5 :: p6 :: p7 :: p8 :: r) Q Rt := by
  unfold stripM
  walk_at "mRun"
  rw [bitAnd_one]
  by_cases ht : t = 0
  · subst ht
    simp only [Int.pow_zero, Int.mul_one]
    rw [if_neg (by omega)]
    have hbc' : bc = bits a := by
      rcases hbc with h | h
      · simpa using h
      · exact absurd rfl h.2
    subst hbc'
    have e0 : e + ((0 : Nat) : Int) = e := by simp
    rw [e0] at hR
    by_cases h1 : a = 1
    · rw [if_pos h1]; subst h1; exact ⟨by decide, hR⟩
    · rw [if_neg h1]; exact ⟨by decide, hR⟩
  · rw [if_pos (pow_mod_two ht)]
    refine ⟨_, trailing_ok g F n a t ha, ?_⟩
    walk_at "mRun"
    rw [Int.toNat_natCast, pow_ediv]
    refine ⟨by omega, ?_⟩
    rcases hbc with h | h
    · have e1 : bc - (t : Int) = bits a := by omega
      rw [e1]
      by_cases h1 : a = 1
      · rw [if_pos h1]; subst h1; exact ⟨by decide, hR⟩
      · rw [if_neg h1]; exact ⟨by decide, hR⟩
    · rw [if_pos h.1]
      have := h.1
      subst this
      exact ⟨by decide, hR⟩

abbrev sgn (A : Int) : Int := if A < 0 then 1 else 0
theorem norm_tuple {A k : Int} {b : Int} {t : Nat} (hb : b % 2 = 1) (hA : (A.natAbs : Int) = b * 2 ^ t) (h0 : A ≠ 0) (hb0 : 0 < b) : norm A k = .tuple [.int (sgn A), .int b, .int (k + t), .int (bits b)] := by
  have hp : (0 : Int) < 2 ^ t := Int.pow_pos (by decide)
  by_cases h : A < 0
  · have e : A = (-b) * 2 ^ t := by rw [Int.neg_mul]; omega
    have hm : (-b) % 2 = 1 := by omega
    rw [show sgn A = 1 from if_pos h]
    conv => lhs; rw [e, norm_odd hm]
    unfold num
    rw [if_pos (by omega), bits_neg, Int.natAbs_neg]
    have : ((b.natAbs : Nat) : Int) = b := by omega
    rw [this]
  · have e : A = b * 2 ^ t := by omega
    rw [show sgn A = 0 from if_neg h]
    conv => lhs; rw [e, norm_odd hb]
    unfold num
    rw [if_neg (by omega)]
    have : ((b.natAbs : Nat) : Int) = b := by omega
    rw [this]
theorem abs_odd {A : Int} (h : A ≠ 0) : ∃ (b : Int) (t : Nat), b % 2 = 1 ∧ (A.natAbs : Int) = b * 2 ^ t ∧ 0 < b := by
  obtain ⟨⟨b, t⟩, hb, he⟩ := exists_odd (A.natAbs : Int) (by omega)
  refine ⟨b, t, hb, he, ?_⟩
  simp only at he
  rcases Int.lt_or_le 0 b with c | c
  · exact c
  · have hp : (0 : Int) < 2 ^ t := Int.pow_pos (by decide)
    have := Int.mul_nonneg_of_nonpos_of_nonpos c (Int.le_of_lt (Int.neg_neg_of_pos hp))
    rw [Int.mul_neg] at this
    omega

theorem normalize0_exact (g : Gl) (F : Facts g) (n : Nat) {A : Int} (hA : A ≠ 0) (e prec : Int) (hp : (bits A : Int) ≤ prec) (rnd : Str) :
    CallOK g (n + 2) 101 [.int (sgn A), .int A.natAbs, .int e, .int (bits A), .int prec, .str rnd] (norm A e) := by
  refine callOK_of (ps := [Str.ofString "sign", Str.ofString "man", Str.ofString "exp", Str.ofString "bc", Str.ofString "prec", Str.ofString "rnd"]) F.fn_normalize0 (binds6 fun _ _ _ _ _ _ _ _ _ _ _ _ => BindsTo.of_eq rfl) rfl rfl (normalize0_b g F (n + 1)).2 ?_
  intro z hz
  have : z = 7 := hz
  subst this
  simp only [normalize0_b]
  generalize hW : sSeq (sIf (tNot (tPlain (eBin Operator.BitAnd (eLoc 1) (eCst (PyData.int 1))))) _ _) _ = W
  walk_at "mRun"
  rw [if_neg (by omega), if_neg (by omega), ← hW]
  obtain ⟨b, t, hb, he, hb0⟩ := abs_odd hA
  rw [he]
  refine strip_run g F n hb t _ e _ (.inl ?_) _ _ _ _ _ _ _ ?_
  · have h1 : bits A = bits (b * 2 ^ t) := by rw [← he, bits_abs]
    rw [h1, bits_mul_pow (by omega)]
    omega
  · exact (norm_tuple hb he hA hb0).symm
theorem normalize0_zero (g : Gl) (F : Facts g) (n : Nat) (sg e bc prec : Int) (rnd : Str) : CallOK g (n + 2) 101 [.int sg, .int 0, .int e, .int bc, .int prec, .str rnd] (num 0 0) := by
  refine callOK_of (ps := [Str.ofString "sign", Str.ofString "man", Str.ofString "exp", Str.ofString "bc", Str.ofString "prec", Str.ofString "rnd"]) F.fn_normalize0 (binds6 fun _ _ _ _ _ _ _ _ _ _ _ _ => BindsTo.of_eq rfl) rfl rfl (normalize0_b g F (n + 1)).2 ?_
  intro z hz
  have : z = 7 := hz
  subst this
  simp only [normalize0_b]
  walk_at "mRun"
  rfl

/-- the bits left by a floor to prec bits -/
theorem round_bits {A prec : Int} (hA : A ≠ 0) (h1 : 1 ≤ prec) (h2 : prec < bits A) :
    let q := fx A (-((bits A : Int) - prec)); (0 < A → 0 < q) ∧ (A < 0 → q < 0) ∧ ((bits q : Int) = prec ∨ (q.natAbs : Int) = 2 ^ prec.toNat) := by
  intro q
  have hd : 0 ≤ (bits A : Int) - prec := by omega
  have hlo := fx_lo (A := A) (k := -((bits A : Int) - prec)) (N := (bits A : Int) - prec) hd (by omega)
  have hhi := fx_hi (A := A) (k := -((bits A : Int) - prec)) (N := (bits A : Int) - prec) hd (by omega)
  rw [show -((bits A : Int) - prec) + ((bits A : Int) - prec) = 0 from by omega, p2_zero, Int.mul_one] at hlo hhi
  have hq : fx A (-((bits A : Int) - prec)) = q := rfl
  rw [hq] at hlo hhi
  have hD := p2_pos ((bits A : Int) - prec)
  have hg := bits_ge hA
  have hl := lt_bits A
  have hP : ((2 ^ (bits A - 1) : Nat) : Int) = 2 ^ (prec.toNat - 1) * p2 ((bits A : Int) - prec) := by
    unfold p2
    rw [← Int.pow_add, show prec.toNat - 1 + ((bits A : Int) - prec).toNat = bits A - 1 from by omega]
    push_cast; rfl
  have hP2 : ((2 ^ bits A : Nat) : Int) = 2 ^ prec.toNat * p2 ((bits A : Int) - prec) := by
    unfold p2
    rw [← Int.pow_add, show prec.toNat + ((bits A : Int) - prec).toNat = bits A from by omega]
    push_cast; rfl
  have hPP : (2 : Int) ^ prec.toNat = 2 * 2 ^ (prec.toNat - 1) := by
    obtain ⟨u, hu⟩ : ∃ u, prec.toNat = u + 1 := ⟨prec.toNat - 1, by omega⟩
    rw [hu, Nat.add_sub_cancel, Int.pow_succ, Int.mul_comm]
  have hPpos : (0 : Int) < 2 ^ (prec.toNat - 1) := Int.pow_pos (by decide)
  generalize hDD : p2 ((bits A : Int) - prec) = D at *
  generalize hQQ : (2 : Int) ^ (prec.toNat - 1) = P at *
  have cst : ∀ k : Nat, ((2 ^ k : Nat) : Int) = (2 : Int) ^ k := fun k => by push_cast; rfl
  have fin : ∀ c : Int, P ≤ c → c < 2 * P → (bits c : Int) = prec := by
    intro c hc1 hc2
    have := bits_unique (a := c) (b := prec.toNat - 1) (by
      have := cst (prec.toNat - 1)
      omega) (by
      have := cst (prec.toNat - 1 + 1)
      rw [show prec.toNat - 1 + 1 = prec.toNat from by omega] at this ⊢
      omega)
    omega
  rcases Int.lt_or_le 0 A with c | c
  · have a1 : P * D < (q + 1) * D := by omega
    have a2 := Int.lt_of_mul_lt_mul_right a1 (Int.le_of_lt hD)
    have a3 : q * D < 2 * P * D := by rw [hPP] at hP2; omega
    have a4 := Int.lt_of_mul_lt_mul_right a3 (Int.le_of_lt hD)
    exact ⟨fun _ => by omega, fun h => by omega, .inl (fin q (by omega) a4)⟩
  · have a0 : (-q) * D = -(q * D) := Int.neg_mul _ _
    have b0 : (-q - 1) * D = -((q + 1) * D) := by rw [← Int.neg_mul]; congr 1; omega
    have a1 : P * D ≤ (-q) * D := by omega
    have a2 := Int.le_of_mul_le_mul_right a1 hD
    have a3 : (-q - 1) * D < 2 * P * D := by rw [hPP] at hP2; omega
    have a4 := Int.lt_of_mul_lt_mul_right a3 (Int.le_of_lt hD)
    refine ⟨fun h => by omega, fun _ => by omega, ?_⟩
    by_cases e : -q = 2 * P
    · right; rw [hPP]; omega
    · left
      have := fin (-q) a2 (by omega)
      rwa [bits_neg] at this
theorem fx_neg_eq {A d : Int} (hd : 0 ≤ d) : fx A (-d) = A.fdiv (2 ^ d.toNat) := by
  unfold fx
  by_cases h : d = 0
  · subst h; simp [p2]
  · rw [if_neg (by omega), Int.neg_neg]; rfl
theorem normalize0_floor (g : Gl) (F : Facts g) (n : Nat) {A : Int} (hA : A ≠ 0) (e prec : Int) (h1 : 1 ≤ prec) (h2 : prec < bits A) (rnd : Str) (hr : rnd = Str.ofString "f" ∨ (rnd = Str.ofString "d" ∧ 0 < A)) :
    CallOK g (n + 2) 101 [.int (sgn A), .int A.natAbs, .int e, .int (bits A), .int prec, .str rnd] (norm (fx A (-((bits A : Int) - prec))) (e + ((bits A : Int) - prec))) := by
  refine callOK_of (ps := [Str.ofString "sign", Str.ofString "man", Str.ofString "exp", Str.ofString "bc", Str.ofString "prec", Str.ofString "rnd"]) F.fn_normalize0 (binds6 fun _ _ _ _ _ _ _ _ _ _ _ _ => BindsTo.of_eq rfl) rfl rfl (normalize0_b g F (n + 1)).2 ?_
  intro z hz
  have : z = 7 := hz
  subst this
  simp only [normalize0_b]
  generalize hW : sSeq (sIf (tNot (tPlain (eBin Operator.BitAnd (eLoc 1) (eCst (PyData.int 1))))) _ _) _ = W
  walk_at "mRun"
  rw [if_neg (by omega), if_pos (by omega)]
  have hne : (rnd == Str.ofString "n") = false := by
    rcases hr with rfl | ⟨rfl, _⟩ <;> decide
  rw [hne]
  simp only [Bool.false_eq_true, if_false]
  obtain ⟨r1, r2, r3⟩ := round_bits hA h1 h2
  have hfx := fx_neg_eq (A := A) (d := (bits A : Int) - prec) (by omega)
  generalize hq : fx A (-((bits A : Int) - prec)) = q at *
  have hq0 : q ≠ 0 := by
    rcases Int.lt_or_le 0 A with c | c
    · have := r1 c; omega
    · have := r2 (by omega); omega
  have hsq : sgn q = sgn A := by
    unfold sgn
    rcases Int.lt_or_le 0 A with c | c
    · have := r1 c; rw [if_neg (by omega), if_neg (by omega)]
    · have := r2 (by omega); rw [if_pos (by omega), if_pos (by omega)]
  obtain ⟨b, t, hb, he, hb0⟩ := abs_odd hq0
  have fin : W (some (.int (sgn A)) :: some (.int (q.natAbs : Int)) :: some (.int (e + ((bits A : Int) - prec))) :: some (.int prec) :: some (.int prec) :: some (.str rnd) :: some (.int ((bits A : Int) - prec)) :: List.replicate 6 none) (fun _ => False) (fun r => r = norm q (e + ((bits A : Int) - prec))) := by
    rw [← hW, he]
    refine strip_run g F n hb t _ _ _ ?_ _ _ _ _ _ _ _ ?_
    · rcases r3 with h | h
      · left
        have h1 : bits q = bits (b * 2 ^ t) := by rw [← he, bits_abs]
        rw [← h, h1, bits_mul_pow (by omega)]
        omega
      · right
        rw [he] at h
        have h' : b * 2 ^ t = 1 * 2 ^ prec.toNat := by rw [Int.one_mul]; exact h
        obtain ⟨e1, e2⟩ := odd_unique hb (by decide) h'
        exact ⟨e1, by omega⟩
    · have := norm_tuple (k := e + ((bits A : Int) - prec)) hb he hq0 hb0
      rw [this, hsq]
  have hsh : 0 ≤ (bits A : Int) - prec := by omega
  rcases Int.lt_or_le 0 A with c | c
  · have hsg : sgn A = 0 := if_neg (by omega)
    have habs : (A.natAbs : Int) = A := by omega
    have hqa : (q.natAbs : Int) = q := by have := r1 c; omega
    have row : ∃ d1, TabRow g 90 rnd (.tuple [.int 1, .int d1]) := by
      rcases hr with rfl | ⟨rfl, _⟩
      · exact ⟨_, F.row_f⟩
      · exact ⟨_, F.row_d⟩
    obtain ⟨d1, row⟩ := row
    refine ⟨rnd, _, rfl, row, ?_⟩
    rw [hsg] at fin ⊢
    walk_at "mRun"
    refine ⟨.int 1, by decide, by decide, rfl, ?_⟩
    walk_at "mRun"
    rw [habs, show (Builtin.Int.intBits A : Int) - prec = (bits A : Int) - prec from rfl, ← hfx]
    simp only [Int.reduceEq, if_false]
    refine ⟨hsh, ?_⟩
    rw [hqa] at fin
    exact fin
  · have hsg : sgn A = 1 := if_pos (by omega)
    have habs : -(A.natAbs : Int) = A := by omega
    have hqa : (q.natAbs : Int) = -q := by have := r2 (by omega); omega
    have hrf : rnd = Str.ofString "f" := by
      rcases hr with h | ⟨_, h⟩
      · exact h
      · omega
    refine ⟨rnd, _, rfl, hrf ▸ F.row_f, ?_⟩
    rw [hsg] at fin ⊢
    walk_at "mRun"
    refine ⟨.int 0, by decide, by decide, rfl, ?_⟩
    walk_at "mRun"
    rw [habs, show (Builtin.Int.intBits A : Int) - prec = (bits A : Int) - prec from rfl, ← hfx]
    refine ⟨hsh, ?_⟩
    rw [hqa] at fin
    exact fin
end Mine

namespace Mine
open PySem.Calls
local macro_rules | `(tactic| walk_at "mRun") => `(tactic| simp only [sSeq, sIf, sRet, sAsg, sAsgT, sAsgR, sAug, sNil, sAsrt, eLoc, eCst, eBin, eCmp, eUn, eAnd, eOr, eIf, eCall, eTup, eLst, eSub, eSubT, eTab, eBitLen, eInt, eIsInt, eLen, eMax, eMin, lNil, lCons, tPlain, tNot, tTrue, tFalse, tAnd, tOr,
  binP_add, binP_sub, binP_mul, binP_fdiv, binP_mod, binP_pow, binP_shl, binP_shr, binP_and, binP_xor, cmpP_eq, cmpP_ne, cmpP_lt, cmpP_le, cmpP_gt, cmpP_ge, cmpP_eqs, cmpP_nes, cmpP_ins, cmpP_eqb, cmpP_neb, cmpP_eqt, cmpP_net, cmpP_nin, unP_neg, unP_not, subP_tup, subP_lst, subTP_tup, truthyP_int, truthyP_bool, unpackP_tup, setAll, getP_zero, getP_succ, set_zero, set_succ, ex_int, ite_dec, ite_bne, ite_beq, ite_not, List.map_cons, List.map_nil, List.cons_append, List.nil_append, List.replicate_succ, List.replicate_zero, List.length_cons, List.length_nil, List.reverse_cons, List.reverse_nil, Nat.reduceAdd, Nat.reduceSub, true_and, and_true, if_true, if_false, ite_true, ite_false])

theorem normalize_of (g : Gl) (F : Facts g) (n : Nat) {m : Int} (hm : 0 ≤ m) (sg e prec : Int) (rnd : Str) {d : V} (h : CallOK g (n + 2) 101 [.int sg, .int m, .int e, .int (bits m), .int prec, .str rnd] d) :
    CallOK g (n + 3) 108 [.int sg, .int m, .int e, .int (bits m), .int prec, .str rnd] d := by
  refine callOK_of (ps := [Str.ofString "sign", Str.ofString "man", Str.ofString "exp", Str.ofString "bc", Str.ofString "prec", Str.ofString "rnd"]) F.fn_normalize (binds6 fun _ _ _ _ _ _ _ _ _ _ _ _ => BindsTo.of_eq rfl) rfl rfl (normalize_b g F (n + 2)).2 ?_
  intro z hz
  have : z = 1 := hz
  subst this
  simp only [normalize_b]
  walk_at "mRun"
  exact ⟨by simp, by simpa using hm, _, h, rfl⟩
theorem normalize_exact (g : Gl) (F : Facts g) (n : Nat) {A : Int} (hA : A ≠ 0) (e prec : Int) (hp : (bits A : Int) ≤ prec) (rnd : Str) :
    CallOK g (n + 3) 108 [.int (sgn A), .int A.natAbs, .int e, .int (bits A), .int prec, .str rnd] (norm A e) := by
  have := normalize0_exact g F n hA e prec hp rnd
  have e1 : (bits A : Int) = bits (A.natAbs : Int) := by rw [bits_abs]
  rw [e1] at this ⊢
  exact normalize_of g F n (by omega) _ _ _ _ this
theorem normalize_floor (g : Gl) (F : Facts g) (n : Nat) {A : Int} (hA : A ≠ 0) (e prec : Int) (h1 : 1 ≤ prec) (h2 : prec < bits A) (rnd : Str) (hr : rnd = Str.ofString "f" ∨ (rnd = Str.ofString "d" ∧ 0 < A)) :
    CallOK g (n + 3) 108 [.int (sgn A), .int A.natAbs, .int e, .int (bits A), .int prec, .str rnd] (norm (fx A (-((bits A : Int) - prec))) (e + ((bits A : Int) - prec))) := by
  have := normalize0_floor g F n hA e prec h1 h2 rnd hr
  have e1 : bits A = bits (A.natAbs : Int) := by rw [bits_abs]
  have := normalize_of g F n (m := (A.natAbs : Int)) (by omega) (sgn A) e prec rnd (d := norm (fx A (-((bits A : Int) - prec))) (e + ((bits A : Int) - prec))) (by rw [← e1]; exact this)
  rw [← e1] at this
  exact this
theorem normalize_zero (g : Gl) (F : Facts g) (n : Nat) (sg e prec : Int) (rnd : Str) : CallOK g (n + 3) 108 [.int sg, .int 0, .int e, .int 0, .int prec, .str rnd] (num 0 0) :=
  normalize_of g F n (by decide) sg e prec rnd (normalize0_zero g F n sg e 0 prec rnd)

theorem bitAnd_two (x : Int) : Builtin.bitAnd x 2 = x / 2 % 2 * 2 := by
  have := kbt_bit x 1
  simpa using this
/-- the part of from_man_exp behind the sign -/
theorem fme_fin {A k : Int} {b : Int} {t : Nat} (hb : b % 2 = 1) (he : (A.natAbs : Int) = b * 2 ^ t) (hA : A ≠ 0) (hb0 : 0 < b) : norm A k = .tuple [.int (sgn A), .int b, .int (k + t), .int ((bits A : Int) - t)] := by
  rw [norm_tuple hb he hA hb0]
  have h1 : bits A = bits (b * 2 ^ t) := by rw [← he, bits_abs]
  have h2 : ((bits A : Nat) : Int) - t = bits b := by rw [h1, bits_mul_pow (by omega)]; omega
  rw [h2]
theorem from_man_exp_run (g : Gl) (F : Facts g) (n : Nat) (A k : Int) : (from_man_exp_b g F (n + 3)).1 ([PyData.int A, .int k, .int 0, sd].map some ++ List.replicate 9 none) (fun _ => False) (fun r => r = norm A k) := by
  simp only [from_man_exp_b]
  walk_at "mRun"
  -- behind the sign: m = |A|
  have rest : ∀ (sg m : Int), sg = sgn A → m = (A.natAbs : Int) →
      (if m = 0 then PyData.tuple [.int 0, .int 0, .int 0, .int 0] = norm A k else
        if Builtin.bitAnd m 1 = 0 then
          if Builtin.bitAnd m 2 = 0 then
            ∃ d, CallOK g (n + 3) 35 [.int m] d ∧ binP .RShift (.int m) d fun m' => binP .Add (.int k) d fun k' => binP .Sub (.int (bits m : Nat)) d fun b' => 4 ≤ 16 ∧ PyData.tuple [.int sg, m', k', b'] = norm A k
          else (0 ≤ (1 : Int) ∧ 4 ≤ 16 ∧ PyData.tuple [.int sg, .int (m.fdiv (2 ^ Int.toNat 1)), .int (k + 1), .int ((bits m : Nat) - 1)] = norm A k)
        else 4 ≤ 16 ∧ PyData.tuple [.int sg, .int m, .int k, .int (bits m : Nat)] = norm A k) := by
    intro sg m hsg hm
    by_cases h0 : m = 0
    · rw [if_pos h0]
      have : A = 0 := by omega
      rw [this, norm_zero]; rfl
    · rw [if_neg h0]
      have hA : A ≠ 0 := by omega
      obtain ⟨b, t, hb, he, hb0⟩ := abs_odd hA
      have hbm : bits m = bits A := by rw [hm, bits_abs]
      have hf := fme_fin (k := k) hb he hA hb0
      rw [bitAnd_one, bitAnd_two, hbm, hsg]
      rw [← hm] at he
      by_cases ht : t = 0
      · subst ht
        rw [Int.pow_zero, Int.mul_one] at he
        rw [if_neg (by omega), hf, he]
        exact ⟨by decide, by simp⟩
      · rw [if_pos (by rw [he]; exact pow_mod_two ht)]
        by_cases h2 : m / 2 % 2 * 2 = 0
        · rw [if_pos h2]
          refine ⟨_, by rw [he]; exact trailing_ok g F (n + 2) b t hb, ?_⟩
          walk_at "mRun"
          refine ⟨by omega, by decide, ?_⟩
          rw [hf, he, Int.toNat_natCast, pow_ediv]
        · rw [if_neg h2]
          have ht1 : t = 1 := by
            rcases Nat.lt_or_ge t 2 with c | c
            · omega
            · exfalso
              obtain ⟨u, rfl⟩ : ∃ u, t = u + 2 := ⟨t - 2, by omega⟩
              rw [Int.pow_succ, Int.pow_succ, ← Int.mul_assoc, ← Int.mul_assoc] at he
              omega
          subst ht1
          refine ⟨by decide, by decide, ?_⟩
          rw [hf, he, Int.toNat_one, pow_ediv]
          rfl
  by_cases hA : A < 0
  · rw [if_pos hA]
    have := rest 1 (-A) (by unfold sgn; rw [if_pos hA]) (by omega)
    exact this
  · rw [if_neg hA]
    have := rest 0 A (by unfold sgn; rw [if_neg hA]) (by omega)
    exact this

theorem from_man_exp_binds (g : Gl) (F : Facts g) {d1 d2 : V} : Binds g fi_from_man_exp (dfn 28).1 (dfn 28).2.1 (.ref 109) [Str.ofString "man", Str.ofString "exp", Str.ofString "prec", Str.ofString "rnd"] [d1, d2] [d1, d2, .int 0, sd] := by
  intro s xs name doc pm an ct hK hx
  obtain ⟨v1, v2, rfl, r1, r2⟩ := rows_inv2 hx
  obtain ⟨t, u, v, n, o, h1, h2⟩ := F.d_109
  exact ⟨[v1, v2, .int 0 t, .str _ u], .cons r1 (.cons r2 (.cons (.int _ _) (.cons (.str _ _) .nil))), binds_K hK rfl h1 h2 rfl rfl⟩
theorem from_man_exp_binds4 (g : Gl) (F : Facts g) {d1 d2 d3 d4 : V} : Binds g fi_from_man_exp (dfn 28).1 (dfn 28).2.1 (.ref 109) [Str.ofString "man", Str.ofString "exp", Str.ofString "prec", Str.ofString "rnd"] [d1, d2, d3, d4] [d1, d2, d3, d4] := by
  intro s xs name doc pm an ct hK hx
  obtain ⟨v1, v2, v3, v4, rfl, r1, r2, r3, r4⟩ := rows_inv4 hx
  obtain ⟨t, u, v, n, o, h1, h2⟩ := F.d_109
  exact ⟨[v1, v2, v3, v4], .cons r1 (.cons r2 (.cons r3 (.cons r4 .nil))), binds_K hK rfl h1 h2 rfl rfl⟩
theorem from_man_exp_ok (g : Gl) (F : Facts g) (n : Nat) (A k : Int) : CallOK g (n + 4) 116 [.int A, .int k] (norm A k) := by
  refine callOK_of (ps := [Str.ofString "man", Str.ofString "exp", Str.ofString "prec", Str.ofString "rnd"]) F.fn_from_man_exp (from_man_exp_binds g F) rfl rfl (from_man_exp_b g F (n + 3)).2 ?_
  intro z hz
  have : z = 9 := hz
  subst this
  exact from_man_exp_run g F n A k
theorem from_man_exp_ok4 (g : Gl) (F : Facts g) (n : Nat) (A k : Int) : CallOK g (n + 4) 116 [.int A, .int k, .int 0, sd] (norm A k) := by
  refine callOK_of (ps := [Str.ofString "man", Str.ofString "exp", Str.ofString "prec", Str.ofString "rnd"]) F.fn_from_man_exp (from_man_exp_binds4 g F) rfl rfl (from_man_exp_b g F (n + 3)).2 ?_
  intro z hz
  have : z = 9 := hz
  subst this
  exact from_man_exp_run g F n A k
/-- with a precision, for a number above nought -/
theorem from_man_exp_prec (g : Gl) (F : Facts g) (n : Nat) {A : Int} (hA : 0 < A) (k prec : Int) (hp : prec ≠ 0) (rnd : Str) {d : V} (h : CallOK g (n + 3) 108 [.int (sgn A), .int A.natAbs, .int k, .int (bits A), .int prec, .str rnd] d) : CallOK g (n + 4) 116 [.int A, .int k, .int prec, .str rnd] d := by
  refine callOK_of (ps := [Str.ofString "man", Str.ofString "exp", Str.ofString "prec", Str.ofString "rnd"]) F.fn_from_man_exp (from_man_exp_binds4 g F) rfl rfl (from_man_exp_b g F (n + 3)).2 ?_
  intro z hz
  have : z = 9 := hz
  subst this
  simp only [from_man_exp_b]
  walk_at "mRun"
  rw [if_neg (by omega), if_neg hp]
  have e1 : sgn A = 0 := if_neg (by omega)
  have e2 : (A.natAbs : Int) = A := by omega
  rw [e1, e2] at h
  exact ⟨_, h, rfl⟩
theorem from_int_ok (g : Gl) (F : Facts g) (n : Nat) (A : Int) : CallOK g (n + 5) 124 [.int A] (norm A 0) := by
  refine callOK_of (ps := [Str.ofString "n", Str.ofString "prec", Str.ofString "rnd"]) (ds := [.int A, .int 0, sd]) F.fn_from_int ?_ rfl rfl (from_int_b g F (n + 4)).2 ?_
  · intro s xs name doc pm an ct hK hx
    obtain ⟨v1, rfl, r1⟩ := rows_inv1 hx
    obtain ⟨t, u, v, n, o, h1, h2⟩ := F.d_117
    exact ⟨[v1, .int 0 t, .str _ u], .cons r1 (.cons (.int _ _) (.cons (.str _ _) .nil)), binds_K hK rfl h1 h2 rfl rfl⟩
  intro z hz
  have : z = 2 := hz
  subst this
  simp only [from_int_b]
  walk_at "mRun"
  exact ⟨_, from_man_exp_ok4 g F n A 0, rfl⟩
end Mine

namespace Mine
open PySem.Calls
local macro_rules | `(tactic| walk_at "mRun") => `(tactic| simp only [sSeq, sIf, sRet, sAsg, sAsgT, sAsgR, sAug, sNil, sAsrt, eLoc, eCst, eBin, eCmp, eUn, eAnd, eOr, eIf, eCall, eTup, eLst, eSub, eSubT, eTab, eBitLen, eInt, eIsInt, eLen, eMax, eMin, lNil, lCons, tPlain, tNot, tTrue, tFalse, tAnd, tOr,
  binP_add, binP_sub, binP_mul, binP_fdiv, binP_mod, binP_pow, binP_shl, binP_shr, binP_and, binP_xor, cmpP_eq, cmpP_ne, cmpP_lt, cmpP_le, cmpP_gt, cmpP_ge, cmpP_eqs, cmpP_nes, cmpP_ins, cmpP_eqb, cmpP_neb, cmpP_eqt, cmpP_net, cmpP_nin, unP_neg, unP_not, subP_tup, subP_lst, subTP_tup, truthyP_int, truthyP_bool, unpackP_tup, setAll, getP_zero, getP_succ, set_zero, set_succ, ex_int, ite_dec, ite_bne, ite_beq, ite_not, List.map_cons, List.map_nil, List.cons_append, List.nil_append, List.replicate_succ, List.replicate_zero, List.length_cons, List.length_nil, List.reverse_cons, List.reverse_nil, Nat.reduceAdd, Nat.reduceSub, true_and, and_true, if_true, if_false, ite_true, ite_false])

theorem fx_pos {A k : Int} (h : 0 ≤ k) : fx A k = A * 2 ^ k.toNat := if_pos h
theorem fx_not {A k : Int} (h : ¬ 0 ≤ k) : fx A k = A.fdiv (2 ^ (-k).toNat) := if_neg h
theorem fx_zero (k : Int) : fx 0 k = 0 := by
  unfold fx
  split
  · rw [Int.zero_mul]
  · rw [Int.zero_fdiv]
theorem num_eq (a e : Int) : num a e = .tuple [.int (sgn a), .int a.natAbs, .int e, .int (bits a)] := rfl
theorem abs_neg {a : Int} (h : a < 0) : -(a.natAbs : Int) = a := by omega
theorem abs_pos {a : Int} (h : ¬ a < 0) : (a.natAbs : Int) = a := by omega
theorem sgn_neg {a : Int} (h : a < 0) : sgn a = 1 := if_pos h
theorem sgn_pos {a : Int} (h : ¬ a < 0) : sgn a = 0 := if_neg h
theorem to_fixed_ok (g : Gl) (F : Facts g) (n : Nat) (a e p : Int) (hb : (bits a : Int) + (e + p) ≤ 2 ^ 27) : CallOK g (n + 1) 154 [num a e, .int p] (.int (fx a (e + p))) := by
  refine callOK_of (ps := [Str.ofString "s", Str.ofString "prec"]) F.fn_to_fixed (binds2 fun _ _ _ _ _ _ _ _ => BindsTo.of_eq rfl) rfl rfl (to_fixed_b g F n).2 ?_
  intro z hz
  have : z = 5 := hz
  subst this
  simp only [to_fixed_b, num_eq]
  by_cases h : a < 0
  · rw [sgn_neg h]
    walk_at "mRun"
    simp only [abs_neg h]
    rw [if_neg (by decide)]
    by_cases c : 0 ≤ e + p
    · rw [if_pos c, fx_pos c]; exact ⟨c, hb, rfl⟩
    · rw [if_neg c, fx_not c]; exact ⟨by omega, rfl⟩
  · rw [sgn_pos h]
    walk_at "mRun"
    simp only [abs_pos h]
    by_cases c : 0 ≤ e + p
    · rw [if_pos c, fx_pos c]; exact ⟨c, hb, rfl⟩
    · rw [if_neg c, fx_not c]; exact ⟨by omega, rfl⟩
theorem mpf_shift_ok (g : Gl) (F : Facts g) (n : Nat) (A k m : Int) : CallOK g (n + 1) 215 [norm A k, .int m] (norm A (k + m)) := by
  obtain ⟨a, e, h1, h2, h3, h4, h5, h6, h7⟩ := norm_num A k
  have hr : norm A (k + m) = if a = 0 then num 0 0 else num a (e + m) := by
    rw [(h3.shift m).norm]
    by_cases c : a = 0
    · rw [if_pos c, c, norm_zero]
    · rw [if_neg c]
      exact Cn.norm (.inl (by rcases h2 with h | h; exact h; exact absurd h.1 c))
  rw [h1, hr]
  refine callOK_of (ps := [Str.ofString "s", Str.ofString "n"]) F.fn_mpf_shift (binds2 fun _ _ _ _ _ _ _ _ => BindsTo.of_eq rfl) rfl rfl (mpf_shift_b g F n).2 ?_
  intro z hz
  have : z = 4 := hz
  subst this
  by_cases c : a = 0
  · rw [if_pos c]
    have he : e = 0 := by
      rcases h2 with h | h
      · omega
      · exact h.2
    subst c; subst he
    simp only [mpf_shift_b, num_eq]
    walk_at "mRun"
    rw [if_pos (by decide)]
    trivial
  · rw [if_neg c]
    simp only [mpf_shift_b, num_eq]
    walk_at "mRun"
    rw [if_neg (by omega)]
    exact by decide
theorem mpf_neg_ok (g : Gl) (F : Facts g) (n : Nat) (A k : Int) : CallOK g (n + 1) 177 [norm A k] (norm (-A) k) := by
  obtain ⟨a, e, h1, h2, h3, h4, h5, h6, h7⟩ := norm_num A k
  have hr : norm (-A) k = num (-a) e := by
    rw [h3.neg.norm]
    refine Cn.norm ?_
    rcases h2 with h | h
    · left; omega
    · right; exact ⟨by omega, h.2⟩
  rw [h1, hr]
  refine callOK_of (ps := [Str.ofString "s", Str.ofString "prec", Str.ofString "rnd"]) (ds := [num a e, .int 0, sd]) F.fn_mpf_neg ?_ rfl rfl (mpf_neg_b g F n).2 ?_
  · intro s xs name doc pm an ct hK hx
    obtain ⟨v1, rfl, r1⟩ := rows_inv1 hx
    obtain ⟨t, u, v, n, o, h1, h2⟩ := F.d_170
    exact ⟨[v1, .int 0 t, .str _ u], .cons r1 (.cons (.int _ _) (.cons (.str _ _) .nil)), binds_K hK rfl h1 h2 rfl rfl⟩
  intro z hz
  have : z = 7 := hz
  subst this
  by_cases c : a = 0
  · have he : e = 0 := by
      rcases h2 with h | h
      · omega
      · exact h.2
    subst c; subst he
    simp only [mpf_neg_b, num_eq]
    walk_at "mRun"
    rw [if_pos (by decide)]
    rfl
  · simp only [mpf_neg_b, num_eq, bits_neg, Int.natAbs_neg]
    walk_at "mRun"
    rw [if_neg (by omega)]
    refine ⟨by decide, ?_⟩
    have : 1 - sgn a = sgn (-a) := by
      unfold sgn
      by_cases q : a < 0
      · rw [if_pos q, if_neg (by omega)]; rfl
      · rw [if_neg q, if_pos (by omega)]; rfl
    rw [this]
theorem eqv_tup {l m : List V} : PyData.eqv (.tuple l) (.tuple m) = PyData.eqvAll l m := by simp [PyData.eqv]
theorem eqv_num {a e b f : Int} (i j k l : Int) : PyData.eqv (num a e) (.tuple [.int i, .int j, .int k, .int l]) = decide (sgn a = i ∧ (a.natAbs : Int) = j ∧ e = k ∧ (bits a : Int) = l) := by
  rw [num_eq, eqv_tup]
  simp only [PyData.eqvAll, PyData.eqv]
  by_cases h1 : sgn a = i <;> by_cases h2 : (a.natAbs : Int) = j <;> by_cases h3 : e = k <;> by_cases h4 : (bits a : Int) = l <;> simp [h1, h2, h3, h4]
theorem shaped4 (i j k l : Int) : SeqAt.shaped (.tuple [.int i, .int j, .int k, .int l]) = true := by
  simp [SeqAt.shaped, PyData.canLay0, PyData.canLayAll0, PyData.depth, PyData.depthAll]
theorem mpf_sign_ok (g : Gl) (F : Facts g) (n : Nat) (a e : Int) (hc : Cn a e) : CallOK g (n + 1) 184 [num a e] (.int (if a = 0 then 0 else if a < 0 then -1 else 1)) := by
  refine callOK_of (ps := [Str.ofString "s"]) F.fn_mpf_sign (binds1 fun _ _ _ _ _ _ _ => BindsTo.of_eq rfl) rfl rfl (mpf_sign_b g F n).2 ?_
  intro z hz
  have : z = 6 := hz
  subst this
  by_cases c : a = 0
  · have he : e = 0 := by
      rcases hc with h | h
      · omega
      · exact h.2
    subst c; subst he
    simp only [mpf_sign_b, num_eq]
    walk_at "mRun"
    rw [if_pos (by decide)]
    refine ⟨shaped4 _ _ _ _, shaped4 _ _ _ _, ?_⟩
    have e1 : PyData.eqv (.tuple [.int (sgn 0), .int (0 : Int).natAbs, .int 0, .int (bits 0)]) (.tuple [.int 0, .int 0, .int (-456), .int (-2)]) = false := by decide
    have e2 : PyData.eqv (.tuple [.int (sgn 0), .int (0 : Int).natAbs, .int 0, .int (bits 0)]) (.tuple [.int 1, .int 0, .int (-789), .int (-3)]) = false := by decide
    rw [e1, e2]
    simp only [Bool.false_eq_true, if_false]
    exact ⟨shaped4 _ _ _ _, shaped4 _ _ _ _, trivial⟩
  · simp only [mpf_sign_b, num_eq]
    walk_at "mRun"
    rw [if_neg (by omega), if_neg c]
    by_cases h : a < 0
    · rw [sgn_neg h, if_pos h]; exact ⟨by decide, by decide, rfl⟩
    · rw [sgn_pos h, if_neg h]; exact ⟨by decide, by decide, rfl⟩
theorem mpf_pos_ok (g : Gl) (F : Facts g) (n : Nat) {a : Int} (ha : a ≠ 0) (e prec : Int) (hp : prec ≠ 0) (rnd : Str) {d : V} (h : CallOK g (n + 3) 108 [.int (sgn a), .int a.natAbs, .int e, .int (bits a), .int prec, .str rnd] d) :
    CallOK g (n + 4) 169 [num a e, .int prec, .str rnd] d := by
  refine callOK_of (ps := [Str.ofString "s", Str.ofString "prec", Str.ofString "rnd"]) (ds := [num a e, .int prec, .str rnd]) F.fn_mpf_pos ?_ rfl rfl (mpf_pos_b g F (n + 3)).2 ?_
  · intro s xs name doc pm an ct hK hx
    obtain ⟨v1, v2, v3, rfl, r1, r2, r3⟩ := rows_inv3 hx
    obtain ⟨t, u, v, n, o, h1, h2⟩ := F.d_162
    exact ⟨[v1, v2, v3], .cons r1 (.cons r2 (.cons r3 .nil)), binds_K hK rfl h1 h2 rfl rfl⟩
  intro z hz
  have : z = 5 := hz
  subst this
  simp only [mpf_pos_b, num_eq]
  walk_at "mRun"
  rw [if_neg hp, if_neg (by omega)]
  exact ⟨_, h, rfl⟩
theorem to_int_binds (g : Gl) (F : Facts g) {d1 d2 : V} : Binds g fi_to_int (dfn 30).1 (dfn 30).2.1 (.ref 125) [Str.ofString "s", Str.ofString "rnd"] [d1, d2] [d1, d2] := by
  intro s xs name doc pm an ct hK hx
  obtain ⟨v1, v2, rfl, r1, r2⟩ := rows_inv2 hx
  obtain ⟨t, u, v, n, o, h1, h2⟩ := F.d_125
  exact ⟨[v1, v2], .cons r1 (.cons r2 .nil), binds_K hK rfl h1 h2 rfl rfl⟩
theorem to_int_binds1 (g : Gl) (F : Facts g) {d1 : V} : Binds g fi_to_int (dfn 30).1 (dfn 30).2.1 (.ref 125) [Str.ofString "s", Str.ofString "rnd"] [d1] [d1, sd] := by
  intro s xs name doc pm an ct hK hx
  obtain ⟨v1, rfl, r1⟩ := rows_inv1 hx
  obtain ⟨t, u, v, n, o, h1, h2⟩ := F.d_125
  exact ⟨[v1, .str _ u], .cons r1 (.cons (.str _ _) .nil), binds_K hK rfl h1 h2 rfl rfl⟩
theorem to_int_f (g : Gl) (F : Facts g) (n : Nat) (a e : Int) (hc : Cn a e) (hb : (bits a : Int) + e ≤ 2 ^ 27) : CallOK g (n + 2) 132 [num a e, sf] (.int (fx a e)) := by
  refine callOK_of (ps := [Str.ofString "s", Str.ofString "rnd"]) F.fn_to_int (to_int_binds g F) rfl rfl (to_int_b g F (n + 1)).2 ?_
  intro z hz
  have : z = 9 := hz
  subst this
  have e1 : (Str.ofString "f" == Str.ofString "d") = false := by decide
  have hz : (a.natAbs : Int) = 0 → e = 0 := fun q => by
    rcases hc with h | h
    · omega
    · exact h.2
  simp only [to_int_b, num_eq]
  by_cases h : a < 0
  · rw [sgn_neg h]
    walk_at "mRun"
    simp only [e1, abs_neg h, Bool.false_eq_true, if_false]
    rw [if_neg (by omega)]
    by_cases c : 0 ≤ e
    · rw [if_pos c, if_neg (by decide), fx_pos c]; exact ⟨c, hb, rfl⟩
    · rw [if_neg c, if_neg (by decide)]
      exact ⟨_, round_int_ok g F n a (-e) (by omega), by rw [Int.neg_neg]⟩
  · rw [sgn_pos h]
    walk_at "mRun"
    simp only [e1, abs_pos h, Bool.false_eq_true, if_false]
    by_cases a0 : a = 0
    · rw [if_pos a0, if_pos (hz (by omega)), if_pos (by have := hz (by omega); omega)]
      have := hz (by omega)
      subst this
      exact ⟨by decide, by omega, by rw [fx_pos (by decide)]⟩
    · rw [if_neg a0]
      by_cases c : 0 ≤ e
      · rw [if_pos c, fx_pos c]; exact ⟨c, hb, rfl⟩
      · rw [if_neg c]
        exact ⟨_, round_int_ok g F n a (-e) (by omega), by rw [Int.neg_neg]⟩
theorem to_int_d (g : Gl) (F : Facts g) (n : Nat) (a e : Int) (hc : Cn a e) (ha : 0 ≤ a) (hb : (bits a : Int) + e ≤ 2 ^ 27) : CallOK g (n + 2) 132 [num a e] (.int (fx a e)) := by
  refine callOK_of (ps := [Str.ofString "s", Str.ofString "rnd"]) F.fn_to_int (to_int_binds1 g F) rfl rfl (to_int_b g F (n + 1)).2 ?_
  intro z hz
  have : z = 9 := hz
  subst this
  have e1 : (Str.ofString "d" == Str.ofString "d") = true := by decide
  have h : ¬ a < 0 := by omega
  simp only [to_int_b, num_eq]
  rw [sgn_pos h]
  walk_at "mRun"
  simp only [e1, abs_pos h, if_true, Bool.false_eq_true, if_false]
  by_cases a0 : a = 0
  · have he : e = 0 := by
      rcases hc with h | h
      · omega
      · exact h.2
    rw [if_pos a0, if_pos he, if_pos (by omega)]
    subst he
    exact ⟨by decide, by omega, by rw [fx_pos (by decide)]⟩
  · rw [if_neg a0]
    by_cases c : 0 ≤ e
    · rw [if_pos c, fx_pos c]; exact ⟨c, hb, rfl⟩
    · rw [if_neg c, fx_not c]
      exact ⟨by omega, rfl⟩
end Mine

namespace Mine
open PySem.Calls
local macro_rules | `(tactic| walk_at "mRun") => `(tactic| simp only [sSeq, sIf, sRet, sAsg, sAsgT, sAsgR, sAug, sNil, sAsrt, eLoc, eCst, eBin, eCmp, eUn, eAnd, eOr, eIf, eCall, eTup, eLst, eSub, eSubT, eTab, eBitLen, eInt, eIsInt, eLen, eMax, eMin, lNil, lCons, tPlain, tNot, tTrue, tFalse, tAnd, tOr,
  binP_add, binP_sub, binP_mul, binP_fdiv, binP_mod, binP_pow, binP_shl, binP_shr, binP_and, binP_xor, cmpP_eq, cmpP_ne, cmpP_lt, cmpP_le, cmpP_gt, cmpP_ge, cmpP_eqs, cmpP_nes, cmpP_ins, cmpP_eqb, cmpP_neb, cmpP_eqt, cmpP_net, cmpP_nin, unP_neg, unP_not, subP_tup, subP_lst, subTP_tup, truthyP_int, truthyP_bool, unpackP_tup, setAll, getP_zero, getP_succ, set_zero, set_succ, ex_int, ite_dec, ite_bne, ite_beq, ite_not, List.map_cons, List.map_nil, List.cons_append, List.nil_append, List.replicate_succ, List.replicate_zero, List.length_cons, List.length_nil, List.reverse_cons, List.reverse_nil, Nat.reduceAdd, Nat.reduceSub, true_and, and_true, if_true, if_false, ite_true, ite_false])

theorem p2_bits_le {a e : Int} (h : e + (bits a : Int) ≤ 0) : (a.natAbs : Int) < p2 (-e) := by
  have h1 := lt_bits a
  have h2 : (2 : Nat) ^ bits a ≤ 2 ^ (-e).toNat := Nat.pow_le_pow_right (by decide) (by omega)
  have h3 : ((2 ^ (-e).toNat : Nat) : Int) = p2 (-e) := by unfold p2; push_cast; rfl
  omega
theorem mpf_round_int_ok (g : Gl) (F : Facts g) (n : Nat) (a e : Int) (hc : Cn a e) : CallOK g (n + 5) 139 [num a e, sf] (norm (fx a e) 0) := by
  refine callOK_of (ps := [Str.ofString "s", Str.ofString "rnd"]) F.fn_mpf_round_int (binds2 fun _ _ _ _ _ _ _ _ => BindsTo.of_eq rfl) rfl rfl (mpf_round_int_b g F (n + 4)).2 ?_
  intro z hz
  have : z = 15 := hz
  subst this
  have e1 : (Str.ofString "f" == Str.ofString "c") = false := by decide
  have e2 : (Str.ofString "f" == Str.ofString "f") = true := by decide
  have h41 : (4 : Nat) ≤ 16 := by decide
  by_cases a0 : a = 0
  · have he : e = 0 := by
      rcases hc with h | h
      · omega
      · exact h.2
    subst a0; subst he
    simp only [mpf_round_int_b, num_eq]
    walk_at "mRun"
    simp only [Bool.false_eq_true, if_false]
    rw [if_pos (by decide), if_pos (by decide), fx_zero, norm_zero]
    rfl
  · have ho : a % 2 = 1 := by
      rcases hc with h | h
      · exact h
      · exact absurd h.1 a0
    simp only [mpf_round_int_b, num_eq]
    walk_at "mRun"
    rw [if_neg (by omega)]
    by_cases h0 : 0 ≤ e
    · rw [if_pos h0, fx_pos h0, norm_odd ho, Int.zero_add, Int.toNat_of_nonneg h0]
      rfl
    · rw [if_neg h0]
      by_cases hm : e + (bits a : Int) < 1
      · have hm' : e + (Builtin.Int.intBits a : Int) < 1 := hm
        rw [if_pos hm', e1, e2]
        simp only [Bool.false_eq_true, if_false, if_true]
        have hlt := p2_bits_le (a := a) (e := e) (by omega)
        by_cases hs : a < 0
        · rw [sgn_neg hs, if_neg (by decide)]
          have hf : fx a e = -1 := (fx_char (N := -e) (by omega) (by omega)).mpr (by
            rw [show e + -e = 0 from by omega, p2_zero]
            omega)
          rw [hf, norm_odd0 (by decide)]
          rfl
        · rw [sgn_pos hs, if_pos rfl]
          have hf : fx a e = 0 := (fx_char (N := -e) (by omega) (by omega)).mpr (by
            rw [show e + -e = 0 from by omega, p2_zero]
            omega)
          rw [hf, norm_zero]
          rfl
      · have hm' : ¬ e + (Builtin.Int.intBits a : Int) < 1 := hm
        rw [if_neg hm']
        refine ⟨_, _, rfl, rfl, ?_⟩
        have hlt : e + (Builtin.Int.intBits a : Int) < (Builtin.Int.intBits a : Int) := by omega
        rw [if_pos hlt]
        have key := normalize_floor g F n a0 e (e + (bits a : Int)) (by omega) (by omega) (Str.ofString "f") (.inl rfl)
        rw [show -((bits a : Int) - (e + (bits a : Int))) = e from by omega, show e + ((bits a : Int) - (e + (bits a : Int))) = 0 from by omega] at key
        exact ⟨_, mpf_pos_ok g F n a0 e _ (by omega) _ key, rfl⟩
theorem mpf_floor_ok (g : Gl) (F : Facts g) (n : Nat) (a e : Int) (hc : Cn a e) : CallOK g (n + 6) 147 [num a e] (norm (fx a e) 0) := by
  refine callOK_of (ps := [Str.ofString "s", Str.ofString "prec", Str.ofString "rnd"]) (ds := [num a e, .int 0, sd]) F.fn_mpf_floor ?_ rfl rfl (mpf_floor_b g F (n + 5)).2 ?_
  · intro s xs name doc pm an ct hK hx
    obtain ⟨v1, rfl, r1⟩ := rows_inv1 hx
    obtain ⟨t, u, v, n, o, h1, h2⟩ := F.d_140
    exact ⟨[v1, .int 0 t, .str _ u], .cons r1 (.cons (.int _ _) (.cons (.str _ _) .nil)), binds_K hK rfl h1 h2 rfl rfl⟩
  intro z hz
  have : z = 4 := hz
  subst this
  simp only [mpf_floor_b]
  walk_at "mRun"
  refine ⟨_, mpf_round_int_ok g F n a e hc, ?_⟩
  trivial
theorem Sm.mul {A k a e B l b f : Int} (h : Sm A k a e) (h' : Sm B l b f) : Sm (A * B) (k + l) (a * b) (e + f) := by
  have key : ∀ {A k B l N : Int}, 0 ≤ k + N → 0 ≤ l + N → A * B * p2 (k + l + (N + N)) = (A * p2 (k + N)) * (B * p2 (l + N)) := by
    intro A k B l N h1 h2
    rw [show k + l + (N + N) = (k + N) + (l + N) from by omega, p2_add h1 h2]
    rw [Int.mul_assoc, Int.mul_assoc, Int.mul_left_comm B]
  refine Sm.of (N := ((k.natAbs + l.natAbs + e.natAbs + f.natAbs : Nat) : Int) + ((k.natAbs + l.natAbs + e.natAbs + f.natAbs : Nat) : Int)) (by omega) (by omega) ?_
  rw [key (by omega) (by omega), key (by omega) (by omega), h _ (by omega) (by omega), h' _ (by omega) (by omega)]
theorem xor_sgn {a b : Int} (ha : a ≠ 0) (hb : b ≠ 0) : Builtin.bitXor (sgn a) (sgn b) = sgn (a * b) := by
  rcases Int.lt_or_le a 0 with h | h <;> rcases Int.lt_or_le b 0 with h' | h'
  · have := Int.mul_pos_of_neg_of_neg h h'
    rw [sgn_neg h, sgn_neg h', sgn_pos (by omega)]; decide
  · have := Int.mul_neg_of_neg_of_pos h (show 0 < b by omega)
    rw [sgn_neg h, sgn_pos (by omega), sgn_neg this]; decide
  · have := Int.mul_neg_of_pos_of_neg (show 0 < a by omega) h'
    rw [sgn_pos (by omega), sgn_neg h', sgn_neg this]; decide
  · have := Int.mul_pos (show 0 < a by omega) (show 0 < b by omega)
    rw [sgn_pos (by omega), sgn_pos (by omega), sgn_pos (by omega)]; decide
theorem cn_exp {a e : Int} (h : Cn a e) (h0 : a = 0) : e = 0 := by
  rcases h with h | h
  · omega
  · exact h.2
theorem cn_odd {a e : Int} (h : Cn a e) (h0 : a ≠ 0) : a % 2 = 1 := by
  rcases h with h | h
  · exact h
  · exact absurd h.1 h0
theorem mpf_mul_ok (g : Gl) (F : Facts g) (n : Nat) (A k B l : Int) (hA : bits A ≤ 2 ^ 20) (hB : bits B ≤ 2 ^ 20) : CallOK g (n + 1) 208 [norm A k, norm B l] (norm (A * B) (k + l)) := by
  obtain ⟨a, e, h1, hc, h3, h4, _, _, _⟩ := norm_num A k
  obtain ⟨b, f, h1', hc', h3', h4', _, _, _⟩ := norm_num B l
  rw [h1, h1', (h3.mul h3').norm]
  refine callOK_of (ps := [Str.ofString "s", Str.ofString "t", Str.ofString "prec", Str.ofString "rnd"]) (ds := [num a e, num b f, .int 0, sd]) F.fn_mpf_mul ?_ rfl rfl (mpf_mul_b g F n).2 ?_
  · intro s xs name doc pm an ct hK hx
    obtain ⟨v1, v2, rfl, r1, r2⟩ := rows_inv2 hx
    obtain ⟨t, u, v, n, o, h1, h2⟩ := F.d_201
    exact ⟨[v1, v2, .int 0 t, .str _ u], .cons r1 (.cons r2 (.cons (.int _ _) (.cons (.str _ _) .nil))), binds_K hK rfl h1 h2 rfl rfl⟩
  intro z hz
  have : z = 19 := hz
  subst this
  have hok : IntMulOk (a.natAbs : Int) (b.natAbs : Int) := IntMulOk.of_bits (Nat.le_trans (Nat.le_of_eq (bits_abs a)) (Nat.le_trans h4 hA)) (Nat.le_trans (Nat.le_of_eq (bits_abs b)) (Nat.le_trans h4' hB))
  simp only [mpf_mul_b, num_eq]
  walk_at "mRun"
  refine ⟨hok, ?_⟩
  by_cases ha : a = 0
  · have := cn_exp hc ha
    subst ha; subst this
    rw [if_pos (by simp), if_pos (by decide)]
    rw [Int.zero_mul, norm_zero]
    by_cases hb : b = 0
    · have := cn_exp hc' hb
      subst hb; subst this
      rw [if_pos (by decide)]
      simp only [if_true]
      rfl
    · rw [if_neg (by omega)]
      simp [hb]
      rfl
  · by_cases hb : b = 0
    · have := cn_exp hc' hb
      subst hb; subst this
      rw [if_pos (by simp), if_neg (by omega)]
      rw [Int.mul_zero, norm_zero]
      simp [ha]
      rfl
    · have hne : (a.natAbs : Int) * b.natAbs ≠ 0 := fun h => by
        rcases Int.mul_eq_zero.mp h with h | h <;> omega
      rw [if_neg hne]
      have hodd : a * b % 2 = 1 := by
        have o1 := cn_odd hc ha
        have o2 := cn_odd hc' hb
        rw [Int.mul_emod, o1, o2]; rfl
      refine ⟨by decide, ?_⟩
      rw [norm_odd0 hodd, num_eq, xor_sgn ha hb]
      have e1 : (a.natAbs : Int) * b.natAbs = ((a * b).natAbs : Int) := by rw [Int.natAbs_mul]; push_cast; rfl
      have e2 : Builtin.Int.intBits ((a * b).natAbs : Int) = bits (a * b) := bits_abs (a * b)
      rw [e1, e2]
end Mine

namespace Mine
open PySem.Calls
local macro_rules | `(tactic| walk_at "mRun") => `(tactic| simp only [sSeq, sIf, sRet, sAsg, sAsgT, sAsgR, sAug, sNil, sAsrt, eLoc, eCst, eBin, eCmp, eUn, eAnd, eOr, eIf, eCall, eTup, eLst, eSub, eSubT, eTab, eBitLen, eInt, eIsInt, eLen, eMax, eMin, lNil, lCons, tPlain, tNot, tTrue, tFalse, tAnd, tOr,
  binP_add, binP_sub, binP_mul, binP_fdiv, binP_mod, binP_pow, binP_shl, binP_shr, binP_and, binP_xor, cmpP_eq, cmpP_ne, cmpP_lt, cmpP_le, cmpP_gt, cmpP_ge, cmpP_eqs, cmpP_nes, cmpP_ins, cmpP_eqb, cmpP_neb, cmpP_eqt, cmpP_net, cmpP_nin, unP_neg, unP_not, subP_tup, subP_lst, subTP_tup, truthyP_int, truthyP_bool, unpackP_tup, setAll, getP_zero, getP_succ, set_zero, set_succ, ex_int, ite_dec, ite_bne, ite_beq, ite_not, List.map_cons, List.map_nil, List.cons_append, List.nil_append, List.replicate_succ, List.replicate_zero, List.length_cons, List.length_nil, List.reverse_cons, List.reverse_nil, Nat.reduceAdd, Nat.reduceSub, true_and, and_true, if_true, if_false, ite_true, ite_false])

theorem xor_sub0 (b : Int) : Builtin.bitXor (sgn b) 0 = sgn b := by
  unfold sgn; split <;> decide
theorem xor_sub1 {b : Int} (h : b ≠ 0) : Builtin.bitXor (sgn b) 1 = sgn (-b) := by
  unfold sgn
  by_cases c : b < 0
  · rw [if_pos c, if_neg (by omega)]; decide
  · rw [if_neg c, if_pos (by omega)]; decide
/-- the text's way to the sum's sign and size -/
theorem comb {X Y : Int} (hX : X ≠ 0) (hY : Y ≠ 0) {K : Int → Int → Prop} (h : K (sgn (X + Y)) ((X + Y).natAbs : Int)) {s1 s2 xa ya : Int} (e1 : s1 = sgn X) (e2 : s2 = sgn Y) (ex : xa = X.natAbs) (ey : ya = Y.natAbs) :
    if s1 = s2 then K s1 (ya + xa) else if s1 = 0 then (if 0 ≤ xa - ya then K 0 (xa - ya) else K 1 (-(xa - ya))) else (if 0 ≤ ya - xa then K 0 (ya - xa) else K 1 (-(ya - xa))) := by
  subst e1; subst e2; subst ex; subst ey
  unfold sgn at *
  rcases Int.lt_or_le X 0 with c | c <;> rcases Int.lt_or_le Y 0 with c' | c'
  · rw [if_pos c, if_pos c', if_pos rfl]
    rw [if_pos (by omega)] at h
    have : ((X + Y).natAbs : Int) = Y.natAbs + X.natAbs := by omega
    rwa [this] at h
  · rw [if_pos c, if_neg (show ¬ Y < 0 by omega), if_neg (by decide), if_neg (by decide)]
    by_cases q : 0 ≤ (Y.natAbs : Int) - X.natAbs
    · rw [if_pos q]
      rw [if_neg (by omega)] at h
      have : ((X + Y).natAbs : Int) = Y.natAbs - X.natAbs := by omega
      rwa [this] at h
    · rw [if_neg q]
      rw [if_pos (by omega)] at h
      have : ((X + Y).natAbs : Int) = -((Y.natAbs : Int) - X.natAbs) := by omega
      rwa [this] at h
  · rw [if_neg (show ¬ X < 0 by omega), if_pos c', if_neg (by decide), if_pos rfl]
    by_cases q : 0 ≤ (X.natAbs : Int) - Y.natAbs
    · rw [if_pos q]
      rw [if_neg (by omega)] at h
      have : ((X + Y).natAbs : Int) = X.natAbs - Y.natAbs := by omega
      rwa [this] at h
    · rw [if_neg q]
      rw [if_pos (by omega)] at h
      have : ((X + Y).natAbs : Int) = -((X.natAbs : Int) - Y.natAbs) := by omega
      rwa [this] at h
  · rw [if_neg (show ¬ X < 0 by omega), if_neg (show ¬ Y < 0 by omega), if_pos rfl]
    rw [if_neg (by omega)] at h
    have : ((X + Y).natAbs : Int) = Y.natAbs + X.natAbs := by omega
    rwa [this] at h
theorem combP {X Y : Int} (hX : X ≠ 0) (hY : Y ≠ 0) {P1 P2 : Prop} (p1 : P1) (p2 : P2) {K : Int → Int → Prop} (h : K (sgn (X + Y)) ((X + Y).natAbs : Int)) {s1 s2 xa ya : Int} (e1 : s1 = sgn X) (e2 : s2 = sgn Y) (ex : xa = X.natAbs) (ey : ya = Y.natAbs) :
    if s1 = s2 then P1 ∧ P2 ∧ K s1 (ya + xa) else if s1 = 0 then P1 ∧ P2 ∧ (if 0 ≤ xa - ya then K 0 (xa - ya) else K 1 (-(xa - ya))) else P1 ∧ P2 ∧ (if 0 ≤ ya - xa then K 0 (ya - xa) else K 1 (-(ya - xa))) := by
  have := comb hX hY h e1 e2 ex ey
  by_cases c : s1 = s2
  · rw [if_pos c] at this ⊢; exact ⟨p1, p2, this⟩
  · rw [if_neg c] at this ⊢
    by_cases c' : s1 = 0
    · rw [if_pos c'] at this ⊢; exact ⟨p1, p2, this⟩
    · rw [if_neg c'] at this ⊢; exact ⟨p1, p2, this⟩
theorem combR {X Y : Int} (hX : X ≠ 0) (hY : Y ≠ 0) {P1 P2 : Prop} (p1 : P1) (p2 : P2) {K : Int → Int → Prop} (h : K (sgn (X + Y)) ((X + Y).natAbs : Int)) {s1 s2 xa ya : Int} (e1 : s1 = sgn X) (e2 : s2 = sgn Y) (ex : xa = X.natAbs) (ey : ya = Y.natAbs) :
    if s1 = s2 then P1 ∧ P2 ∧ K s1 (xa + ya) else if s2 = 0 then P1 ∧ P2 ∧ (if 0 ≤ ya - xa then K 0 (ya - xa) else K 1 (-(ya - xa))) else P1 ∧ P2 ∧ (if 0 ≤ xa - ya then K 0 (xa - ya) else K 1 (-(xa - ya))) := by
  have := combP hY hX p1 p2 (K := K) (by rw [Int.add_comm Y X]; exact h) e2 e1 ey ex
  by_cases c : s1 = s2
  · rw [if_pos c.symm] at this; rw [if_pos c, c]; exact this
  · rw [if_neg (fun q => c q.symm)] at this; rw [if_neg c]; exact this
theorem abs_shift {a : Int} (k : Nat) : (a.natAbs : Int) * 2 ^ k = ((a * 2 ^ k).natAbs : Int) := by
  rw [Int.natAbs_mul, Int.natAbs_pow]; push_cast; rfl
theorem sgn_shift (a : Int) (k : Nat) : sgn (a * 2 ^ k) = sgn a := by
  have hp : (0 : Int) < 2 ^ k := Int.pow_pos (by decide)
  unfold sgn
  by_cases h : a < 0
  · rw [if_pos h, if_pos (Int.mul_neg_of_neg_of_pos h hp)]
  · have := Int.mul_nonneg (show 0 ≤ a by omega) (Int.le_of_lt hp)
    rw [if_neg h, if_neg (by omega)]
theorem shift_ne {a : Int} (h : a ≠ 0) (k : Nat) : a * 2 ^ k ≠ 0 := fun q => by
  rcases Int.mul_eq_zero.mp q with q | q
  · exact h q
  · exact absurd q (Int.ne_of_gt (Int.pow_pos (by decide)))
/-- what the sum hands to normalize -/
abbrev KN (g : Gl) (n : Nat) (f prec : Int) (rnd : Str) (d : V) (sg man : Int) : Prop :=
  if prec = 0 then ∃ d_1, CallOK g (n + 3) 108 [.int sg, .int man, .int f, .int (Builtin.Int.intBits man), .int (Builtin.Int.intBits man), .str rnd] d_1 ∧ d_1 = d
  else ∃ d_1, CallOK g (n + 3) 108 [.int sg, .int man, .int f, .int (Builtin.Int.intBits man), .int prec, .str rnd] d_1 ∧ d_1 = d
theorem KN.of {g : Gl} {n : Nat} {f prec : Int} {rnd : Str} {d : V} {S : Int}
    (h : CallOK g (n + 3) 108 [.int (sgn S), .int S.natAbs, .int f, .int (bits S), .int (if prec = 0 then (bits S : Int) else prec), .str rnd] d) : KN g n f prec rnd d (sgn S) (S.natAbs : Int) := by
  unfold KN
  have e : Builtin.Int.intBits (S.natAbs : Int) = bits S := bits_abs S
  rw [e]
  by_cases hp : prec = 0
  · rw [if_pos hp] at h ⊢; exact ⟨_, h, rfl⟩
  · rw [if_neg hp] at h ⊢; exact ⟨_, h, rfl⟩
theorem mpf_add_gt (g : Gl) (F : Facts g) (n : Nat) {a b' b e f prec sub : Int} (rnd : Str) (ha : a ≠ 0) (hb : b' ≠ 0) (hbb : (b.natAbs : Int) = b'.natAbs) (hs : Builtin.bitXor (sgn b) sub = sgn b')
    (hef : f < e) (hp : prec = 0 ∨ (0 ≤ prec ∧ (bits a : Int) + e = bits b + f)) (hsz : (bits a : Int) + (e - f) ≤ 2 ^ 27) {d : V}
    (h : CallOK g (n + 3) 108 [.int (sgn (a * 2 ^ (e - f).toNat + b')), .int (a * 2 ^ (e - f).toNat + b').natAbs, .int f, .int (bits (a * 2 ^ (e - f).toNat + b')), .int (if prec = 0 then (bits (a * 2 ^ (e - f).toNat + b') : Int) else prec), .str rnd] d) :
    (mpf_add_b g F (n + 3)).1 ([num a e, num b f, .int prec, .str rnd, .int sub].map some ++ List.replicate 15 none) (fun _ => False) (fun r => r = d) := by
  have hsz' : (Builtin.Int.intBits (a.natAbs : Int) : Int) + (e - f) ≤ 2 ^ 27 := by
    rw [show Builtin.Int.intBits (a.natAbs : Int) = bits a from bits_abs a]; exact hsz
  have core := combP (shift_ne ha (e - f).toNat) hb (P1 := 0 ≤ e - f) (P2 := (Builtin.Int.intBits (a.natAbs : Int) : Int) + (e - f) ≤ 2 ^ 27) (by omega) hsz' (K := KN g n f prec rnd d) (KN.of h) (s1 := sgn a) (s2 := sgn b') (xa := (a.natAbs : Int) * 2 ^ (e - f).toNat) (ya := (b.natAbs : Int)) (sgn_shift a _).symm rfl (abs_shift _) hbb
  simp only [mpf_add_b, num_eq]
  walk_at "mRun"
  rw [hs, if_neg (by omega), if_neg (by omega), if_neg (by omega), if_pos (by omega)]
  by_cases c : 100 < e - f
  · rw [if_pos c]
    by_cases c0 : prec = 0
    · rw [if_pos c0]
      simp only [Bool.false_eq_true, if_false]
      exact core
    · rw [if_neg c0, if_neg (by omega)]
      exact core
  · rw [if_neg c]
    exact core
theorem mpf_add_lt (g : Gl) (F : Facts g) (n : Nat) {a b' b e f prec sub : Int} (rnd : Str) (ha : a ≠ 0) (hb : b' ≠ 0) (hbb : (b.natAbs : Int) = b'.natAbs) (hs : Builtin.bitXor (sgn b) sub = sgn b')
    (hef : e < f) (hp : prec = 0 ∨ (0 ≤ prec ∧ (bits a : Int) + e = bits b + f)) (hsz : (bits b : Int) + (f - e) ≤ 2 ^ 27) {d : V}
    (h : CallOK g (n + 3) 108 [.int (sgn (a + b' * 2 ^ (-(e - f)).toNat)), .int (a + b' * 2 ^ (-(e - f)).toNat).natAbs, .int e, .int (bits (a + b' * 2 ^ (-(e - f)).toNat)), .int (if prec = 0 then (bits (a + b' * 2 ^ (-(e - f)).toNat) : Int) else prec), .str rnd] d) :
    (mpf_add_b g F (n + 3)).1 ([num a e, num b f, .int prec, .str rnd, .int sub].map some ++ List.replicate 15 none) (fun _ => False) (fun r => r = d) := by
  have hsz' : (Builtin.Int.intBits (b.natAbs : Int) : Int) + -(e - f) ≤ 2 ^ 27 := by
    rw [show Builtin.Int.intBits (b.natAbs : Int) = bits b from bits_abs b]; omega
  have core := combR ha (shift_ne hb (-(e - f)).toNat) (P1 := 0 ≤ -(e - f)) (P2 := (Builtin.Int.intBits (b.natAbs : Int) : Int) + -(e - f) ≤ 2 ^ 27) (by omega) hsz' (K := KN g n e prec rnd d) (KN.of h) (s1 := sgn a) (s2 := sgn b') (xa := (a.natAbs : Int)) (ya := (b.natAbs : Int) * 2 ^ (-(e - f)).toNat) rfl (sgn_shift b' _).symm rfl (by rw [hbb, abs_shift])
  simp only [mpf_add_b, num_eq]
  walk_at "mRun"
  rw [hs, if_neg (by omega), if_neg (by omega), if_neg (by omega), if_neg (by omega), if_pos (by omega)]
  by_cases c : e - f < -100
  · rw [if_pos c]
    by_cases c0 : prec = 0
    · rw [if_pos c0]
      simp only [Bool.false_eq_true, if_false]
      exact core
    · rw [if_neg c0, if_neg (by omega)]
      exact core
  · rw [if_neg c]
    exact core
theorem mpf_add_eq (g : Gl) (F : Facts g) (n : Nat) {a b' b e prec sub : Int} (rnd : Str) (ha : a ≠ 0) (hb : b' ≠ 0) (hbb : (b.natAbs : Int) = b'.natAbs) (hs : Builtin.bitXor (sgn b) sub = sgn b') {d : V}
    (h : CallOK g (n + 3) 108 [.int (sgn (a + b')), .int (a + b').natAbs, .int e, .int (bits (a + b')), .int (if prec = 0 then (bits (a + b') : Int) else prec), .str rnd] d) :
    (mpf_add_b g F (n + 3)).1 ([num a e, num b e, .int prec, .str rnd, .int sub].map some ++ List.replicate 15 none) (fun _ => False) (fun r => r = d) := by
  have core := comb ha hb (K := KN g n e prec rnd d) (KN.of h) (s1 := sgn a) (s2 := sgn b') (xa := (a.natAbs : Int)) (ya := (b.natAbs : Int)) rfl rfl rfl hbb
  simp only [mpf_add_b, num_eq]
  walk_at "mRun"
  rw [hs, if_neg (by omega), if_neg (by omega), if_pos (by omega)]
  exact core
end Mine

namespace Mine
open PySem.Calls
local macro_rules | `(tactic| walk_at "mRun") => `(tactic| simp only [sSeq, sIf, sRet, sAsg, sAsgT, sAsgR, sAug, sNil, sAsrt, eLoc, eCst, eBin, eCmp, eUn, eAnd, eOr, eIf, eCall, eTup, eLst, eSub, eSubT, eTab, eBitLen, eInt, eIsInt, eLen, eMax, eMin, lNil, lCons, tPlain, tNot, tTrue, tFalse, tAnd, tOr,
  binP_add, binP_sub, binP_mul, binP_fdiv, binP_mod, binP_pow, binP_shl, binP_shr, binP_and, binP_xor, cmpP_eq, cmpP_ne, cmpP_lt, cmpP_le, cmpP_gt, cmpP_ge, cmpP_eqs, cmpP_nes, cmpP_ins, cmpP_eqb, cmpP_neb, cmpP_eqt, cmpP_net, cmpP_nin, unP_neg, unP_not, subP_tup, subP_lst, subTP_tup, truthyP_int, truthyP_bool, unpackP_tup, setAll, getP_zero, getP_succ, set_zero, set_succ, ex_int, ite_dec, ite_bne, ite_beq, ite_not, List.map_cons, List.map_nil, List.cons_append, List.nil_append, List.replicate_succ, List.replicate_zero, List.length_cons, List.length_nil, List.reverse_cons, List.reverse_nil, Nat.reduceAdd, Nat.reduceSub, true_and, and_true, if_true, if_false, ite_true, ite_false])

theorem mpf_add_binds5 (g : Gl) (F : Facts g) {d1 d2 d3 d4 d5 : V} : Binds g fi_mpf_add (dfn 38).1 (dfn 38).2.1 (.ref 185) [Str.ofString "s", Str.ofString "t", Str.ofString "prec", Str.ofString "rnd", Str.ofString "_sub"] [d1, d2, d3, d4, d5] [d1, d2, d3, d4, d5] := by
  intro s xs name doc pm an ct hK hx
  obtain ⟨v1, v2, v3, v4, v5, rfl, r1, r2, r3, r4, r5⟩ := rows_inv5 hx
  obtain ⟨t, u, v, n, o, h1, h2⟩ := F.d_185
  exact ⟨[v1, v2, v3, v4, v5], .cons r1 (.cons r2 (.cons r3 (.cons r4 (.cons r5 .nil)))), binds_K hK rfl h1 h2 rfl rfl⟩
theorem mpf_add_binds2 (g : Gl) (F : Facts g) {d1 d2 : V} : Binds g fi_mpf_add (dfn 38).1 (dfn 38).2.1 (.ref 185) [Str.ofString "s", Str.ofString "t", Str.ofString "prec", Str.ofString "rnd", Str.ofString "_sub"] [d1, d2] [d1, d2, .int 0, sd, .int 0] := by
  intro s xs name doc pm an ct hK hx
  obtain ⟨v1, v2, rfl, r1, r2⟩ := rows_inv2 hx
  obtain ⟨t, u, v, n, o, h1, h2⟩ := F.d_185
  exact ⟨[v1, v2, .int 0 t, .str _ u, .int 0 v], .cons r1 (.cons r2 (.cons (.int _ _) (.cons (.str _ _) (.cons (.int _ _) .nil)))), binds_K hK rfl h1 h2 rfl rfl⟩
theorem mpf_add_of5 (g : Gl) (F : Facts g) (n : Nat) {d1 d2 d3 d4 d5 d : V} (h : (mpf_add_b g F (n + 3)).1 ([d1, d2, d3, d4, d5].map some ++ List.replicate 15 none) (fun _ => False) (fun r => r = d)) : CallOK g (n + 4) 192 [d1, d2, d3, d4, d5] d := by
  refine callOK_of (ps := [Str.ofString "s", Str.ofString "t", Str.ofString "prec", Str.ofString "rnd", Str.ofString "_sub"]) F.fn_mpf_add (mpf_add_binds5 g F) rfl rfl (mpf_add_b g F (n + 3)).2 ?_
  intro z hz
  have : z = 15 := hz
  subst this
  exact h
theorem mpf_add_of2 (g : Gl) (F : Facts g) (n : Nat) {d1 d2 d : V} (h : (mpf_add_b g F (n + 3)).1 ([d1, d2, .int 0, sd, .int 0].map some ++ List.replicate 15 none) (fun _ => False) (fun r => r = d)) : CallOK g (n + 4) 192 [d1, d2] d := by
  refine callOK_of (ps := [Str.ofString "s", Str.ofString "t", Str.ofString "prec", Str.ofString "rnd", Str.ofString "_sub"]) F.fn_mpf_add (mpf_add_binds2 g F) rfl rfl (mpf_add_b g F (n + 3)).2 ?_
  intro z hz
  have : z = 15 := hz
  subst this
  exact h
theorem normalize_self (g : Gl) (F : Facts g) (n : Nat) (S e : Int) (rnd : Str) : CallOK g (n + 3) 108 [.int (sgn S), .int S.natAbs, .int e, .int (bits S), .int (if (0 : Int) = 0 then (bits S : Int) else 0), .str rnd] (norm S e) := by
  rw [if_pos rfl]
  by_cases h : S = 0
  · subst h
    rw [norm_zero]
    exact normalize_zero g F n _ _ _ _
  · exact normalize_exact g F n h e _ (Int.le_refl _) rnd
/-- the sum of two numbers in their form -/
theorem mpf_add_num (g : Gl) (F : Facts g) (n : Nat) {a e b f : Int} (hc : Cn a e) (hc' : Cn b f) (hsz : (bits a : Int) + (e - f) ≤ 2 ^ 27) (hsz' : (bits b : Int) + (f - e) ≤ 2 ^ 27) :
    CallOK g (n + 4) 192 [num a e, num b f] (if a = 0 then num b f else if b = 0 then num a e else if f ≤ e then norm (a * 2 ^ (e - f).toNat + b) f else norm (a + b * 2 ^ (-(e - f)).toNat) e) := by
  refine mpf_add_of2 g F n ?_
  by_cases ha : a = 0
  · rw [if_pos ha]
    have := cn_exp hc ha
    subst ha; subst this
    simp only [mpf_add_b, num_eq]
    walk_at "mRun"
    have z0 : ((Int.natAbs 0 : Nat) : Int) = 0 := rfl
    rw [xor_sub0]
    by_cases hb : b = 0
    · have := cn_exp hc' hb
      subst hb; subst this
      simp only [z0, if_true, if_false, Bool.false_eq_true]
    · have hb' : ((b.natAbs : Nat) : Int) ≠ 0 := by omega
      simp only [z0, hb', if_true, if_false, Bool.false_eq_true]
      have := normalize_exact g F n hb f (bits b) (Int.le_refl _) (Str.ofString "d")
      rw [hc'.norm] at this
      exact ⟨_, this, rfl⟩
  · rw [if_neg ha]
    by_cases hb : b = 0
    · rw [if_pos hb]
      have := cn_exp hc' hb
      subst hb; subst this
      simp only [mpf_add_b, num_eq]
      walk_at "mRun"
      have z0 : ((Int.natAbs 0 : Nat) : Int) = 0 := rfl
      have ha' : ((a.natAbs : Nat) : Int) ≠ 0 := by omega
      simp only [z0, ha', if_true, if_false, Bool.false_eq_true]
      have := normalize_exact g F n ha e (bits a) (Int.le_refl _) (Str.ofString "d")
      rw [hc.norm] at this
      exact ⟨_, this, rfl⟩
    · rw [if_neg hb]
      by_cases h : f ≤ e
      · rw [if_pos h]
        by_cases h' : e = f
        · subst h'
          have e0 : a * 2 ^ (e - e).toNat = a := by simp
          rw [e0]
          exact mpf_add_eq g F n (Str.ofString "d") ha hb rfl (xor_sub0 b) (normalize_self g F n _ _ _)
        · exact mpf_add_gt g F n (Str.ofString "d") ha hb rfl (xor_sub0 b) (by omega) (.inl rfl) hsz (normalize_self g F n _ _ _)
      · rw [if_neg h]
        exact mpf_add_lt g F n (Str.ofString "d") ha hb rfl (xor_sub0 b) (by omega) (.inl rfl) hsz' (normalize_self g F n _ _ _)
theorem p2_split {a b : Int} (h : b ≤ a) (hb : 0 ≤ b) : p2 a = 2 ^ (a - b).toNat * p2 b := by
  rw [show (2 : Int) ^ (a - b).toNat = p2 (a - b) from rfl, ← p2_add (by omega) hb]
  congr 1; omega
theorem mpf_add_ok (g : Gl) (F : Facts g) (n : Nat) (A k B l N : Int) (hk : 0 ≤ k + N) (hl : 0 ≤ l + N) (b1 : bits A ≤ 2 ^ 20) (b2 : bits B ≤ 2 ^ 20) (b3 : -(2 ^ 20) ≤ k) (b4 : k ≤ 2 ^ 20) (b5 : -(2 ^ 20) ≤ l) (b6 : l ≤ 2 ^ 20) :
    CallOK g (n + 4) 192 [norm A k, norm B l] (norm (A * p2 (k + N) + B * p2 (l + N)) (-N)) := by
  obtain ⟨a, e, h1, hc, h3, h4, h5, _, h7⟩ := norm_num A k
  obtain ⟨b, f, h1', hc', h3', h4', h5', _, h7'⟩ := norm_num B l
  rw [h1, h1']
  have ee : e = 0 ∨ (k ≤ e ∧ e ≤ k + bits A) := by
    by_cases c : a = 0
    · exact .inl (cn_exp hc c)
    · have := h5 c; right; omega
  have ff : f = 0 ∨ (l ≤ f ∧ f ≤ l + bits B) := by
    by_cases c : b = 0
    · exact .inl (cn_exp hc' c)
    · have := h5' c; right; omega
  have key := mpf_add_num g F n hc hc' (by omega) (by omega)
  have hr : (if a = 0 then num b f else if b = 0 then num a e else if f ≤ e then norm (a * 2 ^ (e - f).toNat + b) f else norm (a + b * 2 ^ (-(e - f)).toNat) e) = norm (A * p2 (k + N) + B * p2 (l + N)) (-N) := by
    by_cases ha : a = 0
    · rw [if_pos ha]
      have hA : A = 0 := h7.mp ha
      rw [hA, Int.zero_mul, Int.zero_add, ← h1']
      refine (Sm.of (N := N + (N.natAbs : Int)) (by omega) (by omega) ?_).norm
      rw [show -N + (N + (N.natAbs : Int)) = (N.natAbs : Int) from by omega, show l + (N + (N.natAbs : Int)) = (l + N) + (N.natAbs : Int) from by omega, p2_add hl (by omega), Int.mul_assoc]
    · rw [if_neg ha]
      have hke := h5 ha
      by_cases hb : b = 0
      · rw [if_pos hb]
        have hB : B = 0 := h7'.mp hb
        rw [hB, Int.zero_mul, Int.add_zero, ← h1]
        refine (Sm.of (N := N + (N.natAbs : Int)) (by omega) (by omega) ?_).norm
        rw [show -N + (N + (N.natAbs : Int)) = (N.natAbs : Int) from by omega, show k + (N + (N.natAbs : Int)) = (k + N) + (N.natAbs : Int) from by omega, p2_add hk (by omega), Int.mul_assoc]
      · rw [if_neg hb]
        have hlf := h5' hb
        have t1 := h3 N hk (by omega)
        have t2 := h3' N hl (by omega)
        rw [t1, t2]
        by_cases c : f ≤ e
        · rw [if_pos c]
          refine (Sm.of (N := N) (by omega) (by omega) ?_).norm
          rw [show -N + N = 0 from by omega, p2_zero, Int.mul_one, Int.add_mul, p2_split (a := e + N) (b := f + N) (by omega) (by omega), show e + N - (f + N) = e - f from by omega, Int.mul_assoc]
        · rw [if_neg c]
          refine (Sm.of (N := N) (by omega) (by omega) ?_).norm
          rw [show -N + N = 0 from by omega, p2_zero, Int.mul_one, Int.add_mul, p2_split (a := f + N) (b := e + N) (by omega) (by omega), show f + N - (e + N) = -(e - f) from by omega, Int.mul_assoc b]
  rw [← hr]
  exact key
theorem mpf_sub_of (g : Gl) (F : Facts g) (n : Nat) {d1 d2 d3 d4 d : V} (h : CallOK g (n + 4) 192 [d1, d2, d3, d4, .int 1] d) : CallOK g (n + 5) 200 [d1, d2, d3, d4] d := by
  refine callOK_of (ps := [Str.ofString "s", Str.ofString "t", Str.ofString "prec", Str.ofString "rnd"]) (ds := [d1, d2, d3, d4]) F.fn_mpf_sub ?_ rfl rfl (mpf_sub_b g F (n + 4)).2 ?_
  · intro s xs name doc pm an ct hK hx
    obtain ⟨v1, v2, v3, v4, rfl, r1, r2, r3, r4⟩ := rows_inv4 hx
    obtain ⟨t, u, v, n, o, h1, h2⟩ := F.d_193
    exact ⟨[v1, v2, v3, v4], .cons r1 (.cons r2 (.cons r3 (.cons r4 .nil))), binds_K hK rfl h1 h2 rfl rfl⟩
  intro z hz
  have : z = 1 := hz
  subst this
  simp only [mpf_sub_b]
  walk_at "mRun"
  exact ⟨_, h, rfl⟩
/-- a difference to five digits keeps its sign -/
theorem norm5 (g : Gl) (F : Facts g) (n : Nat) {S : Int} (hS : S ≠ 0) (e : Int) : ∃ c h, CallOK g (n + 3) 108 [.int (sgn S), .int S.natAbs, .int e, .int (bits S), .int (if (5 : Int) = 0 then (bits S : Int) else 5), sf] (num c h) ∧ (c < 0 ↔ S < 0) := by
  rw [if_neg (by decide)]
  by_cases c : (bits S : Int) ≤ 5
  · obtain ⟨a, h, h1, _, _, _, _, h6, _⟩ := norm_num S e
    exact ⟨a, h, h1 ▸ normalize_exact g F n hS e 5 c _, h6⟩
  · have key := normalize_floor g F n hS e 5 (by decide) (by omega) (Str.ofString "f") (.inl rfl)
    obtain ⟨r1, r2, _⟩ := round_bits hS (prec := 5) (by decide) (by omega)
    obtain ⟨a, h, h1, _, _, _, _, h6, _⟩ := norm_num (fx S (-((bits S : Int) - 5))) (e + ((bits S : Int) - 5))
    refine ⟨a, h, h1 ▸ key, h6.trans ?_⟩
    constructor
    · intro q
      rcases Int.lt_or_le S 0 with c | c
      · exact c
      · have := r1 (by omega); omega
    · exact r2
theorem sub_sign (g : Gl) (F : Facts g) (n : Nat) {a e b f : Int} (hc : Cn a e) (hc' : Cn b f) (ha : a ≠ 0) (hb : b ≠ 0) (hef : e ≠ f) (hm : (bits a : Int) + e = bits b + f) (hsz : (bits a : Int) + (e - f) ≤ 2 ^ 27) (hsz' : (bits b : Int) + (f - e) ≤ 2 ^ 27)
    {N : Int} (he : 0 ≤ e + N) (hf : 0 ≤ f + N) : ∃ c h, CallOK g (n + 5) 200 [num a e, num b f, .int 5, sf] (num c h) ∧ (c < 0 ↔ a * p2 (e + N) < b * p2 (f + N)) ∧ a * p2 (e + N) ≠ b * p2 (f + N) := by
  have oa := cn_odd hc ha
  have ob := cn_odd hc' hb
  rcases Int.lt_or_lt_of_ne hef with c | c
  · have hS : a + (-b) * 2 ^ (-(e - f)).toNat ≠ 0 := fun q => by
      have := pow_mod_two (a := -b) (t := (-(e - f)).toNat) (by omega)
      omega
    obtain ⟨x, h, h1, h2⟩ := norm5 g F n hS e
    have hv : (a + (-b) * 2 ^ (-(e - f)).toNat) * p2 (e + N) = a * p2 (e + N) - b * p2 (f + N) := by
      rw [Int.add_mul, p2_split (a := f + N) (b := e + N) (by omega) (by omega), show f + N - (e + N) = -(e - f) from by omega, Int.neg_mul, Int.neg_mul, Int.mul_assoc b]
      omega
    have hp := p2_pos (e + N)
    refine ⟨x, h, mpf_sub_of g F n (mpf_add_of5 g F n (mpf_add_lt g F n (b' := -b) (Str.ofString "f") ha (by omega) (by omega) (xor_sub1 hb) c (.inr ⟨by decide, hm⟩) hsz' h1)), h2.trans ?_, ?_⟩
    · constructor
      · intro q; have := Int.mul_neg_of_neg_of_pos q hp; omega
      · intro q
        rcases Int.lt_or_le (a + (-b) * 2 ^ (-(e - f)).toNat) 0 with c | c
        · exact c
        · have := Int.mul_nonneg c (Int.le_of_lt hp); omega
    · intro q
      rcases Int.mul_eq_zero.mp (show (a + (-b) * 2 ^ (-(e - f)).toNat) * p2 (e + N) = 0 by omega) with q | q
      · exact hS q
      · omega
  · have hS : a * 2 ^ (e - f).toNat + (-b) ≠ 0 := fun q => by
      have := pow_mod_two (a := a) (t := (e - f).toNat) (by omega)
      omega
    obtain ⟨x, h, h1, h2⟩ := norm5 g F n hS f
    have hv : (a * 2 ^ (e - f).toNat + (-b)) * p2 (f + N) = a * p2 (e + N) - b * p2 (f + N) := by
      rw [Int.add_mul, p2_split (a := e + N) (b := f + N) (by omega) (by omega), show e + N - (f + N) = e - f from by omega, Int.neg_mul, Int.mul_assoc a]
      omega
    have hp := p2_pos (f + N)
    refine ⟨x, h, mpf_sub_of g F n (mpf_add_of5 g F n (mpf_add_gt g F n (b' := -b) (Str.ofString "f") ha (by omega) (by omega) (xor_sub1 hb) c (.inr ⟨by decide, hm⟩) hsz h1)), h2.trans ?_, ?_⟩
    · constructor
      · intro q; have := Int.mul_neg_of_neg_of_pos q hp; omega
      · intro q
        rcases Int.lt_or_le (a * 2 ^ (e - f).toNat + (-b)) 0 with c | c
        · exact c
        · have := Int.mul_nonneg c (Int.le_of_lt hp); omega
    · intro q
      rcases Int.mul_eq_zero.mp (show (a * 2 ^ (e - f).toNat + (-b)) * p2 (f + N) = 0 by omega) with q | q
      · exact hS q
      · omega
end Mine

namespace Mine
open PySem.Calls
local macro_rules | `(tactic| walk_at "mRun") => `(tactic| simp only [sSeq, sIf, sRet, sAsg, sAsgT, sAsgR, sAug, sNil, sAsrt, eLoc, eCst, eBin, eCmp, eUn, eAnd, eOr, eIf, eCall, eTup, eLst, eSub, eSubT, eTab, eBitLen, eInt, eIsInt, eLen, eMax, eMin, lNil, lCons, tPlain, tNot, tTrue, tFalse, tAnd, tOr,
  binP_add, binP_sub, binP_mul, binP_fdiv, binP_mod, binP_pow, binP_shl, binP_shr, binP_and, binP_xor, cmpP_eq, cmpP_ne, cmpP_lt, cmpP_le, cmpP_gt, cmpP_ge, cmpP_eqs, cmpP_nes, cmpP_ins, cmpP_eqb, cmpP_neb, cmpP_eqt, cmpP_net, cmpP_nin, unP_neg, unP_not, subP_tup, subP_lst, subTP_tup, truthyP_int, truthyP_bool, unpackP_tup, setAll, getP_zero, getP_succ, set_zero, set_succ, ex_int, ite_dec, ite_bne, ite_beq, ite_not, List.map_cons, List.map_nil, List.cons_append, List.nil_append, List.replicate_succ, List.replicate_zero, List.length_cons, List.length_nil, List.reverse_cons, List.reverse_nil, Nat.reduceAdd, Nat.reduceSub, true_and, and_true, if_true, if_false, ite_true, ite_false])

theorem eqv4 (s m e b i j k l : Int) : PyData.eqv (.tuple [.int s, .int m, .int e, .int b]) (.tuple [.int i, .int j, .int k, .int l]) = decide (s = i ∧ m = j ∧ e = k ∧ b = l) := by
  rw [eqv_tup]
  simp only [PyData.eqvAll, PyData.eqv]
  by_cases h1 : s = i <;> by_cases h2 : m = j <;> by_cases h3 : e = k <;> by_cases h4 : b = l <;> simp [h1, h2, h3, h4]
def cmpI (x y : Int) : Int := if x < y then -1 else if y < x then 1 else 0
theorem cmpI_lt {x y : Int} (h : x < y) : cmpI x y = -1 := if_pos h
theorem cmpI_gt {x y : Int} (h : y < x) : cmpI x y = 1 := by unfold cmpI; rw [if_neg (by omega), if_pos h]
theorem cmpI_eq {x y : Int} (h : x = y) : cmpI x y = 0 := by unfold cmpI; rw [if_neg (by omega), if_neg (by omega)]
theorem mag_lt {a b e f N : Int} (hb : b ≠ 0) (h : (bits a : Int) + e < bits b + f) (he : 0 ≤ e + N) (hf : 0 ≤ f + N) : (a.natAbs : Int) * p2 (e + N) < b.natAbs * p2 (f + N) := by
  have cst : ∀ k : Nat, ((2 ^ k : Nat) : Int) = p2 k := fun k => by unfold p2; push_cast; rfl
  have h1 : (a.natAbs : Int) < p2 (bits a : Nat) := by rw [← cst]; exact Int.ofNat_lt.mpr (lt_bits a)
  have h2 : p2 ((bits b - 1 : Nat) : Int) ≤ b.natAbs := by rw [← cst]; exact Int.ofNat_le.mpr (bits_ge hb)
  have h3 := bits_pos hb
  have a1 := Int.mul_lt_mul_of_pos_right h1 (p2_pos (e + N))
  have a2 := Int.mul_le_mul_of_nonneg_right h2 (Int.le_of_lt (p2_pos (f + N)))
  rw [← p2_add (by omega) he] at a1
  rw [← p2_add (by omega) hf] at a2
  have a3 : p2 ((bits a : Nat) + (e + N)) ≤ p2 (((bits b - 1 : Nat) : Int) + (f + N)) := by
    rw [p2_split (a := ((bits b - 1 : Nat) : Int) + (f + N)) (b := (bits a : Nat) + (e + N)) (by omega) (by omega)]
    have := p2_pos ((bits a : Nat) + (e + N))
    have h5 : (1 : Int) ≤ 2 ^ (((bits b - 1 : Nat) : Int) + (f + N) - ((bits a : Nat) + (e + N))).toNat := Int.pow_pos (by decide)
    have := Int.mul_le_mul_of_nonneg_right h5 (Int.le_of_lt this)
    omega
  omega
theorem mul_abs {a P : Int} (hP : 0 < P) : (0 < a → a * P = (a.natAbs : Int) * P ∧ 0 < a * P) ∧ (a < 0 → a * P = -((a.natAbs : Int) * P) ∧ a * P < 0) := by
  constructor
  · intro h
    have : (a.natAbs : Int) = a := by omega
    rw [this]
    exact ⟨rfl, Int.mul_pos h hP⟩
  · intro h
    have : (a.natAbs : Int) = -a := by omega
    rw [this, Int.neg_mul, Int.neg_neg]
    exact ⟨rfl, Int.mul_neg_of_neg_of_pos h hP⟩
theorem mpf_cmp_num (g : Gl) (F : Facts g) (n : Nat) {a e b f N : Int} (hc : Cn a e) (hc' : Cn b f) (hsz : (bits a : Int) + (e - f) ≤ 2 ^ 27) (hsz' : (bits b : Int) + (f - e) ≤ 2 ^ 27) (he : a ≠ 0 → 0 ≤ e + N) (hf : b ≠ 0 → 0 ≤ f + N) :
    CallOK g (n + 6) 161 [num a e, num b f] (.int (cmpI (a * p2 (e + N)) (b * p2 (f + N)))) := by
  refine callOK_of (ps := [Str.ofString "s", Str.ofString "t"]) F.fn_mpf_cmp (binds2 fun _ _ _ _ _ _ _ _ => BindsTo.of_eq rfl) rfl rfl (mpf_cmp_b g F (n + 5)).2 ?_
  intro z hz
  have : z = 18 := hz
  subst this
  have hP := p2_pos (e + N)
  have hQ := p2_pos (f + N)
  obtain ⟨ap, am⟩ := mul_abs (a := a) hP
  obtain ⟨bp, bm⟩ := mul_abs (a := b) hQ
  have sb := mpf_sign_ok g F (n + 4) b f hc'
  have sa := mpf_sign_ok g F (n + 4) a e hc
  simp only [mpf_cmp_b, num_eq]
  walk_at "mRun"
  simp only [eqv4, ite_dec]
  rw [num_eq] at sa sb
  by_cases ha : a = 0
  · have he0 := cn_exp hc ha
    have z0 : (a.natAbs : Int) = 0 := by omega
    have z1 : sgn a = 0 := sgn_pos (by omega)
    have z2 : ((bits a : Nat) : Int) = 0 := by rw [ha]; rfl
    rw [if_pos z0]
    refine ⟨shaped4 _ _ _ _, shaped4 _ _ _ _, ?_⟩
    rw [if_pos ⟨z1, z0, he0, z2⟩]
    refine ⟨_, sb, ?_⟩
    rw [unP_neg, ha, Int.zero_mul]
    by_cases hb : b = 0
    · rw [if_pos hb, hb, Int.zero_mul, cmpI_eq rfl]; rfl
    · rw [if_neg hb]
      by_cases q : b < 0
      · rw [if_pos q, cmpI_gt (bm q).2]; rfl
      · rw [if_neg q, cmpI_lt (bp (by omega)).2]
  · rw [if_neg (by omega)]
    by_cases hb : b = 0
    · have hf0 := cn_exp hc' hb
      have z0 : (b.natAbs : Int) = 0 := by omega
      have z1 : sgn b = 0 := sgn_pos (by omega)
      have z2 : ((bits b : Nat) : Int) = 0 := by rw [hb]; rfl
      rw [if_pos z0]
      refine ⟨shaped4 _ _ _ _, shaped4 _ _ _ _, ?_⟩
      rw [if_neg (fun q => by have := q.2.1; omega)]
      refine ⟨shaped4 _ _ _ _, shaped4 _ _ _ _, ?_⟩
      rw [if_pos ⟨z1, z0, hf0, z2⟩]
      refine ⟨_, sa, ?_⟩
      rw [if_neg ha, hb, Int.zero_mul]
      by_cases q : a < 0
      · rw [if_pos q, cmpI_lt (am q).2]
      · rw [if_neg q, cmpI_gt (ap (by omega)).2]
    · rw [if_neg (by omega)]
      simp only [Bool.false_eq_true, if_false]
      have he' := he ha
      have hf' := hf hb
      by_cases qa : a < 0 <;> by_cases qb : b < 0
      · -- both below
        obtain ⟨am1, am2⟩ := am qa
        obtain ⟨bm1, bm2⟩ := bm qb
        simp only [sgn_neg qa, sgn_neg qb, if_true]
        have o1 : ((1 : Int) = 0) = False := by decide
        simp only [o1, if_false]
        by_cases hef : e = f
        · subst hef
          rw [if_pos rfl]
          by_cases hm : (a.natAbs : Int) = b.natAbs
          · rw [if_pos hm, cmpI_eq (by rw [am1, bm1, hm])]
          · rw [if_neg hm]
            by_cases hg : (b.natAbs : Int) < a.natAbs
            · have := Int.mul_lt_mul_of_pos_right hg hP
              rw [if_pos hg, cmpI_lt (by omega)]
            · have := Int.mul_lt_mul_of_pos_right (show (a.natAbs : Int) < b.natAbs by omega) hP
              rw [if_neg hg, cmpI_gt (by omega)]
        · rw [if_neg hef]
          by_cases h1 : (bits a : Int) + e < bits b + f
          · have := mag_lt hb h1 he' hf'
            rw [if_pos h1, cmpI_gt (by omega)]
          · rw [if_neg h1]
            by_cases h2 : (bits b : Int) + f < bits a + e
            · have := mag_lt ha h2 hf' he'
              rw [if_pos h2, cmpI_lt (by omega)]
            · rw [if_neg h2]
              obtain ⟨c, h, q1, q2, q3⟩ := sub_sign g F n hc hc' ha hb hef (by omega) hsz hsz' he' hf'
              simp only [num_eq, sgn_neg qa, sgn_neg qb] at q1
              refine ⟨_, q1, ?_⟩
              walk_at "mRun"
              refine ⟨_, by decide, by decide, rfl, ?_⟩
              walk_at "mRun"
              by_cases hcn : c < 0
              · rw [sgn_neg hcn, if_neg (by decide), cmpI_lt (q2.mp hcn)]
              · have q4 : ¬ a * p2 (e + N) < b * p2 (f + N) := fun q => hcn (q2.mpr q)
                rw [sgn_pos hcn, if_pos rfl, cmpI_gt (by omega)]
      · obtain ⟨am1, am2⟩ := am qa
        obtain ⟨bm1, bm2⟩ := bp (by omega)
        simp only [sgn_neg qa, sgn_pos qb]
        rw [if_neg (by decide), if_neg (by decide), cmpI_lt (by omega)]
      · obtain ⟨am1, am2⟩ := ap (by omega)
        obtain ⟨bm1, bm2⟩ := bm qb
        simp only [sgn_pos qa, sgn_neg qb]
        rw [if_neg (by decide), if_pos trivial, cmpI_gt (by omega)]
      · obtain ⟨am1, am2⟩ := ap (by omega)
        obtain ⟨bm1, bm2⟩ := bp (by omega)
        simp only [sgn_pos qa, sgn_pos qb, if_true]
        by_cases hef : e = f
        · subst hef
          rw [if_pos rfl]
          by_cases hm : (a.natAbs : Int) = b.natAbs
          · rw [if_pos hm, cmpI_eq (by rw [am1, bm1, hm])]
          · rw [if_neg hm]
            by_cases hg : (b.natAbs : Int) < a.natAbs
            · have := Int.mul_lt_mul_of_pos_right hg hP
              rw [if_pos hg, cmpI_gt (by omega)]
            · have := Int.mul_lt_mul_of_pos_right (show (a.natAbs : Int) < b.natAbs by omega) hP
              rw [if_neg hg, cmpI_lt (by omega)]
        · rw [if_neg hef]
          by_cases h1 : (bits a : Int) + e < bits b + f
          · have := mag_lt hb h1 he' hf'
            rw [if_pos h1, cmpI_lt (by omega)]
          · rw [if_neg h1]
            by_cases h2 : (bits b : Int) + f < bits a + e
            · have := mag_lt ha h2 hf' he'
              rw [if_pos h2, cmpI_gt (by omega)]
            · rw [if_neg h2]
              obtain ⟨c, h, q1, q2, q3⟩ := sub_sign g F n hc hc' ha hb hef (by omega) hsz hsz' he' hf'
              simp only [num_eq, sgn_pos qa, sgn_pos qb] at q1
              refine ⟨_, q1, ?_⟩
              walk_at "mRun"
              refine ⟨_, by decide, by decide, rfl, ?_⟩
              walk_at "mRun"
              by_cases hcn : c < 0
              · rw [sgn_neg hcn, if_neg (by decide), cmpI_lt (q2.mp hcn)]
              · have q4 : ¬ a * p2 (e + N) < b * p2 (f + N) := fun q => hcn (q2.mpr q)
                rw [sgn_pos hcn, if_pos rfl, cmpI_gt (by omega)]
theorem mpf_cmp_ok (g : Gl) (F : Facts g) (n : Nat) (A k B l N : Int) (hk : 0 ≤ k + N) (hl : 0 ≤ l + N) (b1 : bits A ≤ 2 ^ 20) (b2 : bits B ≤ 2 ^ 20) (b3 : -(2 ^ 20) ≤ k) (b4 : k ≤ 2 ^ 20) (b5 : -(2 ^ 20) ≤ l) (b6 : l ≤ 2 ^ 20) :
    CallOK g (n + 6) 161 [norm A k, norm B l] (.int (cmpI (A * p2 (k + N)) (B * p2 (l + N)))) := by
  obtain ⟨a, e, h1, hc, h3, h4, h5, _, h7⟩ := norm_num A k
  obtain ⟨b, f, h1', hc', h3', h4', h5', _, h7'⟩ := norm_num B l
  have ee : e = 0 ∨ (k ≤ e ∧ e ≤ k + bits A) := by
    by_cases c : a = 0
    · exact .inl (cn_exp hc c)
    · have := h5 c; right; omega
  have ff : f = 0 ∨ (l ≤ f ∧ f ≤ l + bits B) := by
    by_cases c : b = 0
    · exact .inl (cn_exp hc' c)
    · have := h5' c; right; omega
  have key := mpf_cmp_num g F n (N := N) hc hc' (by omega) (by omega) (fun c => by have := h5 c; omega) (fun c => by have := h5' c; omega)
  have e1 : a * p2 (e + N) = A * p2 (k + N) := by
    by_cases c : a = 0
    · rw [c, h7.mp c, Int.zero_mul, Int.zero_mul]
    · exact (h3 N hk (by have := h5 c; omega)).symm
  have e2 : b * p2 (f + N) = B * p2 (l + N) := by
    by_cases c : b = 0
    · rw [c, h7'.mp c, Int.zero_mul, Int.zero_mul]
    · exact (h3' N hl (by have := h5' c; omega)).symm
  rw [h1, h1']
  rwa [e1, e2] at key
end Mine

namespace Mine
open PySem.Calls
local macro_rules | `(tactic| walk_at "mRun") => `(tactic| simp only [sSeq, sIf, sRet, sAsg, sAsgT, sAsgR, sAug, sNil, sAsrt, eLoc, eCst, eBin, eCmp, eUn, eAnd, eOr, eIf, eCall, eTup, eLst, eSub, eSubT, eTab, eBitLen, eInt, eIsInt, eLen, eMax, eMin, lNil, lCons, tPlain, tNot, tTrue, tFalse, tAnd, tOr,
  binP_add, binP_sub, binP_mul, binP_fdiv, binP_mod, binP_pow, binP_shl, binP_shr, binP_and, binP_xor, cmpP_eq, cmpP_ne, cmpP_lt, cmpP_le, cmpP_gt, cmpP_ge, cmpP_eqs, cmpP_nes, cmpP_ins, cmpP_eqb, cmpP_neb, cmpP_eqt, cmpP_net, cmpP_nin, unP_neg, unP_not, subP_tup, subP_lst, subTP_tup, truthyP_int, truthyP_bool, unpackP_tup, setAll, getP_zero, getP_succ, set_zero, set_succ, ex_int, ite_dec, ite_bne, ite_beq, ite_not, List.map_cons, List.map_nil, List.cons_append, List.nil_append, List.replicate_succ, List.replicate_zero, List.length_cons, List.length_nil, List.reverse_cons, List.reverse_nil, Nat.reduceAdd, Nat.reduceSub, true_and, and_true, if_true, if_false, ite_true, ite_false])

theorem fx_fx {M d j : Int} (hd : 0 ≤ d) (hj : j ≤ 0) : fx (fx M (-d)) j = fx M (j - d) := by
  refine (fx_char (N := -j) (by omega) (by omega)).mpr ?_
  rw [show j + -j = 0 from by omega, p2_zero, Int.mul_one]
  have h1 := fx_lo (A := M) (k := -d) (N := d) hd (by omega)
  have h2 := fx_hi (A := M) (k := -d) (N := d) hd (by omega)
  have h3 := fx_lo (A := M) (k := j - d) (N := d - j) (by omega) (by omega)
  have h4 := fx_hi (A := M) (k := j - d) (N := d - j) (by omega) (by omega)
  rw [show -d + d = 0 from by omega, p2_zero, Int.mul_one] at h1 h2
  rw [show j - d + (d - j) = 0 from by omega, p2_zero, Int.mul_one, show d - j = -j + d from by omega, p2_add (by omega) hd, ← Int.mul_assoc] at h3 h4
  have hp := p2_pos d
  constructor
  · have : fx M (j - d) * p2 (-j) * p2 d < (fx M (-d) + 1) * p2 d := by omega
    have := Int.lt_of_mul_lt_mul_right this (Int.le_of_lt hp)
    omega
  · have : fx M (-d) * p2 d < (fx M (j - d) + 1) * p2 (-j) * p2 d := by omega
    exact Int.lt_of_mul_lt_mul_right this (Int.le_of_lt hp)
theorem rt_shift {X r M D : Int} (hD : 0 ≤ D) (h : IsRt X r) (h' : IsRt (X * p2 (2 * D)) M) : fx M (-D) = r := by
  have hp := p2_pos D
  have e2 : p2 (2 * D) = p2 D * p2 D := by rw [← p2_add hD hD]; congr 1; omega
  have sq : ∀ y : Int, (y * p2 D) * (y * p2 D) = y * y * p2 (2 * D) := fun y => by
    rw [e2, Int.mul_assoc, Int.mul_left_comm (p2 D) y, ← Int.mul_assoc y y]
  refine (fx_char (N := D) hD (by omega)).mpr ?_
  rw [show -D + D = 0 from by omega, p2_zero, Int.mul_one]
  constructor
  · refine h'.le (Int.mul_nonneg h.1 (Int.le_of_lt hp)) ?_
    rw [sq]
    exact Int.mul_le_mul_of_nonneg_right h.2.1 (Int.le_of_lt (p2_pos _))
  · refine h'.lt (Int.mul_nonneg (by have := h.1; omega) (Int.le_of_lt hp)) ?_
    rw [sq]
    exact Int.mul_lt_mul_of_pos_right h.2.2 (p2_pos _)
theorem lt_p2 {a : Int} (h : 0 ≤ a) {k : Int} (hk : (bits a : Int) ≤ k) : a < p2 k := by
  have h1 := lt_bits a
  have h2 : (2 : Nat) ^ bits a ≤ 2 ^ k.toNat := Nat.pow_le_pow_right (by decide) (by omega)
  have h3 : ((2 ^ k.toNat : Nat) : Int) = p2 k := by unfold p2; push_cast; rfl
  omega
theorem bits_lt {a : Int} {k : Int} (h : 0 ≤ a) (hk : 0 ≤ k) (h1 : a < p2 k) : (bits a : Int) ≤ k := by
  have h3 : ((2 ^ k.toNat : Nat) : Int) = p2 k := by unfold p2; push_cast; rfl
  have := bits_le (a := a) (k := k.toNat) (by omega)
  omega
/-- what the root's number gives in units -/
def RootOf (a e Y z : Int) : Prop := 0 ≤ Y ∧ bits Y ≤ 2000 ∧ z ≤ e.natAbs + 1000 ∧ -(e.natAbs + 1000 : Int) ≤ z ∧ ∀ p X r, Sm a (e + 2 * p) X 0 → IsRt X r → bits X ≤ 700 → fx Y (z + p) = r
theorem root_of {m e' sh M : Int} (hm : 0 < m) (he : e' % 2 = 0) (hsh : sh % 2 = 0) (h0 : 804 ≤ (bits m : Int) + sh) (hs0 : 0 ≤ sh) (hM : IsRt (m * p2 sh) M) {p X r : Int} (hX : Sm m (e' + 2 * p) X 0) (hr : IsRt X r) (hb : bits X ≤ 700) :
    fx M ((e' - sh) / 2 + p) = r ∧ ∀ d, d = (bits M : Int) - 400 → (e' - sh) / 2 + d + p ≤ 0 := by
  obtain ⟨D, hD⟩ : ∃ D, D = -((e' - sh) / 2 + p) := ⟨_, rfl⟩
  have hX0 : 0 ≤ X := Int.le_trans (Int.mul_nonneg hr.1 hr.1) hr.2.1
  have hDD : 0 ≤ D := by
    rcases Int.lt_or_le D 0 with c | c
    · exfalso
      have e1 := hX 0 (by omega) (by decide)
      rw [Int.add_zero, show (0 : Int) + 0 = 0 from rfl, p2_zero, Int.mul_one] at e1
      have e2 := bits_mul_pow (a := m) (by omega) (e' + 2 * p).toNat
      have e3 : m * 2 ^ (e' + 2 * p).toNat = X := e1
      rw [e3] at e2
      omega
    · exact c
  have e1 := hX (2 * D) (by omega) (by omega)
  rw [show e' + 2 * p + 2 * D = sh from by omega, Int.zero_add] at e1
  rw [e1] at hM
  have key := rt_shift hDD hr hM
  rw [show -D = (e' - sh) / 2 + p from by omega] at key
  refine ⟨key, ?_⟩
  intro d hd
  have h1 : r < p2 350 := hr.lt (Int.le_of_lt (p2_pos _)) (by
    have := lt_p2 hX0 (k := 700) (by omega)
    have e : p2 700 = p2 350 * p2 350 := by rw [← p2_add (by decide) (by decide)]; rfl
    omega)
  have h2 : M < p2 (350 + D) := by
    have a1 := fx_hi (A := M) (k := -D) (N := D) hDD (by omega)
    rw [show -D + D = 0 from by omega, p2_zero, Int.mul_one, show -D = (e' - sh) / 2 + p from by omega, key] at a1
    have a2 := Int.mul_le_mul_of_nonneg_right (show r + 1 ≤ p2 350 by omega) (Int.le_of_lt (p2_pos D))
    rw [← p2_add (by decide) hDD] at a2
    omega
  have h3 := bits_lt hM.1 (by omega) h2
  omega
theorem rt_le {x s : Int} (hs : IsRt x s) : s ≤ x := by
  rcases Int.lt_or_le s 1 with c | c
  · have := hs.2.1; have := hs.1; have e : s = 0 := by omega
    subst e; omega
  · have := Int.mul_le_mul_of_nonneg_right c hs.1
    have := hs.2.1
    omega
theorem sqrt_tail (g : Gl) (F : Facts g) (n : Nat) (rnd : Str) (hr : rnd = Str.ofString "f" ∨ rnd = Str.ofString "d") {a e m e' sh : Int} (hm : 0 < m) (he : e' % 2 = 0) (hsh : sh % 2 = 0) (h0 : 804 ≤ (bits m : Int) + sh) (h9 : (bits m : Int) + sh ≤ 806) (hs0 : 0 ≤ sh) (hs1 : sh ≤ 806)
    (hae : ∀ p, Sm a (e + 2 * p) m (e' + 2 * p)) (hee : e' = e ∨ e' = e - 1) :
    ∃ M Y z, CallOK g (n + 4) 56 [.int (m * 2 ^ sh.toNat)] (.int M) ∧ CallOK g (n + 4) 116 [.int M, .int ((e' - sh).fdiv 2), .int 400, .str rnd] (norm Y z) ∧ RootOf a e Y z := by
  obtain ⟨M, hM⟩ := isRt_exists (m * p2 sh) (Int.mul_nonneg (Int.le_of_lt hm) (Int.le_of_lt (p2_pos _)))
  have hbm : bits (m * 2 ^ sh.toNat) = bits m + sh.toNat := bits_mul_pow (by omega) _
  have hpos : 0 < m * p2 sh := Int.mul_pos hm (p2_pos _)
  have hM1 : 1 ≤ M := hM.le (by decide) (by omega)
  have hMb : bits M ≤ 806 := by
    have := rt_le hM
    have := bits_mono (a := M) (b := m * 2 ^ sh.toNat) (by
      have e1 : m * 2 ^ sh.toNat = m * p2 sh := rfl
      rw [e1]; omega)
    omega
  have hdiv : (e' - sh).fdiv 2 = (e' - sh) / 2 := Int.fdiv_eq_ediv_of_nonneg _ (by decide)
  rw [hdiv]
  have hc := (isqrt_ok g F (n + 1) (m * p2 sh) M hM (by show bits (m * 2 ^ sh.toNat) ≤ _; omega)).mono (n := n + 4) (by omega)
  by_cases hb : (bits M : Int) ≤ 400
  · refine ⟨M, M, (e' - sh) / 2, hc, from_man_exp_prec g F n (by omega) _ 400 (by decide) rnd (normalize_exact g F n (by omega) _ 400 hb rnd), hM.1, by omega, by omega, by omega, ?_⟩
    intro p X r hX hr' hbX
    exact (root_of hm he hsh h0 hs0 hM ((hae p).symm.trans hX) hr' hbX).1
  · refine ⟨M, fx M (-((bits M : Int) - 400)), (e' - sh) / 2 + ((bits M : Int) - 400), hc, from_man_exp_prec g F n (by omega) _ 400 (by decide) rnd (normalize_floor g F n (by omega) _ 400 (by decide) (by omega) rnd (hr.imp id fun h => ⟨h, by omega⟩)), ?_, ?_, by omega, by omega, ?_⟩
    · have := (round_bits (A := M) (prec := 400) (by omega) (by decide) (by omega)).1 (by omega)
      omega
    · rcases (round_bits (A := M) (prec := 400) (by omega) (by decide) (by omega)).2.2 with h | h
      · omega
      · have hlt : (fx M (-((bits M : Int) - 400))).natAbs < 2 ^ 401 := by
          have e4 : ((2 ^ 400 : Nat) : Int) = 2 ^ (400 : Int).toNat := by push_cast; rfl
          have e5 : (2 : Nat) ^ 401 = 2 * 2 ^ 400 := rfl
          have e6 : 0 < (2 : Nat) ^ 400 := Nat.pow_pos (by decide)
          generalize (2 : Nat) ^ 400 = W at *
          rw [← e4] at h
          omega
        have := bits_le hlt
        omega
    · intro p X r hX hr' hbX
      obtain ⟨k1, k2⟩ := root_of hm he hsh h0 hs0 hM ((hae p).symm.trans hX) hr' hbX
      rw [fx_fx (by omega) (k2 _ rfl)]
      rw [← k1]
      congr 1
      omega
theorem mpf_sqrt_num (g : Gl) (F : Facts g) (n : Nat) (rnd : Str) (hr : rnd = Str.ofString "f" ∨ rnd = Str.ofString "d") {a e : Int} (hc : Cn a e) (ha : 0 ≤ a) (hb : bits a ≤ 700) :
    ∃ Y z, CallOK g (n + 5) 223 [num a e, .int 400, .str rnd] (norm Y z) ∧ RootOf a e Y z := by
  have hin : (!(Builtin.Str.occurrences (Str.ofString "fd") rnd 0 (Str.ofString "fd").length 1).isEmpty) = true := by
    rcases hr with rfl | rfl <;> decide +kernel
  have hin2 : (Builtin.Str.occurrences (Str.ofString "fd") rnd 0 (Str.ofString "fd").length 1).isEmpty = false := by simpa using hin
  have hok : IntMulOk 2 400 := IntMulOk.of_bits (by decide) (by decide)
  have build : ∀ Y z, (mpf_sqrt_b g F (n + 4)).1 ([num a e, .int 400, PyData.str rnd].map some ++ List.replicate 12 none) (fun _ => False) (fun r => r = norm Y z) → CallOK g (n + 5) 223 [num a e, .int 400, .str rnd] (norm Y z) := by
    intro Y z h
    refine callOK_of (ps := [Str.ofString "s", Str.ofString "prec", Str.ofString "rnd"]) (ds := [num a e, .int 400, .str rnd]) F.fn_mpf_sqrt ?_ rfl rfl (mpf_sqrt_b g F (n + 4)).2 ?_
    · intro s xs name doc pm an ct hK hx
      obtain ⟨v1, v2, v3, rfl, r1, r2, r3⟩ := rows_inv3 hx
      obtain ⟨t, u, v, n, o, h1, h2⟩ := F.d_216
      exact ⟨[v1, v2, v3], .cons r1 (.cons r2 (.cons r3 .nil)), binds_K hK rfl h1 h2 rfl rfl⟩
    intro z hz
    have : z = 12 := hz
    subst this
    exact h
  have hneg : ¬ a < 0 := by omega
  by_cases a0 : a = 0
  · have e0 := cn_exp hc a0
    subst a0; subst e0
    refine ⟨0, 0, build 0 0 ?_, Int.le_refl _, by decide, by decide, by decide, ?_⟩
    · rw [norm_zero]
      simp only [mpf_sqrt_b, num_eq]
      walk_at "mRun"
      have z0 : ((Int.natAbs 0 : Nat) : Int) = 0 := rfl
      have z1 : sgn 0 = 0 := rfl
      simp only [z0, z1, if_true]
    · intro p X r hX hr _
      have := hX (p.natAbs * 2 : Nat) (by omega) (by omega)
      rw [Int.zero_mul] at this
      have hX0 : X = 0 := by
        rcases Int.mul_eq_zero.mp this.symm with q | q
        · exact q
        · exact absurd q (Int.ne_of_gt (p2_pos _))
      rw [fx_zero]
      subst hX0
      have := hr.lt (s := 1) (by decide) (by decide)
      have := hr.1
      omega
  · have ho := cn_odd hc a0
    have habs : (a.natAbs : Int) = a := by omega
    have hbp := bits_pos a0
    have e1 : Builtin.bitAnd e 1 = e % 2 := bitAnd_one e
    by_cases he : e % 2 = 0
    · by_cases h1 : a = 1
      · subst h1
        have hnz := normalize_exact g F (n + 1) (A := 1) (by decide) (e.fdiv 2) 400 (by decide) rnd
        refine ⟨1, e.fdiv 2, build _ _ ?_, by decide, by decide, ?_, ?_, ?_⟩
        · simp only [mpf_sqrt_b, num_eq]
          walk_at "mRun"
          have z1 : sgn 1 = 0 := rfl
          have z2 : ((Int.natAbs 1 : Nat) : Int) = 1 := rfl
          rw [z1, z2] at hnz
          rw [e1, he]
          simp only [z1, z2, if_true]
          rw [if_neg (by decide)]
          exact ⟨by decide, by decide, _, hnz, rfl⟩
        · rw [Int.fdiv_eq_ediv_of_nonneg _ (by decide)]; omega
        · rw [Int.fdiv_eq_ediv_of_nonneg _ (by decide)]; omega
        · intro p X r hX hr _
          rw [Int.fdiv_eq_ediv_of_nonneg _ (by decide)]
          have hh : 0 ≤ e / 2 + p := by
            rcases Int.lt_or_le (e / 2 + p) 0 with c | c
            · exfalso
              have := hX (-(e + 2 * p)) (by omega) (by omega)
              rw [show e + 2 * p + -(e + 2 * p) = 0 from by omega, p2_zero, Int.zero_add] at this
              have h2 := pow_mod_two (a := X) (t := (-(e + 2 * p)).toNat) (by omega)
              have h3 : X * 2 ^ (-(e + 2 * p)).toNat = 1 := by
                have : X * p2 (-(e + 2 * p)) = 1 := by omega
                exact this
              omega
            · exact c
          have := hX 0 (by omega) (by decide)
          rw [Int.add_zero, Int.add_zero, p2_zero, Int.mul_one, Int.one_mul] at this
          rw [fx_pos hh, Int.one_mul]
          have key : IsRt X (p2 (e / 2 + p)) := by
            have hp := p2_pos (e / 2 + p)
            have e2 : p2 (e + 2 * p) = p2 (e / 2 + p) * p2 (e / 2 + p) := by rw [← p2_add hh hh]; congr 1; omega
            refine ⟨Int.le_of_lt hp, by omega, ?_⟩
            rw [Int.add_mul, Int.mul_add]
            omega
          exact key.unique hr
      · obtain ⟨sh, hsh⟩ : ∃ sh : Int, sh = (804 - (bits a : Int)) + (804 - (bits a : Int)) % 2 := ⟨_, rfl⟩
        obtain ⟨M, Y, z, c1, c2, c3⟩ := sqrt_tail g F n rnd hr (a := a) (e := e) (m := a) (e' := e) (sh := sh) (by omega) he (by omega) (by omega) (by omega) (by omega) (by omega) (fun p => Sm.refl _ _) (.inl rfl)
        refine ⟨Y, z, build _ _ ?_, c3⟩
        simp only [mpf_sqrt_b, num_eq]
        walk_at "mRun"
        simp only [sgn_pos hneg, if_true, habs, hin]
        rw [if_neg a0, e1, he, if_pos rfl, if_neg h1]
        refine ⟨hok, _, _, rfl, rfl, ?_⟩
        have ej : (if (2 * 400 - (bits a : Int) + 4) > 4 then (2 * 400 - (bits a : Int) + 4) else 4) + Builtin.bitAnd (if (2 * 400 - (bits a : Int) + 4) > 4 then (2 * 400 - (bits a : Int) + 4) else 4) 1 = sh := by
          rw [if_pos (by omega), bitAnd_one, hsh]
          omega
        simp only [ej, hin2, Bool.false_eq_true, if_false]
        refine ⟨by omega, by show (bits a : Int) + sh ≤ _; omega, _, c1, ?_⟩
        exact ⟨by decide, by decide, _, c2, rfl⟩
    · obtain ⟨sh, hsh⟩ : ∃ sh : Int, sh = (804 - ((bits a : Int) + 1)) + (804 - ((bits a : Int) + 1)) % 2 := ⟨_, rfl⟩
      have hb2 : bits (a * 2) = bits a + 1 := by
        have := bits_mul_pow a0 1
        simpa using this
      obtain ⟨M, Y, z, c1, c2, c3⟩ := sqrt_tail g F n rnd hr (a := a) (e := e) (m := a * 2) (e' := e - 1) (sh := sh) (by omega) (by omega) (by omega) (by omega) (by omega) (by omega) (by omega) (fun p N h1 h2 => by
        rw [show e + 2 * p + N = 1 + (e - 1 + 2 * p + N) from by omega, p2_add (by decide) h2, p2_one, Int.mul_assoc]) (.inr rfl)
      refine ⟨Y, z, build _ _ ?_, c3⟩
      simp only [mpf_sqrt_b, num_eq]
      walk_at "mRun"
      simp only [sgn_pos hneg, if_true, habs, hin]
      rw [if_neg a0, e1, if_neg he]
      refine ⟨by decide, by show (bits a : Int) + 1 ≤ _; omega, hok, _, _, rfl, rfl, ?_⟩
      have ej : (if (2 * 400 - ((bits a : Int) + 1) + 4) > 4 then (2 * 400 - ((bits a : Int) + 1) + 4) else 4) + Builtin.bitAnd (if (2 * 400 - ((bits a : Int) + 1) + 4) > 4 then (2 * 400 - ((bits a : Int) + 1) + 4) else 4) 1 = sh := by
        rw [if_pos (by omega), bitAnd_one, hsh]
        omega
      simp only [ej, hin2, Bool.false_eq_true, if_false]
      refine ⟨by omega, by show (bits (a * 2) : Int) + sh ≤ _; omega, _, c1, ?_⟩
      exact ⟨by decide, by decide, _, c2, rfl⟩
end Mine

namespace Mine
open PySem.Calls
local macro_rules | `(tactic| walk_at "mRun") => `(tactic| simp only [sSeq, sIf, sRet, sAsg, sAsgT, sAsgR, sAug, sNil, sAsrt, eLoc, eCst, eBin, eCmp, eUn, eAnd, eOr, eIf, eCall, eTup, eLst, eSub, eSubT, eTab, eBitLen, eInt, eIsInt, eLen, eMax, eMin, lNil, lCons, tPlain, tNot, tTrue, tFalse, tAnd, tOr,
  binP_add, binP_sub, binP_mul, binP_fdiv, binP_mod, binP_pow, binP_shl, binP_shr, binP_and, binP_xor, cmpP_eq, cmpP_ne, cmpP_lt, cmpP_le, cmpP_gt, cmpP_ge, cmpP_eqs, cmpP_nes, cmpP_ins, cmpP_eqb, cmpP_neb, cmpP_eqt, cmpP_net, cmpP_nin, unP_neg, unP_not, subP_tup, subP_lst, subTP_tup, truthyP_int, truthyP_bool, unpackP_tup, setAll, getP_zero, getP_succ, set_zero, set_succ, ex_int, ite_dec, ite_bne, ite_beq, ite_not, List.map_cons, List.map_nil, List.cons_append, List.nil_append, List.replicate_succ, List.replicate_zero, List.length_cons, List.length_nil, List.reverse_cons, List.reverse_nil, Nat.reduceAdd, Nat.reduceSub, true_and, and_true, if_true, if_false, ite_true, ite_false])

theorem to_fixed_norm (g : Gl) (F : Facts g) (n : Nat) (A k p : Int) (hb : bits A ≤ 2 ^ 20) (h1 : k + p ≤ 2 ^ 20) (h2 : p ≤ 2 ^ 20) : CallOK g (n + 1) 154 [norm A k, .int p] (.int (fx A (k + p))) := by
  obtain ⟨a, e, q1, hc, q3, q4, q5, _, q7⟩ := norm_num A k
  rw [q1, (q3.shift p).fx]
  refine to_fixed_ok g F n a e p ?_
  by_cases c : a = 0
  · have := cn_exp hc c
    omega
  · have := q5 c
    omega
theorem mpf_floor_norm (g : Gl) (F : Facts g) (n : Nat) (A k : Int) : CallOK g (n + 6) 147 [norm A k] (norm (fx A k) 0) := by
  obtain ⟨a, e, q1, hc, q3, q4, q5, _, q7⟩ := norm_num A k
  rw [q1, q3.fx]
  exact mpf_floor_ok g F n a e hc
theorem to_int_f_norm (g : Gl) (F : Facts g) (n : Nat) (A k : Int) (hb : bits A ≤ 2 ^ 20) (h1 : k ≤ 2 ^ 20) : CallOK g (n + 2) 132 [norm A k, sf] (.int (fx A k)) := by
  obtain ⟨a, e, q1, hc, q3, q4, q5, _, q7⟩ := norm_num A k
  rw [q1, q3.fx]
  refine to_int_f g F n a e hc ?_
  by_cases c : a = 0
  · have := cn_exp hc c
    omega
  · have := q5 c
    omega
theorem to_int_d_norm (g : Gl) (F : Facts g) (n : Nat) (A k : Int) (hA : 0 ≤ A) (hb : bits A ≤ 2 ^ 20) (h1 : k ≤ 2 ^ 20) : CallOK g (n + 2) 132 [norm A k] (.int (fx A k)) := by
  obtain ⟨a, e, q1, hc, q3, q4, q5, q6, q7⟩ := norm_num A k
  rw [q1, q3.fx]
  refine to_int_d g F n a e hc (by omega) ?_
  by_cases c : a = 0
  · have := cn_exp hc c
    omega
  · have := q5 c
    omega
theorem fx_floor {A j m : Int} (hm : 0 ≤ m) : fx (fx A j) (-m) = fx A (j - m) := by
  by_cases hj : 0 ≤ j
  · have : Sm (fx A j) (-m) A (j - m) := by
      refine Sm.of (N := m) (by omega) (by omega) ?_
      rw [show -m + m = 0 from by omega, p2_zero, Int.mul_one, fx_pos hj, show j - m + m = j from by omega]
      rfl
    exact this.fx
  · have := fx_fx (M := A) (d := -j) (j := -m) (by omega) (by omega)
    rw [Int.neg_neg] at this
    rw [this]
    congr 1; omega
theorem eqv_self (A k : Int) : ∃ l : List V, norm A k = .tuple l ∧ SeqAt.shaped (.tuple l) = true := by
  obtain ⟨a, e, q1, _⟩ := norm_num A k
  exact ⟨_, q1, shaped4 _ _ _ _⟩
theorem ne_same {A k B l : Int} {Q : V → Prop} (h : norm A k = norm B l) (q : Q (.bool false)) : cmpP .NotEq (norm A k) (norm B l) Q := by
  rw [h]
  obtain ⟨a, e, q1, _⟩ := norm_num B l
  rw [q1, num_eq, cmpP_net, eqv4]
  refine ⟨shaped4 _ _ _ _, shaped4 _ _ _ _, ?_⟩
  simpa using q
theorem ne_diff {A k B l : Int} {Q : V → Prop} (h : norm A k ≠ norm B l) (q : Q (.bool true)) : cmpP .NotEq (norm A k) (norm B l) Q := by
  obtain ⟨a, e, q1, _⟩ := norm_num A k
  obtain ⟨b, f, q2, _⟩ := norm_num B l
  rw [q1, q2] at h
  rw [q1, q2, num_eq, num_eq, cmpP_net, eqv4]
  refine ⟨shaped4 _ _ _ _, shaped4 _ _ _ _, ?_⟩
  have : ¬ (sgn a = sgn b ∧ (a.natAbs : Int) = b.natAbs ∧ e = f ∧ (bits a : Int) = bits b) := fun w => by
    apply h
    rw [num_eq, num_eq, w.1, w.2.1, w.2.2.1, w.2.2.2]
  simpa [this] using q
theorem law_mixed_ok (g : Gl) (F : Facts g) (n : Nat) (ns : List Int) (hns : ns.length ≤ 63) (k : Int) (hk : 0 ≤ k) (hk2 : k ≤ 10) : ∃ v, 0 ≤ v ∧ CallOK g (n + 1) 230 [.list (ns.map PyData.int), .int k] (.int v) := by
  obtain ⟨x, hx⟩ : ∃ x, x = if k < (ns.length : Int) then ns.getD k.toNat 0 else 0 := ⟨_, rfl⟩
  have h190 : (0 : Int) < 2 ^ Int.toNat 190 := Int.pow_pos (by decide)
  refine ⟨if 2 ^ Int.toNat 64 ≤ x then x else (x * 6364136223846793005 + (k + 1) * 1442695040888963407).fmod (2 ^ Int.toNat 190), ?_, ?_⟩
  · split
    · have : (0 : Int) ≤ 2 ^ Int.toNat 64 := by decide
      omega
    · rw [Int.fmod_eq_emod_of_nonneg _ (Int.le_of_lt h190)]
      exact Int.emod_nonneg _ (Int.ne_of_gt h190)
  refine callOK_of (ps := [Str.ofString "script", Str.ofString "k"]) F.fn_law_mixed (binds2 fun _ _ _ _ _ _ _ _ => BindsTo.of_eq rfl) rfl rfl (law_mixed_b g F n).2 ?_
  intro z hz
  have : z = 2 := hz
  subst this
  have c64 : (0 : Int) ≤ 64 ∧ (Builtin.Int.intBits 2 : Int) * 64 ≤ 2 ^ 27 := by decide
  have c190 : (0 : Int) ≤ 190 ∧ (Builtin.Int.intBits 2 : Int) * 190 ≤ 2 ^ 27 := by decide
  have m1 : ∀ y : Int, IntMulOk y 6364136223846793005 := fun y => IntMulOk.of_right (by decide)
  have m2 : ∀ y : Int, IntMulOk y 1442695040888963407 := fun y => IntMulOk.of_right (by decide)
  have rest : (∃ i j, PyData.int x = PyData.int i ∧ PyData.int (2 ^ Int.toNat 64) = PyData.int j ∧ True) := ⟨_, _, rfl, rfl, trivial⟩
  simp only [law_mixed_b]
  walk_at "mRun"
  refine ⟨ns, rfl, by omega, ?_⟩
  have fin : 0 ≤ (64 : Int) ∧ (Builtin.Int.intBits 2 : Int) * 64 ≤ 2 ^ 27 ∧ (if 2 ^ Int.toNat 64 ≤ x then PyData.int x = PyData.int (if 2 ^ Int.toNat 64 ≤ x then x else (x * 6364136223846793005 + (k + 1) * 1442695040888963407).fmod (2 ^ Int.toNat 190))
      else IntMulOk x 6364136223846793005 ∧ IntMulOk (k + 1) 1442695040888963407 ∧ 0 ≤ (190 : Int) ∧ (Builtin.Int.intBits 2 : Int) * 190 ≤ 2 ^ 27 ∧ (2 : Int) ^ Int.toNat 190 ≠ 0 ∧ PyData.int ((x * 6364136223846793005 + (k + 1) * 1442695040888963407).fmod (2 ^ Int.toNat 190)) = PyData.int (if 2 ^ Int.toNat 64 ≤ x then x else (x * 6364136223846793005 + (k + 1) * 1442695040888963407).fmod (2 ^ Int.toNat 190))) := by
    refine ⟨c64.1, c64.2, ?_⟩
    by_cases h : 2 ^ Int.toNat 64 ≤ x
    · rw [if_pos h, if_pos h]
    · rw [if_neg h, if_neg h]
      exact ⟨m1 _, m2 _, c190.1, c190.2, Int.ne_of_gt h190, rfl⟩
  by_cases h : k < (ns.length : Int)
  · rw [if_pos h] at hx ⊢
    refine ⟨ns, rfl, hk, h, by omega, ?_⟩
    subst hx
    exact fin
  · rw [if_neg h] at hx ⊢
    subst hx
    exact fin
end Mine

namespace Mine
open PySem.Calls
local macro_rules | `(tactic| walk_at "mRun") => `(tactic| simp only [sSeq, sIf, sRet, sAsg, sAsgT, sAsgR, sAug, sNil, sAsrt, eLoc, eCst, eBin, eCmp, eUn, eAnd, eOr, eIf, eCall, eTup, eLst, eSub, eSubT, eTab, eBitLen, eInt, eIsInt, eLen, eMax, eMin, lNil, lCons, tPlain, tNot, tTrue, tFalse, tAnd, tOr,
  binP_add, binP_sub, binP_mul, binP_fdiv, binP_mod, binP_pow, binP_shl, binP_shr, binP_and, binP_xor, cmpP_eq, cmpP_ne, cmpP_lt, cmpP_le, cmpP_gt, cmpP_ge, cmpP_eqs, cmpP_nes, cmpP_ins, cmpP_eqb, cmpP_neb, cmpP_eqt, cmpP_net, cmpP_nin, unP_neg, unP_not, subP_tup, subP_lst, subTP_tup, truthyP_int, truthyP_bool, unpackP_tup, setAll, getP_zero, getP_succ, set_zero, set_succ, ex_int, ite_dec, ite_bne, ite_beq, ite_not, List.map_cons, List.map_nil, List.cons_append, List.nil_append, List.replicate_succ, List.replicate_zero, List.length_cons, List.length_nil, List.reverse_cons, List.reverse_nil, Nat.reduceAdd, Nat.reduceSub, true_and, and_true, if_true, if_false, ite_true, ite_false])

theorem raw_tuple {s man e : Int} (hs : s = 0 ∨ s = 1) (hm : man % 2 = 1) (h0 : 0 < man) (hb : man < 2 ^ 62) (he : -40 ≤ e) (he' : e ≤ 40) :
    ∃ A k, bits A ≤ 62 ∧ -40 ≤ k ∧ k ≤ 40 ∧ PyData.tuple [PyData.int s, .int man, .int e, .int (Builtin.Int.intBits man)] = norm A k := by
  have hbb : bits man ≤ 62 := bits_le (by omega)
  rcases hs with rfl | rfl
  · refine ⟨man, e, hbb, he, he', ?_⟩
    rw [norm_odd0 hm, num_eq, sgn_pos (by omega), abs_pos (by omega)]
  · refine ⟨-man, e, by rw [bits_neg]; exact hbb, he, he', ?_⟩
    have h1 : ((-man).natAbs : Int) = man := by omega
    rw [norm_odd0 (by omega), num_eq, sgn_neg (by omega), bits_neg, h1]
theorem pow_half {E : Int} (h1 : 1 ≤ E) (h2 : E ≤ 60) : ∃ w : Int, (2 : Int) ^ E.toNat = 2 * w ∧ 0 < w ∧ w ≤ 2 ^ 59 := by
  obtain ⟨j, hj⟩ : ∃ j, E.toNat = j + 1 := ⟨E.toNat - 1, by omega⟩
  refine ⟨2 ^ j, by rw [hj, Int.pow_succ, Int.mul_comm], Int.pow_pos (by decide), ?_⟩
  have : 2 ^ j ≤ 2 ^ 59 := Nat.pow_le_pow_right (by decide) (by omega)
  exact_mod_cast this
theorem law_raw_ok (g : Gl) (F : Facts g) (n : Nat) (x : Int) (hx : 0 ≤ x) : ∃ A k, bits A ≤ 62 ∧ -40 ≤ k ∧ k ≤ 40 ∧ CallOK g (n + 1) 237 [.int x, .int 60, .int 40] (norm A k) := by
  obtain ⟨m, hm⟩ : ∃ m, m = x.fdiv (2 ^ Int.toNat 16) := ⟨_, rfl⟩
  obtain ⟨E, hE⟩ : ∃ E, E = 1 + m.fmod 60 := ⟨_, rfl⟩
  obtain ⟨D, hD⟩ : ∃ D, D = 1 + m.fmod (60 - 1) := ⟨_, rfl⟩
  obtain ⟨e, he⟩ : ∃ e, e = (x.fdiv 16).fmod (2 * 40 + 1) - 40 := ⟨_, rfl⟩
  obtain ⟨r, hr⟩ : ∃ r, r = (m.fmod (2 ^ E.toNat)).fdiv 2 * 2 + 1 := ⟨_, rfl⟩
  have run : ∀ v : V, (if (x.fdiv 2).fmod 8 = 0 then PyData.tuple [.int 0, .int 0, .int 0, .int 0] = v
      else if (x.fdiv 2).fmod 8 = 1 then PyData.tuple [.int (x.fmod 2), .int 1, .int e, .int (Builtin.Int.intBits 1)] = v
      else if (x.fdiv 2).fmod 8 = 2 then PyData.tuple [.int (x.fmod 2), .int (2 ^ E.toNat - 1), .int e, .int (Builtin.Int.intBits (2 ^ E.toNat - 1))] = v
      else if (x.fdiv 2).fmod 8 = 3 then PyData.tuple [.int (x.fmod 2), .int (2 ^ D.toNat + 1), .int e, .int (Builtin.Int.intBits (2 ^ D.toNat + 1))] = v
      else PyData.tuple [.int (x.fmod 2), .int r, .int e, .int (Builtin.Int.intBits r)] = v) → CallOK g (n + 1) 237 [.int x, .int 60, .int 40] v := by
    intro v hv
    refine callOK_of (ps := [Str.ofString "rich", Str.ofString "bits", Str.ofString "spread"]) F.fn_law_raw (binds3 fun _ _ _ _ _ _ _ _ _ => BindsTo.of_eq rfl) rfl rfl (law_raw_b g F n).2 ?_
    intro z hz
    have : z = 4 := hz
    subst this
    simp only [law_raw_b]
    walk_at "mRun"
    rw [← hm, ← hE, ← hD, ← he, ← hr]
    have c60 := Int.fmod_lt_of_pos m (by decide : (0 : Int) < 60)
    have c60' := Int.fmod_nonneg_of_pos m (by decide : (0 : Int) < 60)
    have c59 := Int.fmod_lt_of_pos m (by decide : (0 : Int) < 60 - 1)
    have c59' := Int.fmod_nonneg_of_pos m (by decide : (0 : Int) < 60 - 1)
    have c2 : (Builtin.Int.intBits 2 : Int) = 2 := by decide
    have pE : (2 : Int) ^ E.toNat ≠ 0 := Int.ne_of_gt (Int.pow_pos (by decide))
    have b1 : 0 ≤ E ∧ (Builtin.Int.intBits 2 : Int) * E ≤ 2 ^ 27 := by rw [c2]; omega
    have b2 : 0 ≤ D ∧ (Builtin.Int.intBits 2 : Int) * D ≤ 2 ^ 27 := by rw [c2]; omega
    refine ⟨by decide, by decide, by decide, by decide, by decide, IntMulOk.of_right (by decide), by decide, by decide, by decide, by decide, by decide, by decide, ?_⟩
    split
    · rename_i h
      rw [if_pos h] at hv
      exact ⟨by decide, hv⟩
    rename_i h
    rw [if_neg h] at hv
    refine ⟨by decide, b1.1, b1.2, pE, by decide, by decide, IntMulOk.of_right (by decide), ?_⟩
    split
    · rename_i h
      rw [if_pos h] at hv
      exact ⟨by decide, by decide, hv⟩
    rename_i h
    rw [if_neg h] at hv
    split
    · rename_i h
      rw [if_pos h] at hv
      exact ⟨by decide, b1.1, b1.2, by decide, by decide, hv⟩
    rename_i h
    rw [if_neg h] at hv
    split
    · rename_i h
      rw [if_pos h] at hv
      rw [if_pos (by decide)]
      exact ⟨by decide, b2.1, b2.2, by decide, by decide, hv⟩
    rename_i h
    rw [if_neg h] at hv
    simp only [Bool.false_eq_true, if_false]
    exact ⟨by decide, by decide, hv⟩
  have c60 := Int.fmod_lt_of_pos m (by decide : (0 : Int) < 60)
  have c60' := Int.fmod_nonneg_of_pos m (by decide : (0 : Int) < 60)
  have c59 := Int.fmod_lt_of_pos m (by decide : (0 : Int) < 60 - 1)
  have c59' := Int.fmod_nonneg_of_pos m (by decide : (0 : Int) < 60 - 1)
  have ce := Int.fmod_lt_of_pos (x.fdiv 16) (by decide : (0 : Int) < 2 * 40 + 1)
  have ce' := Int.fmod_nonneg_of_pos (x.fdiv 16) (by decide : (0 : Int) < 2 * 40 + 1)
  have cs := Int.fmod_lt_of_pos x (by decide : (0 : Int) < 2)
  have cs' := Int.fmod_nonneg_of_pos x (by decide : (0 : Int) < 2)
  obtain ⟨w, w1, w2, w3⟩ := pow_half (E := E) (by omega) (by omega)
  obtain ⟨u, u1, u2, u3⟩ := pow_half (E := D) (by omega) (by omega)
  have t : ∀ man : Int, man % 2 = 1 → 0 < man → man < 2 ^ 62 → ∃ A k, bits A ≤ 62 ∧ -40 ≤ k ∧ k ≤ 40 ∧ PyData.tuple [PyData.int (x.fmod 2), .int man, .int e, .int (Builtin.Int.intBits man)] = norm A k :=
    fun man q1 q2 q3 => raw_tuple (by omega) q1 q2 q3 (by omega) (by omega)
  rw [w1, u1] at run
  by_cases h0 : (x.fdiv 2).fmod 8 = 0
  · exact ⟨0, 0, by decide, by decide, by decide, run _ (by rw [if_pos h0, norm_zero]; rfl)⟩
  by_cases h1 : (x.fdiv 2).fmod 8 = 1
  · obtain ⟨A, k, q1, q2, q3, q4⟩ := t 1 (by decide) (by decide) (by decide)
    exact ⟨A, k, q1, q2, q3, run _ (by rw [if_neg h0, if_pos h1]; exact q4)⟩
  by_cases h2 : (x.fdiv 2).fmod 8 = 2
  · obtain ⟨A, k, q1, q2, q3, q4⟩ := t (2 * w - 1) (by omega) (by omega) (by omega)
    exact ⟨A, k, q1, q2, q3, run _ (by rw [if_neg h0, if_neg h1, if_pos h2]; exact q4)⟩
  by_cases h3 : (x.fdiv 2).fmod 8 = 3
  · obtain ⟨A, k, q1, q2, q3, q4⟩ := t (2 * u + 1) (by omega) (by omega) (by omega)
    exact ⟨A, k, q1, q2, q3, run _ (by rw [if_neg h0, if_neg h1, if_neg h2, if_pos h3]; exact q4)⟩
  have d1 := Int.fmod_nonneg_of_pos m (show 0 < (2 : Int) ^ E.toNat from Int.pow_pos (by decide))
  have d2 := Int.fmod_lt_of_pos m (show 0 < (2 : Int) ^ E.toNat from Int.pow_pos (by decide))
  rw [Int.fdiv_eq_ediv_of_nonneg _ (by decide)] at hr
  obtain ⟨A, k, q1, q2, q3, q4⟩ := t r (by omega) (by omega) (by omega)
  exact ⟨A, k, q1, q2, q3, run _ (by rw [if_neg h0, if_neg h1, if_neg h2, if_neg h3]; exact q4)⟩
end Mine

namespace Mine
open PySem.Calls
local macro_rules | `(tactic| walk_at "mRun") => `(tactic| simp only [sSeq, sIf, sRet, sAsg, sAsgT, sAsgR, sAug, sNil, sAsrt, eLoc, eCst, eBin, eCmp, eUn, eAnd, eOr, eIf, eCall, eTup, eLst, eSub, eSubT, eTab, eBitLen, eInt, eIsInt, eLen, eMax, eMin, lNil, lCons, tPlain, tNot, tTrue, tFalse, tAnd, tOr,
  binP_add, binP_sub, binP_mul, binP_fdiv, binP_mod, binP_pow, binP_shl, binP_shr, binP_and, binP_xor, cmpP_eq, cmpP_ne, cmpP_lt, cmpP_le, cmpP_gt, cmpP_ge, cmpP_eqs, cmpP_nes, cmpP_ins, cmpP_eqb, cmpP_neb, cmpP_eqt, cmpP_net, cmpP_nin, unP_neg, unP_not, subP_tup, subP_lst, subTP_tup, truthyP_int, truthyP_bool, unpackP_tup, setAll, getP_zero, getP_succ, set_zero, set_succ, ex_int, ite_dec, ite_bne, ite_beq, ite_not, List.map_cons, List.map_nil, List.cons_append, List.nil_append, List.replicate_succ, List.replicate_zero, List.length_cons, List.length_nil, List.reverse_cons, List.reverse_nil, Nat.reduceAdd, Nat.reduceSub, true_and, and_true, if_true, if_false, ite_true, ite_false])

theorem cmpI_pos {x y : Int} : (0 < cmpI x y) = (y < x) := by
  unfold cmpI; split <;> (try split) <;> (apply propext; omega)
theorem cmpI_neg {x y : Int} : (cmpI x y < 0) = (x < y) := by
  unfold cmpI; split <;> (try split) <;> (apply propext; omega)
theorem cmpI_npos {x y : Int} : (cmpI x y ≤ 0) = (x ≤ y) := by
  unfold cmpI; split <;> (try split) <;> (apply propext; omega)
theorem cmpI_zero {x y : Int} : (cmpI x y = 0) = (x = y) := by
  unfold cmpI; split <;> (try split) <;> (apply propext; omega)
theorem bits_fx (A j : Int) : (bits (fx A j) : Int) ≤ bits A + j.toNat := by
  by_cases h : 0 ≤ j
  · rw [fx_pos h]
    by_cases h0 : A = 0
    · subst h0; rw [Int.zero_mul, bits_zero]; omega
    · rw [bits_mul_pow h0]; omega
  · rw [fx_not h]
    have hp : (0 : Int) < 2 ^ (-j).toNat := Int.pow_pos (by decide)
    have : bits (A.fdiv (2 ^ (-j).toNat)) ≤ bits A := by
      refine bits_mono ?_
      rw [Int.fdiv_eq_ediv_of_nonneg _ (Int.le_of_lt hp)]
      exact Int.natAbs_ediv_le_natAbs _ _
    omega
theorem units_ok (g : Gl) (F : Facts g) (n : Nat) (A k few many : Int) (hA : bits A ≤ 400) (k1 : -400 ≤ k) (k2 : k ≤ 400) (f1 : 0 ≤ few) (f2 : few ≤ 50) (m1 : 0 ≤ many) (m2 : many ≤ 50) :
    CallOK g (n + 7) 244 [norm A k, .int few, .int many] (.bool true) := by
  refine callOK_of (ps := [Str.ofString "s", Str.ofString "few", Str.ofString "many"]) F.fn_law_units_right (binds3 fun _ _ _ _ _ _ _ _ _ => BindsTo.of_eq rfl) rfl rfl (law_units_right_b g F (n + 6)).2 ?_
  intro z hz
  have : z = 14 := hz
  subst this
  simp only [law_units_right_b]
  walk_at "mRun"
  obtain ⟨low, hlow⟩ : ∃ low, low = fx A (k + few) := ⟨_, rfl⟩
  obtain ⟨more, hmore⟩ : ∃ more, more = fx A (k + (few + many)) := ⟨_, rfl⟩
  have bl := bits_fx A (k + few)
  rw [← hlow] at bl
  have bl1 := bits_add_le low 1
  have b1 : bits (1 : Int) = 1 := by decide
  rw [b1] at bl1
  have lo := fx_lo (A := A) (k := k + few) (N := 1000 - few) (by omega) (by omega)
  have hi := fx_hi (A := A) (k := k + few) (N := 1000 - few) (by omega) (by omega)
  rw [← hlow, show k + few + (1000 - few) = k + 1000 from by omega, show 1000 - few = -few + 1000 from by omega] at lo hi
  have c1 := to_fixed_norm g F (n + 5) A k few (by omega) (by omega) (by omega)
  have c2 := to_fixed_norm g F (n + 5) A k (few + many) (by omega) (by omega) (by omega)
  have c3 := mpf_shift_ok g F (n + 5) A k few
  have c4 := mpf_floor_norm g F n A (k + few)
  have c6 := to_int_f_norm g F (n + 4) A (k + few) (by omega) (by omega)
  rw [← hlow] at c1 c4 c6
  rw [← hmore] at c2
  have c5 := from_int_ok g F (n + 1) low
  have c7 := from_man_exp_ok g F (n + 2) low 0
  have c8 := mpf_shift_ok g F (n + 5) low 0 (-few)
  have c9 := from_man_exp_ok g F (n + 2) low (-few)
  have c10 := mpf_cmp_ok g F n low (-few) A k 1000 (by omega) (by omega) (by omega) (by omega) (by omega) (by omega) (by omega) (by omega)
  have c11 := from_man_exp_ok g F (n + 2) (low + 1) (-few)
  have c12 := mpf_cmp_ok g F n (low + 1) (-few) A k 1000 (by omega) (by omega) (by omega) (by omega) (by omega) (by omega) (by omega) (by omega)
  have c13 := rshift_ok g F (n + 5) more many m1
  have c14 := lshift_ok g F (n + 5) low many m1 (by omega)
  have c15 := mpf_neg_ok g F (n + 5) A k
  have c16 := to_fixed_norm g F (n + 5) (-A) k few (by rw [bits_neg]; omega) (by omega) (by omega)
  have e13 : fx more (-many) = low := by
    rw [hmore, hlow, fx_floor m1]; congr 1; omega
  have e14 : fx low many ≤ more := by
    have := fx_lo (A := more) (k := -many) (N := many) m1 (by omega)
    rw [e13, show -many + many = 0 from by omega, p2_zero] at this
    rw [fx_pos m1]
    show low * p2 many ≤ more
    omega
  have z8 : norm low (0 + -few) = norm low (-few) := by rw [show (0 : Int) + -few = -few from by omega]
  rw [z8] at c8
  have g10 : ¬ 0 < cmpI (low * p2 (-few + 1000)) (A * p2 (k + 1000)) := by rw [cmpI_pos]; omega
  have g12 : ¬ cmpI ((low + 1) * p2 (-few + 1000)) (A * p2 (k + 1000)) ≤ 0 := by rw [cmpI_npos]; omega
  refine ⟨_, c1, _, c2, by decide, _, c3, _, c4, _, c5, ?_⟩
  refine ne_same rfl ?_
  walk_at "mRun"
  refine ⟨_, c3, _, c6, ?_⟩
  walk_at "mRun"
  refine ⟨_, c7, _, c8, _, c9, ?_⟩
  refine ne_same rfl ?_
  walk_at "mRun"
  refine ⟨_, c9, _, c10, ?_⟩
  walk_at "mRun"
  rw [if_neg g10]
  try simp only [Bool.false_eq_true, if_false]
  refine ⟨_, c11, _, c12, ?_⟩
  walk_at "mRun"
  rw [if_neg g12]
  refine ⟨_, c13, ?_⟩
  rw [e13]
  walk_at "mRun"
  refine ⟨_, c14, ?_⟩
  walk_at "mRun"
  rw [if_neg (Int.not_lt.mpr e14)]
  try simp only [Bool.false_eq_true, if_false]
  refine ⟨_, c9, ?_⟩
  by_cases h : norm low (-few) = norm A k
  · refine ne_same h ?_
    walk_at "mRun"
    refine ⟨_, c15, _, c16, ?_⟩
    walk_at "mRun"
    have q := (((norm_inj h).neg).shift few).fx
    rw [show -few + few = 0 from by omega, fx_pos (Int.le_refl 0)] at q
    have q2 : fx (-A) (k + few) = -low - 0 := by
      rw [← q]
      show -low * 1 = -low - 0
      omega
    rw [q2, beq_self_eq_true]
  · refine ne_diff h ?_
    walk_at "mRun"
    refine ⟨_, c15, _, c16, ?_⟩
    walk_at "mRun"
    have ne : low * p2 (-few + 1000) ≠ A * p2 (k + 1000) := fun q => h (Sm.of (by omega) (by omega) q).norm
    have q : fx (-A) (k + few) = -low - 1 := by
      refine (fx_char (N := 1000 - few) (by omega) (by omega)).mpr ?_
      rw [show k + few + (1000 - few) = k + 1000 from by omega, show 1000 - few = -few + 1000 from by omega]
      have e1 : (-low - 1) * p2 (-few + 1000) = -((low + 1) * p2 (-few + 1000)) := by
        rw [← Int.neg_mul]; congr 1; omega
      have e2 : (-low - 1 + 1) * p2 (-few + 1000) = -(low * p2 (-few + 1000)) := by
        rw [← Int.neg_mul]; congr 1; omega
      rw [e1, e2, Int.neg_mul]
      omega
    rw [q, beq_self_eq_true]
end Mine

namespace Mine
open PySem.Calls
local macro_rules | `(tactic| walk_at "mRun") => `(tactic| simp only [sSeq, sIf, sRet, sAsg, sAsgT, sAsgR, sAug, sNil, sAsrt, eLoc, eCst, eBin, eCmp, eUn, eAnd, eOr, eIf, eCall, eTup, eLst, eSub, eSubT, eTab, eBitLen, eInt, eIsInt, eLen, eMax, eMin, lNil, lCons, tPlain, tNot, tTrue, tFalse, tAnd, tOr,
  binP_add, binP_sub, binP_mul, binP_fdiv, binP_mod, binP_pow, binP_shl, binP_shr, binP_and, binP_xor, cmpP_eq, cmpP_ne, cmpP_lt, cmpP_le, cmpP_gt, cmpP_ge, cmpP_eqs, cmpP_nes, cmpP_ins, cmpP_eqb, cmpP_neb, cmpP_eqt, cmpP_net, cmpP_nin, unP_neg, unP_not, subP_tup, subP_lst, subTP_tup, truthyP_int, truthyP_bool, unpackP_tup, setAll, getP_zero, getP_succ, set_zero, set_succ, ex_int, ite_dec, ite_bne, ite_beq, ite_not, List.map_cons, List.map_nil, List.cons_append, List.nil_append, List.replicate_succ, List.replicate_zero, List.length_cons, List.length_nil, List.reverse_cons, List.reverse_nil, Nat.reduceAdd, Nat.reduceSub, true_and, and_true, if_true, if_false, ite_true, ite_false])

theorem bits_p2 (A : Int) {j : Int} (hj : 0 ≤ j) : (bits (A * p2 j) : Int) ≤ bits A + j := by
  have := bits_fx A j
  rw [fx_pos hj] at this
  show (bits (A * 2 ^ j.toNat) : Int) ≤ _
  omega
theorem both_math {X Y P one other : Int} (hP : 0 < P) (l1 : one * P ≤ X) (h1 : X < (one + 1) * P) (l2 : other * P ≤ Y) (h2 : Y < (other + 1) * P) :
    (X ≤ Y → one ≤ other) ∧ (Y ≤ X → other ≤ one) ∧ ∀ sum, sum * P ≤ X + Y → X + Y < (sum + 1) * P → sum - one - other = 0 ∨ sum - one - other = 1 := by
  refine ⟨fun h => ?_, fun h => ?_, fun sum h3 h4 => ?_⟩
  · have : one < other + 1 := Int.lt_of_mul_lt_mul_right (a := P) (by omega) (Int.le_of_lt hP)
    omega
  · have : other < one + 1 := Int.lt_of_mul_lt_mul_right (a := P) (by omega) (Int.le_of_lt hP)
    omega
  · have e1 : (one + other) * P = one * P + other * P := Int.add_mul _ _ _
    have e2 : (one + other + 2) * P = (one + 1) * P + (other + 1) * P := by rw [← Int.add_mul]; congr 1; omega
    have q1 : one + other < sum + 1 := Int.lt_of_mul_lt_mul_right (a := P) (by omega) (Int.le_of_lt hP)
    have q2 : sum < one + other + 2 := Int.lt_of_mul_lt_mul_right (a := P) (by omega) (Int.le_of_lt hP)
    omega
theorem both_ok (g : Gl) (F : Facts g) (n : Nat) (A k B l few : Int) (hA : bits A ≤ 1500) (k1 : -400 ≤ k) (k2 : k ≤ 400) (hB : bits B ≤ 1500) (l1 : -400 ≤ l) (l2 : l ≤ 400) (f1 : 0 ≤ few) (f2 : few ≤ 50) :
    CallOK g (n + 7) 251 [norm A k, norm B l, .int few] (.bool true) := by
  refine callOK_of (ps := [Str.ofString "s", Str.ofString "t", Str.ofString "few"]) F.fn_law_both_right (binds3 fun _ _ _ _ _ _ _ _ _ => BindsTo.of_eq rfl) rfl rfl (law_both_right_b g F (n + 6)).2 ?_
  intro z hz
  have : z = 11 := hz
  subst this
  obtain ⟨one, hone⟩ : ∃ one, one = fx A (k + few) := ⟨_, rfl⟩
  obtain ⟨other, hother⟩ : ∃ other, other = fx B (l + few) := ⟨_, rfl⟩
  obtain ⟨X, hX⟩ : ∃ X, X = A * p2 (k + 400) := ⟨_, rfl⟩
  obtain ⟨Y, hY⟩ : ∃ Y, Y = B * p2 (l + 400) := ⟨_, rfl⟩
  have bo := bits_fx A (k + few)
  have bo' := bits_fx B (l + few)
  rw [← hone] at bo
  rw [← hother] at bo'
  have lo := fx_lo (A := A) (k := k + few) (N := 400 - few) (by omega) (by omega)
  have hi := fx_hi (A := A) (k := k + few) (N := 400 - few) (by omega) (by omega)
  have lo' := fx_lo (A := B) (k := l + few) (N := 400 - few) (by omega) (by omega)
  have hi' := fx_hi (A := B) (k := l + few) (N := 400 - few) (by omega) (by omega)
  rw [← hone, show k + few + (400 - few) = k + 400 from by omega, ← hX] at lo hi
  rw [← hother, show l + few + (400 - few) = l + 400 from by omega, ← hY] at lo' hi'
  obtain ⟨m1, m2, m3⟩ := both_math (p2_pos _) lo hi lo' hi'
  have bX := bits_p2 A (j := k + 400) (by omega)
  have bY := bits_p2 B (j := l + 400) (by omega)
  rw [← hX] at bX
  rw [← hY] at bY
  have bS := bits_add_le X Y
  have bM := bits_mul_le one other
  have c1 := to_fixed_norm g F (n + 5) A k few (by omega) (by omega) (by omega)
  have c2 := to_fixed_norm g F (n + 5) B l few (by omega) (by omega) (by omega)
  have c3 := mpf_add_ok g F (n + 2) A k B l 400 (by omega) (by omega) (by omega) (by omega) (by omega) (by omega) (by omega) (by omega)
  have c5 := mpf_cmp_ok g F n A k B l 400 (by omega) (by omega) (by omega) (by omega) (by omega) (by omega) (by omega) (by omega)
  rw [← hX, ← hY] at c3 c5
  rw [← hone] at c1
  rw [← hother] at c2
  have c4 := to_fixed_norm g F (n + 5) (X + Y) (-400) few (by omega) (by omega) (by omega)
  obtain ⟨sum, hsum⟩ : ∃ sum, sum = fx (X + Y) (-400 + few) := ⟨_, rfl⟩
  have slo := fx_lo (A := X + Y) (k := -400 + few) (N := 400 - few) (by omega) (by omega)
  have shi := fx_hi (A := X + Y) (k := -400 + few) (N := 400 - few) (by omega) (by omega)
  rw [← hsum, show -400 + few + (400 - few) = 0 from by omega, p2_zero, Int.mul_one] at slo shi
  rw [← hsum] at c4
  have m4 := m3 sum slo shi
  have c6 := from_man_exp_ok g F (n + 2) one (-few)
  have c7 := from_man_exp_ok g F (n + 2) other (-few)
  have c8 := mpf_cmp_ok g F n one (-few) other (-few) few (by omega) (by omega) (by omega) (by omega) (by omega) (by omega) (by omega) (by omega)
  rw [show -few + few = 0 from by omega, p2_zero, Int.mul_one, Int.mul_one] at c8
  have c9 := mpf_mul_ok g F (n + 5) one (-few) other (-few) (by omega) (by omega)
  have c10 := to_fixed_norm g F (n + 5) (one * other) (-few + -few) few (by omega) (by omega) (by omega)
  rw [show -few + -few + few = -few from by omega] at c10
  have c11 := rshift_ok g F (n + 5) (one * other) few f1
  simp only [law_both_right_b]
  walk_at "mRun"
  refine ⟨_, c1, _, c2, by decide, _, c3, _, c4, ?_⟩
  walk_at "mRun"
  refine ⟨by decide, [0, 1], rfl, ?_⟩
  rw [if_pos (show (List.any [0, 1] fun x => x == sum - one - other) = true from by rcases m4 with q | q <;> rw [q] <;> decide)]
  have e8 : (cmpI one other == 0) = (one == other) := by rw [Bool.eq_iff_iff, beq_iff_eq, beq_iff_eq, cmpI_zero]
  have fin : ∃ d, CallOK g (n + 6) 116 [PyData.int one, PyData.int (-few)] d ∧ ∃ d_1, CallOK g (n + 6) 116 [PyData.int other, PyData.int (-few)] d_1 ∧ 2 ≤ 16 ∧
      ∃ d_2, CallOK g (n + 6) 161 [d, d_1] d_2 ∧ cmpP CmpOp.Eq d_2 (PyData.int 0) fun x => cmpP CmpOp.NotEq x (PyData.bool (one == other)) fun x => truthyP x fun t =>
        if t = true then PyData.bool false = PyData.bool true
        else ∃ d_3, CallOK g (n + 6) 208 [d, d_1] d_3 ∧ ∃ d, CallOK g (n + 6) 154 [d_3, PyData.int few] d ∧ IntMulOk one other ∧
          ∃ d_4, CallOK g (n + 6) 21 [PyData.int (one * other), PyData.int few] d_4 ∧ cmpP CmpOp.Eq d d_4 fun r => r = PyData.bool true := by
    refine ⟨_, c6, _, c7, by decide, _, c8, ?_⟩
    rw [cmpP_eq, e8, cmpP_neb, bne_self_eq_false, truthyP_bool, if_neg Bool.false_ne_true]
    refine ⟨_, c9, _, c10, IntMulOk.of_bits (show bits one ≤ 2 ^ 20 from by omega) (show bits other ≤ 2 ^ 20 from by omega), _, c11, ?_⟩
    rw [cmpP_eq, beq_self_eq_true]
  rcases Int.lt_trichotomy X Y with h | h | h
  · rw [cmpI_lt h] at c5
    refine ⟨_, c5, ?_⟩
    walk_at "mRun"
    rw [if_pos (show (-1 : Int) < 0 by decide), if_neg (show ¬ other < one from by have := m1 (by omega); omega)]
    try simp only [Bool.false_eq_true, if_false]
    rw [if_neg (show ¬ (0 : Int) < -1 by decide)]
    try simp only [Bool.false_eq_true, if_false]
    rw [if_neg (show ¬ (-1 : Int) = 0 by decide)]
    try simp only [Bool.false_eq_true, if_false]
    exact fin
  · rw [cmpI_eq h] at c5
    refine ⟨_, c5, ?_⟩
    walk_at "mRun"
    rw [if_neg (show ¬ (0 : Int) < 0 by decide)]
    try simp only [Bool.false_eq_true, if_false]
    rw [if_neg (show ¬ (0 : Int) < 0 by decide)]
    try simp only [Bool.false_eq_true, if_false]
    rw [if_pos (show one = other from by have := m1 (by omega); have := m2 (by omega); omega)]
    try simp only [Bool.false_eq_true, if_false]
    exact fin
  · rw [cmpI_gt h] at c5
    refine ⟨_, c5, ?_⟩
    walk_at "mRun"
    rw [if_neg (show ¬ (1 : Int) < 0 by decide)]
    try simp only [Bool.false_eq_true, if_false]
    rw [if_pos (show (0 : Int) < 1 by decide), if_neg (show ¬ one < other from by have := m2 (by omega); omega)]
    try simp only [Bool.false_eq_true, if_false]
    rw [if_neg (show ¬ (1 : Int) = 0 by decide)]
    try simp only [Bool.false_eq_true, if_false]
    exact fin
end Mine

namespace Mine
open PySem.Calls
local macro_rules | `(tactic| walk_at "mRun") => `(tactic| simp only [sSeq, sIf, sRet, sAsg, sAsgT, sAsgR, sAug, sNil, sAsrt, eLoc, eCst, eBin, eCmp, eUn, eAnd, eOr, eIf, eCall, eTup, eLst, eSub, eSubT, eTab, eBitLen, eInt, eIsInt, eLen, eMax, eMin, lNil, lCons, tPlain, tNot, tTrue, tFalse, tAnd, tOr,
  binP_add, binP_sub, binP_mul, binP_fdiv, binP_mod, binP_pow, binP_shl, binP_shr, binP_and, binP_xor, cmpP_eq, cmpP_ne, cmpP_lt, cmpP_le, cmpP_gt, cmpP_ge, cmpP_eqs, cmpP_nes, cmpP_ins, cmpP_eqb, cmpP_neb, cmpP_eqt, cmpP_net, cmpP_nin, unP_neg, unP_not, subP_tup, subP_lst, subTP_tup, truthyP_int, truthyP_bool, unpackP_tup, setAll, getP_zero, getP_succ, set_zero, set_succ, ex_int, ite_dec, ite_bne, ite_beq, ite_not, List.map_cons, List.map_nil, List.cons_append, List.nil_append, List.replicate_succ, List.replicate_zero, List.length_cons, List.length_nil, List.reverse_cons, List.reverse_nil, Nat.reduceAdd, Nat.reduceSub, true_and, and_true, if_true, if_false, ite_true, ite_false])

theorem roots_ok (g : Gl) (F : Facts g) (n : Nat) (A k few x : Int) (hA0 : 0 ≤ A) (hA : bits A ≤ 300) (k1 : -400 ≤ k) (k2 : k ≤ 100) (f1 : 0 ≤ few) (f2 : few ≤ 50) (hx : 0 ≤ x) (bx : bits x ≤ 300) :
    CallOK g (n + 7) 258 [norm A k, .int few, .int x] (.bool true) := by
  refine callOK_of (ps := [Str.ofString "s", Str.ofString "few", Str.ofString "n"]) F.fn_law_roots_right (binds3 fun _ _ _ _ _ _ _ _ _ => BindsTo.of_eq rfl) rfl rfl (law_roots_right_b g F (n + 6)).2 ?_
  intro z hz
  have : z = 12 := hz
  subst this
  obtain ⟨units, hu⟩ : ∃ units, units = fx A (k + few) := ⟨_, rfl⟩
  have bu := bits_fx A (k + few)
  rw [← hu] at bu
  have u0 : 0 ≤ units := by
    rw [hu]
    by_cases h : 0 ≤ k + few
    · rw [fx_pos h]; exact Int.mul_nonneg hA0 (Int.le_of_lt (Int.pow_pos (by decide)))
    · rw [fx_not h, Int.fdiv_eq_ediv_of_nonneg _ (Int.le_of_lt (Int.pow_pos (by decide)))]
      exact Int.ediv_nonneg hA0 (Int.le_of_lt (Int.pow_pos (by decide)))
  obtain ⟨r, hr⟩ := isRt_exists (units * p2 few) (Int.mul_nonneg u0 (Int.le_of_lt (p2_pos _)))
  obtain ⟨s, hs⟩ := isRt_exists x hx
  have bU := bits_p2 units f1
  have c1 := to_fixed_norm g F (n + 5) A k few (by omega) (by omega) (by omega)
  rw [← hu] at c1
  have c2 := sqrt_fixed_ok g F (n + 2) units few r f1 hr (by omega)
  have c3 := from_man_exp_ok g F (n + 2) units (-few)
  obtain ⟨a, e, q1, q2, q3, q4, q5, q6, q7⟩ := norm_num units (-few)
  obtain ⟨Y, z, c4, y0, y1, y2, y3, y4⟩ := mpf_sqrt_num g F (n + 1) (Str.ofString "d") (.inr rfl) q2 (by omega) (by omega)
  rw [← q1] at c4
  have e1 : e = 0 ∨ (-few ≤ e ∧ e ≤ -few + bits units) := by
    by_cases c : a = 0
    · exact .inl (cn_exp q2 c)
    · have := q5 c; right; omega
  have c5 := to_fixed_norm g F (n + 5) Y z few (by omega) (by omega) (by omega)
  have e5 : fx Y (z + few) = r := y4 few (units * p2 few) r (by
    have t1 := (q3.shift (2 * few)).symm
    rw [show -few + 2 * few = few from by omega] at t1
    refine t1.trans (B := units) (l := few) ?_
    refine Sm.of (N := 0) (by omega) (by omega) ?_
    rw [show few + 0 = few from by omega, show (0 : Int) + 0 = 0 from rfl, p2_zero, Int.mul_one]) hr (by omega)
  rw [e5] at c5
  have c6 := sqrtrem_ok g F (n + 4) x s hs (by omega)
  have c7 := isqrt_ok g F (n + 3) x s hs (by omega)
  have c8 := from_int_ok g F (n + 1) x
  obtain ⟨a', e', q1', q2', q3', q4', q5', q6', q7'⟩ := norm_num x 0
  obtain ⟨Y', z', c9, y0', y1', y2', y3', y4'⟩ := mpf_sqrt_num g F (n + 1) (Str.ofString "f") (.inl rfl) q2' (by omega) (by omega)
  rw [← q1'] at c9
  have e1' : e' = 0 ∨ (0 ≤ e' ∧ e' ≤ bits x) := by
    by_cases c : a' = 0
    · exact .inl (cn_exp q2' c)
    · have := q5' c; right; omega
  have c10 := to_int_d_norm g F (n + 4) Y' z' y0' (by omega) (by omega)
  have e10 : fx Y' (z' + 0) = s := y4' 0 x s (by
    have t1 := q3'.symm
    rw [show e' + 2 * 0 = e' from by omega]
    exact t1) hs (by omega)
  rw [show z' + 0 = z' from by omega] at e10
  rw [e10] at c10
  simp only [law_roots_right_b]
  walk_at "mRun"
  refine ⟨_, c1, _, c2, _, c3, _, c4, _, c5, ?_⟩
  walk_at "mRun"
  refine ⟨_, c6, ?_⟩
  walk_at "mRun"
  refine ⟨_, c7, ?_⟩
  walk_at "mRun"
  obtain ⟨s0, s1, s2⟩ := hs
  have ss : (s + 1) * (s + 1) = s * s + 2 * s + 1 := by
    rw [Int.add_mul, Int.mul_add, Int.mul_one, Int.one_mul]; omega
  rw [ss] at s2
  have bs : bits s ≤ bits x := bits_mono (by have := rt_le ⟨s0, s1, by rw [ss]; exact s2⟩; omega)
  have bs2 : bits s ≤ 2 ^ 20 := by omega
  refine ⟨IntMulOk.of_bits bs2 bs2, ?_⟩
  rw [if_pos (show s * s + (x - s * s) = x by omega), if_neg (show ¬ x - s * s < 0 by omega)]
  refine ⟨IntMulOk.of_bits (show bits 2 ≤ 2 ^ 20 by decide) bs2, ?_⟩
  rw [if_neg (show ¬ 2 * s < x - s * s by omega)]
  simp only [Bool.false_eq_true, if_false]
  refine ⟨_, c8, _, c9, _, c10, ?_⟩
  rw [cmpP_eq, beq_self_eq_true]
end Mine

namespace Mine
open PySem.Calls
local macro_rules | `(tactic| walk_at "mRun") => `(tactic| simp only [sSeq, sIf, sRet, sAsg, sAsgT, sAsgR, sAug, sNil, sAsrt, eLoc, eCst, eBin, eCmp, eUn, eAnd, eOr, eIf, eCall, eTup, eLst, eSub, eSubT, eTab, eBitLen, eInt, eIsInt, eLen, eMax, eMin, lNil, lCons, tPlain, tNot, tTrue, tFalse, tAnd, tOr,
  binP_add, binP_sub, binP_mul, binP_fdiv, binP_mod, binP_pow, binP_shl, binP_shr, binP_and, binP_xor, cmpP_eq, cmpP_ne, cmpP_lt, cmpP_le, cmpP_gt, cmpP_ge, cmpP_eqs, cmpP_nes, cmpP_ins, cmpP_eqb, cmpP_neb, cmpP_eqt, cmpP_net, cmpP_nin, unP_neg, unP_not, subP_tup, subP_lst, subTP_tup, truthyP_int, truthyP_bool, unpackP_tup, setAll, getP_zero, getP_succ, set_zero, set_succ, ex_int, ite_dec, ite_bne, ite_beq, ite_not, List.map_cons, List.map_nil, List.cons_append, List.nil_append, List.replicate_succ, List.replicate_zero, List.length_cons, List.length_nil, List.reverse_cons, List.reverse_nil, Nat.reduceAdd, Nat.reduceSub, true_and, and_true, if_true, if_false, ite_true, ite_false])

def Tail2 (g : Gl) (n : Nat) (A k B l few many m : Int) : Prop :=
  ∃ d, CallOK g (n + 7) 244 [norm A k, PyData.int few, PyData.int many] d ∧ truthyP d fun t => if t = true then
    ∃ d, CallOK g (n + 7) 251 [norm A k, norm B l, PyData.int few] d ∧ truthyP d fun t => if t = true then
      if false = true then PyData.bool false = PyData.bool true
      else subP (norm A k) (PyData.int 0) fun x => cmpP CmpOp.Eq x (PyData.int 1) fun x => truthyP x fun t =>
        if t = true then ∃ d, CallOK g (n + 7) 177 [norm A k] d ∧ ∃ d_1, CallOK g (n + 7) 258 [d, PyData.int few, PyData.int m] d_1 ∧ truthyP d_1 fun t =>
          if t = true then ∃ d, CallOK g (n + 7) 124 [PyData.int m] d ∧ ∃ d_2, CallOK g (n + 7) 215 [d, PyData.int (-few)] d_2 ∧ ∃ d, CallOK g (n + 7) 258 [d_2, PyData.int few, PyData.int m] d ∧ d = PyData.bool true
          else d_1 = PyData.bool true
        else ∃ d, CallOK g (n + 7) 258 [norm A k, PyData.int few, PyData.int m] d ∧ truthyP d fun t =>
          if t = true then ∃ d, CallOK g (n + 7) 124 [PyData.int m] d ∧ ∃ d_2, CallOK g (n + 7) 215 [d, PyData.int (-few)] d_2 ∧ ∃ d, CallOK g (n + 7) 258 [d_2, PyData.int few, PyData.int m] d ∧ d = PyData.bool true
          else d = PyData.bool true
    else PyData.bool false = PyData.bool true
  else PyData.bool false = PyData.bool true
def Tail1 (g : Gl) (n : Nat) (A k B l few many m : Int) : Prop :=
  ∃ d, CallOK g (n + 7) 35 [PyData.int m] d ∧ if 0 < m then
      ∃ d_1, CallOK g (n + 7) 116 [PyData.int m, PyData.int 0] d_1 ∧ ∃ d_2, CallOK g (n + 7) 21 [PyData.int m, d] d_2 ∧ ∃ d_3, CallOK g (n + 7) 21 [PyData.int m, d] d_3 ∧ ∃ i, d_3 = PyData.int i ∧ 4 ≤ 16 ∧
        cmpP CmpOp.NotEq d_1 (PyData.tuple [PyData.int 0, d_2, d, PyData.int (Builtin.Int.intBits i)]) fun x => truthyP x fun t =>
          if t = true then PyData.bool false = PyData.bool true
          else if false = true then PyData.bool false = PyData.bool true
          else if m = 0 then cmpP CmpOp.NotEq d (PyData.int 0) fun x => truthyP x fun t =>
            if t = true then PyData.bool false = PyData.bool true
            else if false = true then PyData.bool false = PyData.bool true
            else if false = true then PyData.bool false = PyData.bool true
            else Tail2 g n A k B l few many m
          else if false = true then PyData.bool false = PyData.bool true
          else if false = true then PyData.bool false = PyData.bool true
          else Tail2 g n A k B l few many m
    else if false = true then PyData.bool false = PyData.bool true
    else if m = 0 then cmpP CmpOp.NotEq d (PyData.int 0) fun x => truthyP x fun t =>
        if t = true then PyData.bool false = PyData.bool true
        else if false = true then PyData.bool false = PyData.bool true
        else if false = true then PyData.bool false = PyData.bool true
        else Tail2 g n A k B l few many m
      else if false = true then PyData.bool false = PyData.bool true
      else if false = true then PyData.bool false = PyData.bool true
      else Tail2 g n A k B l few many m
theorem sub_sgn {A k : Int} {Q : V → Prop} (q : Q (.int (sgn A))) : subP (norm A k) (.int 0) Q := by
  obtain ⟨a, e, q1, q2, q3, q4, q5, q6, q7⟩ := norm_num A k
  have : sgn a = sgn A := by
    by_cases c : A < 0
    · rw [sgn_neg c, sgn_neg (q6.mpr c)]
    · rw [sgn_pos c, sgn_pos (fun w => c (q6.mp w))]
  rw [q1, num_eq, this]
  walk_at "mRun"
  exact ⟨_, by decide, by decide, rfl, q⟩
theorem tail2 (g : Gl) (F : Facts g) (n : Nat) {A k B l few many m : Int} (hA : bits A ≤ 100) (k1 : -100 ≤ k) (k2 : k ≤ 100) (hB : bits B ≤ 1000) (l1 : -400 ≤ l) (l2 : l ≤ 400)
    (f1 : 0 ≤ few) (f2 : few ≤ 50) (m1 : 0 ≤ many) (m2 : many ≤ 50) (hm : 0 ≤ m) (bm : bits m ≤ 200) : Tail2 g n A k B l few many m := by
  have c1 := units_ok g F n A k few many (by omega) (by omega) (by omega) f1 f2 m1 m2
  have c2 := both_ok g F n A k B l few (by omega) (by omega) (by omega) (by omega) l1 l2 f1 f2
  have c3 := mpf_neg_ok g F (n + 6) A k
  have c4 := from_int_ok g F (n + 2) m
  have c5 := mpf_shift_ok g F (n + 6) m 0 (-few)
  have c6 := roots_ok g F n m (0 + -few) few m hm (by omega) (by omega) (by omega) f1 f2 hm (by omega)
  refine ⟨_, c1, ?_⟩
  rw [truthyP_bool, if_pos rfl]
  refine ⟨_, c2, ?_⟩
  rw [truthyP_bool, if_pos rfl, if_neg Bool.false_ne_true]
  refine sub_sgn ?_
  rw [cmpP_eq, truthyP_bool]
  by_cases c : A < 0
  · rw [sgn_neg c, if_pos (by decide)]
    have c7 := roots_ok g F n (-A) k few m (by omega) (by rw [bits_neg]; omega) (by omega) (by omega) f1 f2 hm (by omega)
    refine ⟨_, c3, _, c7, ?_⟩
    rw [truthyP_bool, if_pos rfl]
    exact ⟨_, c4, _, c5, _, c6, rfl⟩
  · rw [sgn_pos c, if_neg (by decide)]
    have c7 := roots_ok g F n A k few m (by omega) (by omega) (by omega) (by omega) f1 f2 hm (by omega)
    refine ⟨_, c7, ?_⟩
    rw [truthyP_bool, if_pos rfl]
    exact ⟨_, c4, _, c5, _, c6, rfl⟩
theorem tail1 (g : Gl) (F : Facts g) (n : Nat) {A k B l few many m : Int} (hA : bits A ≤ 100) (k1 : -100 ≤ k) (k2 : k ≤ 100) (hB : bits B ≤ 1000) (l1 : -400 ≤ l) (l2 : l ≤ 400)
    (f1 : 0 ≤ few) (f2 : few ≤ 50) (m1 : 0 ≤ many) (m2 : many ≤ 50) (hm : 0 ≤ m) (bm : bits m ≤ 200) : Tail1 g n A k B l few many m := by
  have t2 := tail2 g F n (B := B) (l := l) hA k1 k2 hB l1 l2 f1 f2 m1 m2 hm bm
  by_cases c : 0 < m
  · obtain ⟨⟨a, t⟩, ha, hat⟩ := exists_odd m (by omega)
    have d1 := trailing_ok g F (n + 6) a t ha
    dsimp only at ha hat
    rw [← hat] at d1
    have d2 := from_man_exp_ok g F (n + 3) m 0
    have d3 := rshift_ok g F (n + 6) m t (by omega)
    have e3 : fx m (-(t : Int)) = a := by
      rw [fx_neg_eq (by omega), hat]
      exact pow_ediv a t
    rw [e3] at d3
    have a0 : 0 < a := by
      have hp : (0 : Int) < 2 ^ t := Int.pow_pos (by decide)
      have : ¬ a ≤ 0 := fun h => by
        have q := Int.mul_le_mul_of_nonneg_right h (Int.le_of_lt hp)
        rw [Int.zero_mul] at q
        omega
      omega
    have e2 : PyData.tuple [PyData.int 0, .int a, .int t, .int (Builtin.Int.intBits a)] = norm m 0 := by
      rw [hat, norm_odd ha, num_eq, sgn_pos (by omega), abs_pos (by omega), Int.zero_add]
    refine ⟨_, d1, ?_⟩
    rw [if_pos c]
    refine ⟨_, d2, _, d3, _, d3, a, rfl, by decide, ?_⟩
    rw [e2]
    refine ne_same rfl ?_
    rw [truthyP_bool, if_neg Bool.false_ne_true, if_neg Bool.false_ne_true, if_neg (by omega), if_neg Bool.false_ne_true, if_neg Bool.false_ne_true]
    exact t2
  · have c0 : m = 0 := by omega
    subst c0
    refine ⟨_, trailing_zero g F (n + 6), ?_⟩
    rw [if_neg (by decide), if_neg Bool.false_ne_true, if_pos rfl, cmpP_ne, truthyP_bool, if_neg (by decide), if_neg Bool.false_ne_true, if_neg Bool.false_ne_true]
    exact t2
theorem law_run (fa : Addr) (fc : Value) (g : Gl) (F : Facts g) (n : Nat) (ns : List Int) (hns : ns.length ≤ 63) :
    (law_b fa fc g F (n + 7)).1 ([PyData.list (ns.map PyData.int)].map some ++ List.replicate 20 none) (fun _ => False) (fun r => r = .bool true) := by
  obtain ⟨first, p0, c1⟩ := law_mixed_ok g F (n + 6) ns hns 0 (by decide) (by decide)
  obtain ⟨x, px, c2⟩ := law_mixed_ok g F (n + 6) ns hns 3 (by decide) (by decide)
  obtain ⟨y, py, c3⟩ := law_mixed_ok g F (n + 6) ns hns 1 (by decide) (by decide)
  obtain ⟨w, pw, c4⟩ := law_mixed_ok g F (n + 6) ns hns 2 (by decide) (by decide)
  obtain ⟨A, k, a1, a2, a3, c5⟩ := law_raw_ok g F (n + 6) y py
  obtain ⟨B, l, b1, b2, b3, c6⟩ := law_raw_ok g F (n + 6) w pw
  simp only [law_b]
  walk_at "mRun"
  refine ⟨_, c1, _, c2, by decide, ?_⟩
  walk_at "mRun"
  obtain ⟨few, hf⟩ : ∃ few, few = first.fmod 51 := ⟨_, rfl⟩
  obtain ⟨many, hm⟩ : ∃ many, many = (first.fdiv 51).fmod 51 := ⟨_, rfl⟩
  obtain ⟨E, hE⟩ : ∃ E, E = 1 + x.fmod 120 := ⟨_, rfl⟩
  obtain ⟨m, hn⟩ : ∃ m, m = (x.fdiv 128).fmod (2 ^ E.toNat) := ⟨_, rfl⟩
  have e1 := Int.fmod_lt_of_pos x (by decide : (0 : Int) < 120)
  have e2 := Int.fmod_nonneg_of_pos x (by decide : (0 : Int) < 120)
  have f1 := Int.fmod_lt_of_pos first (by decide : (0 : Int) < 51)
  have f2 := Int.fmod_nonneg_of_pos first (by decide : (0 : Int) < 51)
  have g1 := Int.fmod_lt_of_pos (first.fdiv 51) (by decide : (0 : Int) < 51)
  have g2 := Int.fmod_nonneg_of_pos (first.fdiv 51) (by decide : (0 : Int) < 51)
  have hp : (0 : Int) < 2 ^ E.toNat := Int.pow_pos (by decide)
  have n1 := Int.fmod_lt_of_pos (x.fdiv 128) hp
  have n2 := Int.fmod_nonneg_of_pos (x.fdiv 128) hp
  rw [← hE, ← hf, ← hm, ← hn]
  rw [← hn] at n1 n2
  rw [← hf] at f1 f2
  rw [← hm] at g1 g2
  have bm : bits m ≤ 200 := by
    have := bits_lt (a := m) (k := E) n2 (by omega) n1
    omega
  have c2b : (Builtin.Int.intBits 2 : Int) = 2 := by decide
  refine ⟨by decide, by decide, by decide, by omega, by rw [c2b]; omega, Int.ne_of_gt hp, by decide, by decide, by decide, by decide, by decide, _, c3, _, c5, _, c4, _, c6, by decide, by decide, by decide, by decide, ?_⟩
  have tt : ∀ {k B l : Int}, -80 ≤ k → k ≤ 40 → bits B ≤ 1000 → -400 ≤ l → l ≤ 400 → Tail1 g n A k B l few many m := fun q1 q2 q3 q4 q5 =>
    tail1 g F n (by omega) (by omega) (by omega) q3 q4 q5 f2 (by omega) g2 (by omega) n2 bm
  have h5 := Int.fmod_lt_of_pos m (by decide : (0 : Int) < 5)
  have h5' := Int.fmod_nonneg_of_pos m (by decide : (0 : Int) < 5)
  have d1 := from_man_exp_ok g F (n + 3) (m.fmod 5 - 2) (-few)
  have add : ∀ {k : Int}, -80 ≤ k → k ≤ 40 → ∃ B, bits B ≤ 1000 ∧ CallOK g (n + 7) 192 [norm A k, norm (m.fmod 5 - 2) (-few)] (norm B (-80)) := by
    intro k q1 q2
    have bb : bits (m.fmod 5 - 2) ≤ 2 := bits_le (by omega)
    have r1 := bits_p2 A (j := k + 80) (by omega)
    have r2 := bits_p2 (m.fmod 5 - 2) (j := -few + 80) (by omega)
    have r3 := bits_add_le (A * p2 (k + 80)) ((m.fmod 5 - 2) * p2 (-few + 80))
    exact ⟨_, by omega, mpf_add_ok g F (n + 3) A k (m.fmod 5 - 2) (-few) 80 (by omega) (by omega) (by omega) (by omega) (by omega) (by omega) (by omega) (by omega)⟩
  by_cases s1 : (first.fdiv 2601).fmod 2 = 0
  · rw [if_pos s1]
    refine ⟨_, mpf_shift_ok g F (n + 6) A k (-40), _, mpf_shift_ok g F (n + 6) B l (-40), by decide, by decide, by decide, by decide, ?_⟩
    by_cases s2 : (first.fdiv 5202).fmod 4 = 0
    · rw [if_pos s2]
      obtain ⟨C, q1, q2⟩ := add (k := k + -40) (by omega) (by omega)
      refine ⟨by decide, _, d1, _, q2, ?_⟩
      exact tt (by omega) (by omega) q1 (by omega) (by omega)
    · rw [if_neg s2]
      exact tt (by omega) (by omega) (by omega) (by omega) (by omega)
  · rw [if_neg s1]
    refine ⟨by decide, by decide, by decide, ?_⟩
    by_cases s2 : (first.fdiv 5202).fmod 4 = 0
    · rw [if_pos s2]
      obtain ⟨C, q1, q2⟩ := add (k := k) (by omega) (by omega)
      refine ⟨by decide, _, d1, _, q2, ?_⟩
      exact tt (by omega) (by omega) q1 (by omega) (by omega)
    · rw [if_neg s2]
      exact tt (by omega) (by omega) (by omega) (by omega) (by omega)
end Mine

namespace Mine
theorem fnok_mk {prog : Program} {w : World} {K : Frag} {p : Program} {loose : List Str} {mg mb : Str → Option Value} {q : Str} {sc : Scope} {f : Addr} {c : Value} {params : Arguments} {body : List Stmt} {dV : Value}
    {oc : Value} {od : Option Addr} {osl : Array (Option Value)} {name : Str} {doc pm an ct}
    (h1 : K.lookup f = some ⟨oc, od, .func (fnOf name q params body sc dV .none doc pm an c ct), osl⟩) (h2 : codeIn K c q = true) (h3 : ∀ x ∈ sc.names, x.2 ≠ .cell)
    (h4 : sc.isCoroutine = false) (h5 : sc.isGenerator = false) (h6 : sc.kind = .function) (h7 : (sc.names.map (·.1)).Nodup) (h8 : ∀ p ∈ sc.names, (p.1 == ("__debug__" : Str)) = false) :
    FnOK ⟨prog, w, K, p, loose, mg, mb⟩ ⟨q, sc, f, c⟩ params body dV := ⟨⟨_, _, _, _, _, _, _, _, h1⟩, h2, h3, h4, h5, h6, h7, h8⟩
theorem gfn_mk {prog : Program} {w : World} {K : Frag} {p : Program} {loose : List Str} {mg mb : Str → Option Value} {x : Str} {f : Addr} (h1 : nsIn K mainGlobals x = some (some (.ref f))) (h2 : keepIn K (.ref f) = true) :
    GFn ⟨prog, w, K, p, loose, mg, mb⟩ x f := ⟨h1, h2⟩
theorem gbi_mk {prog : Program} {w : World} {K : Frag} {p : Program} {loose : List Str} {mg mb : Str → Option Value} {x : Str} {v : Value} (h1 : nsIn K mainGlobals x = some none) (h2 : bootBuiltins x = some v) (h3 : x ≠ "__name__") :
    GBi ⟨prog, w, K, p, loose, mg, mb⟩ x v := ⟨h1, h2, h3⟩
theorem gtab_mk {prog : Program} {w : World} {K : Frag} {p : Program} {loose : List Str} {mg mb : Str → Option Value} {x : Str} {a : Addr} {es : Array DictEntry} {n : Nat} (h1 : nsIn K mainGlobals x = some (some (.ref a)))
    (h2 : K.lookup a = some ⟨.type "dict", none, .dict es n, #[]⟩) (h3 : KeysLit w.params es.toList) :
    GTab ⟨prog, w, K, p, loose, mg, mb⟩ x a := ⟨h1, es, n, h2, h3⟩
theorem gcst_tup4 {prog : Program} {w : World} {K : Frag} {p : Program} {loose : List Str} {mg mb : Str → Option Value} {x : Str} {a : Addr} {i j k l : Int} {t u v y : Tok} {n : Nat} {dd : Option Addr} {sl : Array (Option Value)} (h1 : nsIn K mainGlobals x = some (some (.ref a)))
    (h2 : K.lookup a = some ⟨.type "tuple", dd, .seq #[.int i t, .int j u, .int k v, .int l y] n, sl⟩) : GCst ⟨prog, w, K, p, loose, mg, mb⟩ x (.tuple [.int i, .int j, .int k, .int l]) :=
  ⟨_, h1, fun h X => .tuple (X _ _ h2) rfl rfl (.cons (.int _ _) (.cons (.int _ _) (.cons (.int _ _) (.cons (.int _ _) .nil))))⟩
theorem gcst_int {prog : Program} {w : World} {K : Frag} {p : Program} {loose : List Str} {mg mb : Str → Option Value} {x : Str} {i : Int} {t : Tok} (h1 : nsIn K mainGlobals x = some (some (.int i t))) : GCst ⟨prog, w, K, p, loose, mg, mb⟩ x (.int i) := ⟨_, h1, fun _ _ => .int _ _⟩
theorem gcst_str {prog : Program} {w : World} {K : Frag} {p : Program} {loose : List Str} {mg mb : Str → Option Value} {x : Str} {i : Str} {t : Tok} (h1 : nsIn K mainGlobals x = some (some (.str i t))) : GCst ⟨prog, w, K, p, loose, mg, mb⟩ x (.str i) := ⟨_, h1, fun _ _ => .str _ _⟩
theorem row_mk {prog : Program} {w : World} {K : Frag} {p : Program} {loose : List Str} {mg mb : Str → Option Value} {T a : Addr} {x : Str} {i j : Int} {t u : Tok} {n : Nat} {dd : Option Addr} {sl : Array (Option Value)} (h1 : nsIn K T x = some (some (.ref a)))
    (h2 : K.lookup a = some ⟨.type "tuple", dd, .seq #[.int i t, .int j u] n, sl⟩) : TabRow ⟨prog, w, K, p, loose, mg, mb⟩ T x (.tuple [.int i, .int j]) :=
  ⟨_, h1, fun h X => .tuple (X _ _ h2) rfl rfl (.cons (.int _ _) (.cons (.int _ _) .nil))⟩
theorem d1_mk {prog : Program} {w : World} {K : Frag} {p : Program} {loose : List Str} {mg mb : Str → Option Value} {T : Addr} {cl : Value} {dd : Option Addr} {sl : Array (Option Value)} {u : Tok} {n : Nat}
    (h : K.lookup T = some ⟨cl, dd, .seq #[.str (Str.ofString "d") u] n, sl⟩) : ∃ (t u v : Tok) (n : Nat) (o : Obj), (Gl.mk prog w K p loose mg mb).K.lookup T = some o ∧ o.data = .seq #[.str (Str.ofString "d") u] n := ⟨0, u, 0, n, _, h, rfl⟩
theorem d2_mk {prog : Program} {w : World} {K : Frag} {p : Program} {loose : List Str} {mg mb : Str → Option Value} {T : Addr} {cl : Value} {dd : Option Addr} {sl : Array (Option Value)} {t u : Tok} {n : Nat}
    (h : K.lookup T = some ⟨cl, dd, .seq #[.int 0 t, .str (Str.ofString "d") u] n, sl⟩) : ∃ (t u v : Tok) (n : Nat) (o : Obj), (Gl.mk prog w K p loose mg mb).K.lookup T = some o ∧ o.data = .seq #[.int 0 t, .str (Str.ofString "d") u] n := ⟨t, u, 0, n, _, h, rfl⟩
theorem d3_mk {prog : Program} {w : World} {K : Frag} {p : Program} {loose : List Str} {mg mb : Str → Option Value} {T : Addr} {cl : Value} {dd : Option Addr} {sl : Array (Option Value)} {t u v : Tok} {n : Nat}
    (h : K.lookup T = some ⟨cl, dd, .seq #[.int 0 t, .str (Str.ofString "d") u, .int 0 v] n, sl⟩) : ∃ (t u v : Tok) (n : Nat) (o : Obj), (Gl.mk prog w K p loose mg mb).K.lookup T = some o ∧ o.data = .seq #[.int 0 t, .str (Str.ofString "d") u, .int 0 v] n := ⟨t, u, v, n, _, h, rfl⟩
end Mine

namespace Mine
theorem goodW_true {c : ClaimW} {cl : Str → Option Addr} {mean : ExcName → Option Value} {args : List WData} {s₁ s' : Shared} (k : Grows s₁.heap s'.heap) (hg : s'.gens = #[]) (hn : ∀ cls, c.raises args cls = false)
    (hp : c.post args (.bool true) args = true) (hos : s'.os = s₁.os := by rfl) : GoodW c cl mean args s₁ (.ok (.ret (.bool true))) s' :=
  ⟨.inl ⟨.bool true, .bool true, [], rfl, hn, .bool true, hp, unshared_nil⟩, k, hos, hg⟩
theorem close_law {prog : Program} {w : World} {K : Frag} {p : Program} {loose : List Str} {mean : ExcName → Option Value} {mg mb : Str → Option Value} {h : Heap} {L fa l : Addr} {fc : Value} {m : Str → Option Value} {e : Env} {s : Shared}
    {QQ : Flow → Shared → Prop} {E : Value → Shared → Prop} {vs : List Value} {ns : List Int} (KX : K.In h) (T : Top p loose mean mg mb h) (F : Fr h L s.heap m) (hm : m (Str.ofString "script") = some (.ref l)) (hL : h.IsList l vs.toArray)
    (hI : IntsAre vs ns) (hn : ns.length ≤ 63) (FF : Facts ⟨prog, w, K, p, loose, mg, mb⟩)
    (q : ∀ h' tk', Grows h h' → QQ (.ret (.bool true)) { s with heap := h', toks := tk' }) :
    wpAny (model prog w) (callerA.deeper e) (execs (dfn 49).2.1 (envOf (Str.ofString "law") (dfn 49).2.2 L fa fc)) QQ E s := by
  obtain ⟨o, lo, lc, ln, ld⟩ := hL
  have r1 : (callerA.deeper e).handled = none := rfl
  have r2 : (callerA.deeper e).depth + 7 < recursionLimit := by simp only [depth_deeper, depth_caller]; decide
  have r3 : (callerA.deeper e).units + 8 * 7 + 80 < cLine := by simp only [units_deeper, units_caller]; decide
  refine (law_b fa fc ⟨prog, w, K, p, loose, mg, mb⟩ FF 7).2.out _ (fun _ => False) (fun r => r = .bool true) (law_run fa fc ⟨prog, w, K, p, loose, mg, mb⟩ FF 0 ns hn) (callerA.deeper e) h L m s QQ E ⟨r1, r2, r3⟩ ?_ (fun _ _ _ _ x => x.elim) ?_
  · refine ⟨⟨KX, topRead_of T⟩, F, ?_, rfl, (show ((dfn 49).2.2.names.map (·.1)).Nodup from by decide +kernel), (show ∀ p ∈ (dfn 49).2.2.names, (p.1 == ("__debug__" : Str)) = false from by decide +kernel)⟩
    intro i x k e d hd
    match i with
    | 0 =>
      have ex : x = Str.ofString "script" := by
        have e' : some (Str.ofString "script", NameKind.local) = some (x, k) := e
        cases e'; rfl
      have ed : d = PyData.list (ns.map PyData.int) := by
        have e' : some (some (PyData.list (ns.map PyData.int))) = some (some d) := hd
        cases e'; rfl
      subst ex ed
      refine ⟨_, hm, .list (F.keep _ _ lo) lc ld ?_⟩
      exact Rs.ofInts hI
    | i + 1 =>
      exfalso
      have hd' : (List.replicate 20 (none : Option V))[i]? = some (some d) := hd
      obtain ⟨_, h2⟩ := List.getElem?_eq_some_iff.mp hd'
      rw [List.getElem_replicate] at h2
      cases h2
  · intro v x h' tk' hx hr hg
    subst hx
    cases hr
    exact q h' tk' hg
end Mine

set_option maxHeartbeats 0 in
theorem PySem.Challenge.cw_aj5010_01_holds : PySem.Challenge.rw_aj5010_01.Holds := by
  w_on
  o_law
  k_head
  (case hw => w_witness2)
  k_go0
  (with_reducible rename Frag.In _ _ => KX)
  (with_reducible rename Top _ _ _ _ _ _ => T)
  (with_reducible rename Fr _ _ _ _ => F)
  (with_reducible rename IntsAre _ _ => hI)
  (rename _ = (#[] : Array _) => hgens)
  refine Mine.close_law KX T F rfl (by assumption) hI (by omega) ?facts9 ?last9
  case last9 =>
    intro h' tk' hk
    (show GoodW _ _ _ _ _ (.ok (.ret (.bool true))) _)
    refine Mine.goodW_true hk (by assumption) (raisesW_false ?_) ?_
    · wrow_none_raised
    · wrow_post
  case facts9 =>
    exact {
      fn_rshift := Mine.fnok_mk (by k_is) (by k_is) (by decide +kernel) rfl rfl rfl (by decide +kernel) (by decide +kernel)
      fn_lshift := Mine.fnok_mk (by k_is) (by k_is) (by decide +kernel) rfl rfl rfl (by decide +kernel) (by decide +kernel)
      fn_trailing := Mine.fnok_mk (by k_is) (by k_is) (by decide +kernel) rfl rfl rfl (by decide +kernel) (by decide +kernel)
      fn_isqrt_small := Mine.fnok_mk (by k_is) (by k_is) (by decide +kernel) rfl rfl rfl (by decide +kernel) (by decide +kernel)
      fn_sqrtrem := Mine.fnok_mk (by k_is) (by k_is) (by decide +kernel) rfl rfl rfl (by decide +kernel) (by decide +kernel)
      fn_isqrt := Mine.fnok_mk (by k_is) (by k_is) (by decide +kernel) rfl rfl rfl (by decide +kernel) (by decide +kernel)
      fn_sqrt_fixed := Mine.fnok_mk (by k_is) (by k_is) (by decide +kernel) rfl rfl rfl (by decide +kernel) (by decide +kernel)
      fn_round_int := Mine.fnok_mk (by k_is) (by k_is) (by decide +kernel) rfl rfl rfl (by decide +kernel) (by decide +kernel)
      fn_normalize0 := Mine.fnok_mk (by k_is) (by k_is) (by decide +kernel) rfl rfl rfl (by decide +kernel) (by decide +kernel)
      fn_normalize := Mine.fnok_mk (by k_is) (by k_is) (by decide +kernel) rfl rfl rfl (by decide +kernel) (by decide +kernel)
      fn_from_man_exp := Mine.fnok_mk (by k_is) (by k_is) (by decide +kernel) rfl rfl rfl (by decide +kernel) (by decide +kernel)
      fn_from_int := Mine.fnok_mk (by k_is) (by k_is) (by decide +kernel) rfl rfl rfl (by decide +kernel) (by decide +kernel)
      fn_to_int := Mine.fnok_mk (by k_is) (by k_is) (by decide +kernel) rfl rfl rfl (by decide +kernel) (by decide +kernel)
      fn_mpf_round_int := Mine.fnok_mk (by k_is) (by k_is) (by decide +kernel) rfl rfl rfl (by decide +kernel) (by decide +kernel)
      fn_mpf_floor := Mine.fnok_mk (by k_is) (by k_is) (by decide +kernel) rfl rfl rfl (by decide +kernel) (by decide +kernel)
      fn_to_fixed := Mine.fnok_mk (by k_is) (by k_is) (by decide +kernel) rfl rfl rfl (by decide +kernel) (by decide +kernel)
      fn_mpf_cmp := Mine.fnok_mk (by k_is) (by k_is) (by decide +kernel) rfl rfl rfl (by decide +kernel) (by decide +kernel)
      fn_mpf_pos := Mine.fnok_mk (by k_is) (by k_is) (by decide +kernel) rfl rfl rfl (by decide +kernel) (by decide +kernel)
      fn_mpf_neg := Mine.fnok_mk (by k_is) (by k_is) (by decide +kernel) rfl rfl rfl (by decide +kernel) (by decide +kernel)
      fn_mpf_sign := Mine.fnok_mk (by k_is) (by k_is) (by decide +kernel) rfl rfl rfl (by decide +kernel) (by decide +kernel)
      fn_mpf_add := Mine.fnok_mk (by k_is) (by k_is) (by decide +kernel) rfl rfl rfl (by decide +kernel) (by decide +kernel)
      fn_mpf_sub := Mine.fnok_mk (by k_is) (by k_is) (by decide +kernel) rfl rfl rfl (by decide +kernel) (by decide +kernel)
      fn_mpf_mul := Mine.fnok_mk (by k_is) (by k_is) (by decide +kernel) rfl rfl rfl (by decide +kernel) (by decide +kernel)
      fn_mpf_shift := Mine.fnok_mk (by k_is) (by k_is) (by decide +kernel) rfl rfl rfl (by decide +kernel) (by decide +kernel)
      fn_mpf_sqrt := Mine.fnok_mk (by k_is) (by k_is) (by decide +kernel) rfl rfl rfl (by decide +kernel) (by decide +kernel)
      fn_law_mixed := Mine.fnok_mk (by k_is) (by k_is) (by decide +kernel) rfl rfl rfl (by decide +kernel) (by decide +kernel)
      fn_law_raw := Mine.fnok_mk (by k_is) (by k_is) (by decide +kernel) rfl rfl rfl (by decide +kernel) (by decide +kernel)
      fn_law_units_right := Mine.fnok_mk (by k_is) (by k_is) (by decide +kernel) rfl rfl rfl (by decide +kernel) (by decide +kernel)
      fn_law_both_right := Mine.fnok_mk (by k_is) (by k_is) (by decide +kernel) rfl rfl rfl (by decide +kernel) (by decide +kernel)
      fn_law_roots_right := Mine.fnok_mk (by k_is) (by k_is) (by decide +kernel) rfl rfl rfl (by decide +kernel) (by decide +kernel)
      nm_rshift := Mine.gfn_mk (by k_is) (by k_is)
      nm_lshift := Mine.gfn_mk (by k_is) (by k_is)
      nm_trailing := Mine.gfn_mk (by k_is) (by k_is)
      nm_isqrt_small := Mine.gfn_mk (by k_is) (by k_is)
      nm_sqrtrem := Mine.gfn_mk (by k_is) (by k_is)
      nm_isqrt := Mine.gfn_mk (by k_is) (by k_is)
      nm_sqrt_fixed := Mine.gfn_mk (by k_is) (by k_is)
      nm_round_int := Mine.gfn_mk (by k_is) (by k_is)
      nm_normalize0 := Mine.gfn_mk (by k_is) (by k_is)
      nm_normalize := Mine.gfn_mk (by k_is) (by k_is)
      nm_from_man_exp := Mine.gfn_mk (by k_is) (by k_is)
      nm_from_int := Mine.gfn_mk (by k_is) (by k_is)
      nm_to_int := Mine.gfn_mk (by k_is) (by k_is)
      nm_mpf_round_int := Mine.gfn_mk (by k_is) (by k_is)
      nm_mpf_floor := Mine.gfn_mk (by k_is) (by k_is)
      nm_to_fixed := Mine.gfn_mk (by k_is) (by k_is)
      nm_mpf_cmp := Mine.gfn_mk (by k_is) (by k_is)
      nm_mpf_pos := Mine.gfn_mk (by k_is) (by k_is)
      nm_mpf_neg := Mine.gfn_mk (by k_is) (by k_is)
      nm_mpf_sign := Mine.gfn_mk (by k_is) (by k_is)
      nm_mpf_add := Mine.gfn_mk (by k_is) (by k_is)
      nm_mpf_sub := Mine.gfn_mk (by k_is) (by k_is)
      nm_mpf_mul := Mine.gfn_mk (by k_is) (by k_is)
      nm_mpf_shift := Mine.gfn_mk (by k_is) (by k_is)
      nm_mpf_sqrt := Mine.gfn_mk (by k_is) (by k_is)
      nm_law_mixed := Mine.gfn_mk (by k_is) (by k_is)
      nm_law_raw := Mine.gfn_mk (by k_is) (by k_is)
      nm_law_units_right := Mine.gfn_mk (by k_is) (by k_is)
      nm_law_both_right := Mine.gfn_mk (by k_is) (by k_is)
      nm_law_roots_right := Mine.gfn_mk (by k_is) (by k_is)
      c_MPZ_ZERO := Mine.gcst_int (by k_is)
      c_MPZ_ONE := Mine.gcst_int (by k_is)
      c_round_nearest := Mine.gcst_str (by k_is)
      c_round_floor := Mine.gcst_str (by k_is)
      c_round_ceiling := Mine.gcst_str (by k_is)
      c_round_up := Mine.gcst_str (by k_is)
      c_round_down := Mine.gcst_str (by k_is)
      c_round_fast := Mine.gcst_str (by k_is)
      c_fzero := Mine.gcst_tup4 (by k_is) (by k_is)
      c_fone := Mine.gcst_tup4 (by k_is) (by k_is)
      c_fnone := Mine.gcst_tup4 (by k_is) (by k_is)
      c_fnan := Mine.gcst_tup4 (by k_is) (by k_is)
      c_finf := Mine.gcst_tup4 (by k_is) (by k_is)
      c_fninf := Mine.gcst_tup4 (by k_is) (by k_is)
      b_len := Mine.gbi_mk (by k_is) (by boot_by_name) (by decide)
      b_int := Mine.gbi_mk (by k_is) (by boot_by_name) (by decide)
      b_isinstance := Mine.gbi_mk (by k_is) (by boot_by_name) (by decide)
      b_max := Mine.gbi_mk (by k_is) (by boot_by_name) (by decide)
      b_min := Mine.gbi_mk (by k_is) (by boot_by_name) (by decide)
      tab := Mine.gtab_mk (by k_is) (by k_is) (by k_keys)
      row_f := Mine.row_mk (by k_is) (by k_is)
      row_d := Mine.row_mk (by k_is) (by k_is)
      d_109 := Mine.d2_mk (by k_is)
      d_117 := Mine.d2_mk (by k_is)
      d_125 := Mine.d1_mk (by k_is)
      d_140 := Mine.d2_mk (by k_is)
      d_162 := Mine.d2_mk (by k_is)
      d_170 := Mine.d2_mk (by k_is)
      d_185 := Mine.d3_mk (by k_is)
      d_193 := Mine.d2_mk (by k_is)
      d_201 := Mine.d2_mk (by k_is)
      d_216 := Mine.d1_mk (by k_is) }
