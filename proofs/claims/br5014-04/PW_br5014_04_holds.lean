import PyProof.Rows.All
import Wide.All
import OpenK.AllK
import Wide.FinOn
import PySem.Challenge.RW_br5014_04
set_option Elab.async false
set_option maxRecDepth 100000
set_option linter.unusedVariables false
set_option linter.unusedSimpArgs false
/-! part MiniA -/
section
open PySem PySem.W PyProof.Rows
namespace Mine

/-! values without tokens; objects of the call's own -/
inductive PV where
  | none | bool (b : Bool) | int (i : Int) | str (s : Str) | bytes (b : Array UInt8)
  | type (n : String) | blt (i : String) | top (a : Addr) | scr
  | tup (vs : List PV) | meth (f : Addr) (p : PV) | obj (α : Nat)
  | rng (a b c : Int) | opq
  deriving Inhabited

inductive PO where
  | inst (C : Addr) (fs : List (Str × PV))
  | list (vs : List PV)
  | barr (b : Array UInt8)
  deriving Inhabited

abbrev PH := List PO
abbrev Vars := Str → Option PV
def Vars.set (m : Vars) (x : Str) (v : PV) : Vars := fun y => if y = x then some v else m y

inductive R (α : Type) where
  | ok (a : α) (σ : PH)
  | err (e : PV) (σ : PH)
  | bad

def R.bind {α β : Type} : R α → (α → PH → R β) → R β
  | .ok a σ, f => f a σ
  | .err e σ, _ => .err e σ
  | .bad, _ => .bad

def ofO {α β : Type} : Option α → (α → R β) → R β
  | some a, f => f a
  | none, _ => .bad

abbrev CB := Addr → List PV → PH → R PV

/-! names -/
def toPV (K : Frag) : Value → Option PV
  | .none => some .none
  | .bool b => some (.bool b)
  | .int i _ => some (.int i)
  | .str x _ => some (.str x)
  | .type n => some (.type n)
  | .builtin i => some (.blt i)
  | .ref a => if (K.lookup a).isSome then some (.top a) else none
  | _ => none

def globV (K : Frag) (x : Str) : Option PV := match nsIn K mainGlobals x with
  | some (some v) => toPV K v
  | some none => if x = "__name__" then none else (bootBuiltins x).bind (toPV K)
  | none => none

def nameV (K : Frag) (sc : Str → Option NameKind) (m : Vars) (x : Str) : Option PV :=
  if x = "__debug__" then none else match sc x with
    | some .local | some .cell => m x
    | some .free => if x = "__classdict__" then none else m x
    | some .globalImplicit => globV K x
    | _ => none

/-! the world of a law: the fragment, the script -/
structure Wd where
  K : Frag
  ns : List Int
  own : List Addr

def sizeOk (n : Nat) : Bool := decide (n ≤ sizeLine)

/-! truth -/
def truthO (W : Wd) (σ : PH) : PV → Option Bool
  | .none => some false
  | .bool b => some b
  | .int i => some (i != 0)
  | .str x => if x.length ≤ 16777216 then some ((x.length : Int) != 0) else .none
  | .scr => if sizeOk W.ns.length then some (!W.ns.isEmpty) else .none
  | .obj α => match σ[α]? with
    | some (.list vs) => if sizeOk vs.length then some (!vs.isEmpty) else .none
    | _ => .none
  | _ => .none

/-! arithmetic -/
def shlOk (a n : Int) : Bool := decide ((Builtin.Int.intBits a : Int) + n ≤ 2 ^ 27)
def mulOk (a b : Int) : Bool := !(decide (Builtin.Int.intBits a > shortFactorBits) && decide (Builtin.Int.intBits b > shortFactorBits) && Builtin.Int.intTooBig (Builtin.Int.intBits a + Builtin.Int.intBits b))
def powOk (a n : Int) : Bool := decide ((Builtin.Int.intBits a : Int) * n ≤ 2 ^ 27)
def divOk (a b : Int) : Bool := !Builtin.divisionGoesByPylong a b
def intOp (op : Operator) (a b : Int) : Option Int := match op with
  | .Add => some (a + b)
  | .Sub => some (a - b)
  | .Mult => if mulOk a b then some (a * b) else none
  | .FloorDiv => if b ≠ 0 ∧ divOk a b = true then some (a.fdiv b) else none
  | .Mod => if b ≠ 0 then some (a.fmod b) else none
  | .Pow => if 0 ≤ b ∧ powOk a b = true then some (a ^ b.toNat) else none
  | .LShift => if 0 ≤ b ∧ shlOk a b = true then some (a * 2 ^ b.toNat) else none
  | .RShift => if 0 ≤ b then some (a.fdiv (2 ^ b.toNat)) else none
  | .BitAnd => some (Builtin.bitAnd a b)
  | .BitOr => some (Builtin.bitOr a b)
  | .BitXor => some (Builtin.bitXor a b)
  | _ => none

def rep {α : Type} (xs : List α) (n : Int) : List α := (List.replicate n.toNat xs).flatten

def binop (op : Operator) (a b : PV) (σ : PH) : R PV := match op, a, b with
  | op, .int a, .int b => ofO (intOp op a b) fun i => .ok (.int i) σ
  | .Add, .str x, .str y => if sizeOk (x.length + y.length) then .ok (.str (x ++ y)) σ else .bad
  | .Mult, .str x, .int n => if x.length ≤ 16 ∧ n ≤ 1048576 ∧ -(2 ^ 63) ≤ n then .ok (.str (Txt.mul x n)) σ else .bad
  | .Add, .obj α, .obj β => match σ[α]?, σ[β]? with
    | some (.list xs), some (.list ys) => if sizeOk (xs.length + ys.length) then .ok (.obj σ.length) (σ ++ [.list (xs ++ ys)]) else .bad
    | _, _ => .bad
  | .Mult, .obj α, .int n => match σ[α]? with
    | some (.list xs) => if xs.length * n.toNat ≤ 2 ^ 24 ∧ n < 2 ^ 63 ∧ -(2 ^ 63) ≤ n then .ok (.obj σ.length) (σ ++ [.list (rep xs n)]) else .bad
    | _ => .bad
  | _, _, _ => .bad

/-! comparisons -/
def intsO : List PV → Option (List Int)
  | [] => some []
  | .int i :: r => (intsO r).map (i :: ·)
  | _ :: _ => .none

def isT (v w : PV) : Option Bool := match w with
  | .none => (match v with
    | .none => some true
    | .obj _ | .int _ | .bytes _ | .str _ => some false
    | _ => Option.none)
  | .type n => (match v with
    | .type m => some (m == n)
    | .top _ => some false
    | _ => Option.none)
  | .top a => (match v with
    | .top b => if b = a then some true else Option.none
    | _ => Option.none)
  | _ => Option.none

def cmpop (op : CmpOp) (a b : PV) (σ : PH) : Option Bool := match op, a, b with
  | .Lt, .int a, .int b => some (decide (a < b))
  | .LtE, .int a, .int b => some (decide (a ≤ b))
  | .Gt, .int a, .int b => some (decide (b < a))
  | .GtE, .int a, .int b => some (decide (b ≤ a))
  | .Eq, .int a, .int b => some (a == b)
  | .NotEq, .int a, .int b => some (a != b)
  | .Eq, .str a, .str b => some (a == b)
  | .NotEq, .str a, .str b => some (a != b)
  | .Eq, .bytes a, .bytes b => some (a == b)
  | .NotEq, .bytes a, .bytes b => some (a != b)
  | .Is, a, b => isT a b
  | .IsNot, a, b => (isT a b).map (!·)
  | .Eq, .obj α, .obj β => (match σ[α]?, σ[β]? with
    | some (.list xs), some (.list ys) => (intsO xs).bind fun a => (intsO ys).map fun b => decide (a = b)
    | _, _ => Option.none)
  | .NotEq, .obj α, .obj β => (match σ[α]?, σ[β]? with
    | some (.list xs), some (.list ys) => (intsO xs).bind fun a => (intsO ys).map fun b => !decide (a = b)
    | _, _ => Option.none)
  | _, _, _ => Option.none

/-! fields, attributes, methods -/
def lookF (name : Str) (fs : List (Str × PV)) : Option PV := (fs.find? fun e => e.1 == name).map (·.2)
def putF (name : Str) (v : PV) : List (Str × PV) → List (Str × PV)
  | [] => [(name, v)]
  | e :: r => if e.1 == name then (name, v) :: r else e :: putF name v r

def notBlt : PV → Bool
  | .blt _ | .opq => false
  | _ => true

def getA (W : Wd) (σ : PH) (v : PV) (name : Str) : Option PV := match v with
  | .obj α => (match σ[α]? with
    | some (.inst C fs) => if plainGet W.K C name && hasDictIn W.K C && (findIn W.K (.ref C) name).any (noGet W.K) then (lookF name fs).filter notBlt else Option.none
    | _ => Option.none)
  | _ => Option.none

def setOk (K : Frag) (C : Addr) (name : Str) : Bool :=
  findIn K (.ref C) "__setattr__" == some (some (.builtin "object.__setattr__")) && plainOver K C && takerIn K C name == some Option.none && hasDictIn K C
def setA (W : Wd) (σ : PH) (v : PV) (name : Str) (x : PV) : Option PH := match v with
  | .obj α => (match σ[α]? with
    | some (.inst C fs) => if setOk W.K C name && decide (fs.length < 1000) then some (σ.set α (.inst C (putF name x fs))) else Option.none
    | _ => Option.none)
  | _ => Option.none

def clsMeth (K : Frag) (C : Addr) (name : Str) : Option (PV × List PV) :=
  if specialIn K (.ref C) "__getattribute__" == some (some (.builtin "type.__getattribute__")) then
    match typeIn K (.ref C) with
    | some mc => if readsIn K C mc then (match findCls K (.ref C) mc name with
        | some (.get (.builtin g) (.ref p) .none (.ref C')) =>
          if C' = C then
            if g = "staticmethod.__get__" then (match recIn K p "staticmethod" with
              | some (.ref f :: _) => if fnIn K f && keepIn K (.ref f) then some (.top f, []) else Option.none
              | _ => Option.none)
            else if g = "classmethod.__get__" then (match recIn K p "classmethod" with
              | some (.ref f :: _) => if fnIn K f then some (.meth f (.top C), []) else Option.none
              | _ => Option.none)
            else Option.none
          else Option.none
        | _ => Option.none) else Option.none
    | _ => Option.none
  else Option.none

def isNewC : Option CFound → Bool
  | some (.val (.builtin b)) => b == "object.__new__"
  | _ => false
def newIn (K : Frag) : Bool := isNewC (findCls K (.type "object") (.type "type") "__new__")

def getM (W : Wd) (σ : PH) (v : PV) (name : Str) : Option (PV × List PV) := match v with
  | .obj α => (match σ[α]? with
    | some (.inst C fs) => if plainGet W.K C name && (lookF name fs).isNone then (match findIn W.K (.ref C) name with
        | some (some (.ref f)) => if isFn W.K (.ref f) && keepIn W.K (.ref f) then some (.top f, [.obj α]) else Option.none
        | _ => Option.none) else Option.none
    | some (.list _) => if name = "append" then some (.blt "list.append", [.obj α]) else Option.none
    | _ => Option.none)
  | .str x => if name = "index" then some (.blt "str.index", [.str x]) else Option.none
  | .type n => if n = "object" ∧ name = "__new__" ∧ newIn W.K = true then some (.blt "object.__new__", []) else Option.none
  | .top C => clsMeth W.K C name
  | _ => Option.none

def isCallE : Expr → Bool
  | .Call (.Name ..) [] [] _ => true
  | _ => false

def isListComp : Expr → Bool
  | .ListComp .. | .SetComp .. | .DictComp .. => true
  | _ => false

/-! items, slices -/
def pick {α : Type} (xs : List α) (lo hi st : Option Int) : List α :=
  (sliceRange (sliceBounds lo hi st xs.length).1 (sliceBounds lo hi st xs.length).2.1 (sliceBounds lo hi st xs.length).2.2).filterMap (xs[·]?)

def subI (W : Wd) (σ : PH) (v : PV) (i : Int) : Option PV := match v with
  | .obj α => (match σ[α]? with
    | some (.list xs) => if 0 ≤ i ∧ i < 2 ^ 63 then xs[i.toNat]? else Option.none
    | _ => Option.none)
  | .scr => if 0 ≤ i ∧ i < 2 ^ 63 then (W.ns[i.toNat]?).map .int else Option.none
  | .tup xs => if 0 ≤ i ∧ i < 2 ^ 63 then xs[i.toNat]? else Option.none
  | .str x => if 0 ≤ i ∧ i < 2 ^ 63 then (x.cps[i.toNat]?).map fun c => .str ⟨#[c]⟩ else Option.none
  | .bytes b => if 0 ≤ i ∧ i < 2 ^ 40 ∧ sizeOk b.size then (b[i.toNat]?).map fun c => .int c.toNat else Option.none
  | _ => Option.none

def subS (W : Wd) (σ : PH) (v : PV) (lo hi st : Option Int) : R PV := match v with
  | .obj α => (match σ[α]? with
    | some (.list xs) => if st ≠ some 0 ∧ sizeOk xs.length then .ok (.obj σ.length) (σ ++ [.list (pick xs lo hi st)]) else .bad
    | some (.barr b) => if st = Option.none ∧ sizeOk b.size then .ok (.obj σ.length) (σ ++ [.barr (KBy.picked b lo hi)]) else .bad
    | _ => .bad)
  | .scr => if st ≠ some 0 ∧ sizeOk W.ns.length then .ok (.obj σ.length) (σ ++ [.list ((pick W.ns lo hi st).map .int)]) else .bad
  | .bytes b => if st = Option.none ∧ sizeOk b.size then .ok (.bytes (KBy.picked b lo hi)) σ else .bad
  | _ => .bad

def setI (σ : PH) (v : PV) (i : Int) (x : PV) : Option PH := match v with
  | .obj α => (match σ[α]? with
    | some (.list xs) => if 0 ≤ i ∧ i < 2 ^ 63 ∧ i.toNat < xs.length then some (σ.set α (.list (xs.set i.toNat x))) else Option.none
    | some (.barr b) => (match x with
      | .int k => if 0 ≤ i ∧ i < 2 ^ 63 ∧ i.toNat < b.size ∧ 0 ≤ k ∧ k < 256 ∧ sizeOk b.size = true then some (σ.set α (.barr (b.setIfInBounds i.toNat (UInt8.ofNat k.toNat)))) else Option.none
      | _ => Option.none)
    | _ => Option.none)
  | _ => Option.none

/-- b[lo:hi] = x of a bytearray -/
def splicedB (b c : Array UInt8) (lo hi : Int) : Array UInt8 :=
  b.extract 0 (min lo.toNat b.size) ++ c ++ b.extract (max (min lo.toNat b.size) (min hi.toNat b.size)) b.size
def octetsOf (σ : PH) : PV → Option (Array UInt8)
  | .bytes c => some c
  | .obj β => (match σ[β]? with
    | some (.barr c) => some c
    | _ => Option.none)
  | _ => Option.none
def sameObj : PV → PV → Bool
  | .obj α, .obj β => α == β
  | _, _ => false
def setS (σ : PH) (v : PV) (lo hi : Int) (x : PV) : Option PH := match v with
  | .obj α => (match σ[α]? with
    | some (.barr b) => (octetsOf σ x).bind fun c => if 0 ≤ lo ∧ 0 ≤ hi ∧ sameObj v x = false ∧ sizeOk c.size = true ∧ sizeOk (splicedB b c lo hi).size = true then some (σ.set α (.barr (splicedB b c lo hi))) else Option.none
    | _ => Option.none)
  | _ => Option.none

/-! built-ins -/
def octets : List PV → Option (List UInt8)
  | [] => some []
  | .int k :: r => if 0 ≤ k ∧ k < 256 then (octets r).map (UInt8.ofNat k.toNat :: ·) else Option.none
  | _ :: _ => Option.none
def rangeL (a b c : Int) : List Int := (List.range (Builtin.Range.rangeSize a b c).toNat).map fun (k : Nat) => a + c * (k : Int)
def typeOfP (σ : PH) : PV → Option PV
  | .int _ => some (.type "int")
  | .bool _ => some (.type "bool")
  | .bytes _ => some (.type "bytes")
  | .str _ => some (.type "str")
  | .none => some (.type "NoneType")
  | .obj α => (match σ[α]? with
    | some (.list _) => some (.type "list")
    | some (.barr _) => some (.type "bytearray")
    | some (.inst C _) => some (.top C)
    | _ => Option.none)
  | _ => Option.none

def lenP (W : Wd) (σ : PH) : PV → Option Nat
  | .bytes b => some b.size
  | .str x => some x.length
  | .scr => some W.ns.length
  | .tup xs => some xs.length
  | .obj α => (match σ[α]? with
    | some (.list xs) => some xs.length
    | some (.barr b) => some b.size
    | _ => Option.none)
  | _ => Option.none

/-- a class below no built-in but object, whose own maker, or a base's, is a def of the text -/
def ownNewIn (W : Wd) (C : Addr) : Bool := W.own.contains C && match W.K.lookup C with
  | some ⟨_, _, .cls cd, _⟩ => !cd.abstract && !cd.hasDel && !cd.mro.isEmpty && cd.mro.contains (.type "object")
  | _ => false
def newDefIn (K : Frag) (C : Addr) : Option Addr := match K.lookup C with
  | some ⟨_, _, .cls cd, sl⟩ =>
    if (sl.toList[4]?).join == some .none && !cd.mro.isEmpty && cd.mro.contains (.ref C) && specialIn K (.ref C) "__call__" == some (some (.builtin "type.__call__")) && instIn K (.ref C) (.type "type") == some true then
      (match clsMeth K C "__new__" with
      | some (.top f, []) => some f
      | _ => Option.none)
    else Option.none
  | _ => Option.none

def bcall (W : Wd) (f : PV) (args : List PV) (σ : PH) : R PV := match f, args with
  | .blt id, args =>
    if id = "len" then (match args with
      | [v] => ofO (lenP W σ v) fun n => if sizeOk n then .ok (.int n) σ else .bad
      | _ => .bad)
    else if id = "ord" then (match args with
      | [.str x] => if x.length = 1 then .ok (.int (x.cps.getD 0 0 : Nat)) σ else .bad
      | _ => .bad)
    else if id = "list.append" then (match args with
      | [.obj α, v] => (match σ[α]? with
        | some (.list xs) => if sizeOk (xs.length + 1) then .ok .none (σ.set α (.list (xs ++ [v]))) else .bad
        | _ => .bad)
      | _ => .bad)
    else if id = "str.index" then (match args with
      | [.str x, .str y] => if 0 ≤ Txt.find x y then .ok (.int (Txt.find x y)) σ else .bad
      | _ => .bad)
    else if id = "object.__new__" then (match args with
      | [.top C] => if ownNewIn W C then .ok (.obj σ.length) (σ ++ [.inst C []]) else .bad
      | _ => .bad)
    else .bad
  | .type n, args =>
    if n = "type" then (match args with
      | [v] => ofO (typeOfP σ v) fun t => .ok t σ
      | _ => .bad)
    else if n = "int" then (match args with
      | [.int i] => .ok (.int i) σ
      | _ => .bad)
    else if n = "bytes" then (match args with
      | [.int n] => if 0 ≤ n ∧ sizeOk n.toNat then .ok (.bytes (Array.replicate n.toNat 0)) σ else .bad
      | [.tup [.int n]] => if 0 ≤ n ∧ n < 256 then .ok (.bytes #[UInt8.ofNat n.toNat]) σ else .bad
      | [.obj α] => (match σ[α]? with
        | some (.list vs) => ofO (octets vs) fun b => if sizeOk b.length then .ok (.bytes b.toArray) σ else .bad
        | some (.barr b) => if sizeOk b.size then .ok (.bytes b) σ else .bad
        | _ => .bad)
      | _ => .bad)
    else if n = "bytearray" then (match args with
      | [.int n] => if 0 ≤ n ∧ sizeOk n.toNat then .ok (.obj σ.length) (σ ++ [.barr (Array.replicate n.toNat 0)]) else .bad
      | [.bytes b] => if sizeOk b.size then .ok (.obj σ.length) (σ ++ [.barr b]) else .bad
      | _ => .bad)
    else if n = "range" then (match args with
      | [.int b] => if Builtin.Range.small 0 b 1 then .ok (.rng 0 b 1) σ else .bad
      | [.int a, .int b] => if Builtin.Range.small a b 1 then .ok (.rng a b 1) σ else .bad
      | [.int a, .int b, .int c] => if c ≠ 0 ∧ Builtin.Range.small a b c ∧ divOk (b - a) c = true then .ok (.rng a b c) σ else .bad
      | _ => .bad)
    else .bad
  | _, _ => .bad

/-! a call -/
def callable (K : Frag) : PV → Bool
  | .top a => keepIn K (.ref a)
  | .meth f _ => fnIn K f
  | .blt _ | .type _ => true
  | _ => false

/-- the object of a maker of the text's own, set up -/
def initOwn (cb : CB) (fI a : Addr) (args : List PV) : PV → PH → R PV
  | .obj β, σ₁ => (match σ₁[β]? with
    | some (.inst C _) => if C = a then (cb fI (.obj β :: args) σ₁).bind fun r σ' => (match r with
        | .none => .ok (.obj β) σ'
        | _ => .bad) else .bad
    | _ => .bad)
  | _, _ => .bad
theorem initOwn_ok {cb : CB} {fI a : Addr} {args : List PV} {o : PV} {σ₁ : PH} (nb : initOwn cb fI a args o σ₁ ≠ .bad) : ∃ β fs, o = .obj β ∧ σ₁[β]? = some (.inst a fs) ∧
    initOwn cb fI a args o σ₁ = (cb fI (.obj β :: args) σ₁).bind fun r σ' => (match r with
        | .none => .ok (.obj β) σ'
        | _ => .bad) := by
  unfold initOwn at nb ⊢
  split at nb
  · rename_i β
    split at nb
    · rename_i C fs h
      split at nb
      · rename_i hC
        subst hC
        refine ⟨β, fs, rfl, h, ?_⟩
        simp only [h, if_true]
      · exact absurd rfl nb
    · exact absurd rfl nb
  · exact absurd rfl nb

def callV (W : Wd) (cb : CB) (f : PV) (args : List PV) (σ : PH) : R PV := match f with
  | .top a => (match W.K.lookup a with
    | some ⟨_, _, .func _, _⟩ => cb a args σ
    | some ⟨_, _, .cls _, _⟩ => if makesIn W.K a then (match findIn W.K (.ref a) "__init__" with
        | some (some (.ref fI)) => if isFn W.K (.ref fI) then
            (cb fI (.obj σ.length :: args) (σ ++ [.inst a []])).bind fun r σ' => match r with
              | .none => .ok (.obj σ.length) σ'
              | _ => .bad
          else .bad
        | _ => .bad)
      else (match newDefIn W.K a, findIn W.K (.ref a) "__init__" with
        | some fN, some (some (.ref fI)) => if isFn W.K (.ref fI) then
            (cb fN (.top a :: args) σ).bind (initOwn cb fI a args) else .bad
        | _, _ => .bad)
    | _ => .bad)
  | .meth f p => cb f (p :: args) σ
  | .blt _ | .type _ => bcall W f args σ
  | _ => .bad

def evL (f : Expr → PH → R PV) : List Expr → PH → R (List PV)
  | [], σ => .ok [] σ
  | e :: r, σ => (f e σ).bind fun v σ => (evL f r σ).bind fun vs σ => .ok (v :: vs) σ

def partO : PV → Option (Option Int)
  | .none => some Option.none
  | .int i => some (some i)
  | _ => Option.none

/-- the items of what a for or a comprehension walks, where the walk cannot turn them -/
def itemsO (W : Wd) (σ : PH) : PV → Option (List PV)
  | .rng a b c => if Builtin.Range.small a b c = true ∧ 0 ≤ Builtin.Range.rangeSize a b c then some ((rangeL a b c).map .int) else Option.none
  | .tup vs => some vs
  | .bytes b => some (b.toList.map fun c => .int c.toNat)
  | .str x => some (x.cps.toList.map fun c => .str ⟨#[c]⟩)
  | .scr => some (W.ns.map .int)
  | _ => Option.none

def isStarredE : Expr → Bool
  | .Starred .. => true
  | _ => false

/-- what a for or a comprehension walks: a list, which may turn, or fixed items -/
inductive Src where
  | lst (α n : Nat)
  | fix (is : List PV)
def Src.len : Src → Nat
  | .lst _ n => n
  | .fix is => is.length
def Src.get : Src → PH → Nat → Option (Option PV)
  | .lst α _, σ, i => (match σ[α]? with
    | some (.list xs) => some xs[i]?
    | _ => Option.none)
  | .fix is, _, i => some is[i]?
def srcO (W : Wd) (σ : PH) : PV → Option Src
  | .obj α => (match σ[α]? with
    | some (.list xs) => some (.lst α xs.length)
    | _ => Option.none)
  | v => (itemsO W σ v).map .fix

def compG (f : Vars → PH → R PV) (x : Str) (m : Vars) (S : Src) : Nat → Nat → PH → R (List PV)
  | 0, i, σ => (match S.get σ i with
    | some Option.none => .ok [] σ
    | _ => .bad)
  | k + 1, i, σ => (match S.get σ i with
    | some (some v) => (f (m.set x v) σ).bind fun w σ => (compG f x m S k (i + 1) σ).bind fun ws σ => .ok (w :: ws) σ
    | _ => .bad)

/-- the names that a comprehension sees of the frame around it -/
def compVars (sc' : Str → Option NameKind) (m : Vars) : Vars := fun y => if sc' y = some .free then m y else Option.none
def compOk (sc : Str → Option NameKind) (m : Vars) (x : Str) (scope : Scope) : Bool :=
  scope.kind == .function && scope.names.lookup x == some .local &&
  scope.names.all fun y => y.2 != .cell && (y.2 != .local || scope.names.lookup y.1 == some .local) && (y.2 != .free || (scope.names.lookup y.1 == some .free && (sc y.1 == some .cell || sc y.1 == some .free) && (m y.1).isSome))
def plainIter : Expr → Bool
  | .Set .. => false
  | _ => true
def compW (W : Wd) (f : Vars → PH → R PV) (x : Str) (m : Vars) (v : PV) (σ : PH) : R PV :=
  ofO (srcO W σ v) fun S => if sizeOk S.len then (compG f x m S S.len 0 σ).bind fun vs σ => .ok (.obj σ.length) (σ ++ [.list vs]) else .bad

section
variable (W : Wd) (cb : CB)
mutual
def ev (sc : Str → Option NameKind) : Nat → Vars → Expr → PH → R PV
  | 0, _, _, _ => .bad
  | n + 1, m, e, σ => match e with
    | .Constant .none _ _ => .ok .none σ
    | .Constant (.bool b) _ _ => .ok (.bool b) σ
    | .Constant (.int i) _ _ => .ok (.int i) σ
    | .Constant (.str x) _ _ => .ok (.str x) σ
    | .Constant (.bytes b) _ _ => .ok (.bytes b.toArray) σ
    | .Name x _ => ofO (nameV W.K sc m x) fun v => .ok v σ
    | .BinOp l op r _ => (ev sc n m l σ).bind fun a σ => (ev sc n m r σ).bind fun b σ => binop op a b σ
    | .UnaryOp .USub x _ => (ev sc n m x σ).bind fun v σ => (match v with
      | .int i => .ok (.int (-i)) σ
      | _ => .bad)
    | .UnaryOp .Not x _ => (ev sc n m x σ).bind fun v σ => ofO (truthO W σ v) fun b => .ok (.bool (!b)) σ
    | .IfExp t a b _ => (ts sc n m t σ).bind fun c σ => if c then ev sc n m a σ else ev sc n m b σ
    | .BoolOp .And [a, b] _ => (ev sc n m a σ).bind fun v σ => ofO (truthO W σ v) fun c => if c then ev sc n m b σ else .ok v σ
    | .BoolOp .Or [a, b] _ => (ev sc n m a σ).bind fun v σ => ofO (truthO W σ v) fun c => if c then .ok v σ else ev sc n m b σ
    | .Compare l [op] [r] _ => if behindInMarks op r then .bad else (ev sc n m l σ).bind fun a σ => (ev sc n m r σ).bind fun b σ => ofO (cmpop op a b σ) fun c => .ok (.bool c) σ
    | .List es _ => (evL (ev sc n m) es σ).bind fun vs σ => if sizeOk vs.length then .ok (.obj σ.length) (σ ++ [.list vs]) else .bad
    | .Tuple es _ _ => (evL (ev sc n m) es σ).bind fun vs σ => if sizeOk vs.length then .ok (.tup vs) σ else .bad
    | .Attribute v a _ => if isCallE v then .bad else (ev sc n m v σ).bind fun o σ => ofO (getA W σ o a) fun r => .ok r σ
    | .Subscript v (.Slice lo hi st _) _ => (ev sc n m v σ).bind fun o σ => (evO sc n m lo σ).bind fun a σ => (evO sc n m hi σ).bind fun b σ => (evO sc n m st σ).bind fun c σ =>
        ofO (partO a) fun a => ofO (partO b) fun b => ofO (partO c) fun c => subS W σ o a b c
    | .Subscript v i _ => (ev sc n m v σ).bind fun o σ => (ev sc n m i σ).bind fun k σ => (match k with
      | .int k => ofO (subI W σ o k) fun r => .ok r σ
      | _ => .bad)
    | .Call (.Attribute o a ap) as [] pos => if isCallE o || decide (as.length ≥ 29) || !(ap.endLine == pos.line) || as.any isStarredE then .bad else (ev sc n m o σ).bind fun ov σ => ofO (getM W σ ov a) fun fx => if callable W.K fx.1 then (evL (ev sc n m) as σ).bind fun vs σ => callV W cb fx.1 (fx.2 ++ vs) σ else .bad
    | .Call (.Name x p) as [] _ => if as.any isStarredE then .bad else (ev sc n m (.Name x p) σ).bind fun f σ => if callable W.K f then (evL (ev sc n m) as σ).bind fun vs σ => callV W cb f ([] ++ vs) σ else .bad
    | .ListComp elt [⟨.Name x _, iter, [], 0⟩] scope _ => if compOk sc m x scope && plainIter iter then
        (ev sc n m iter σ).bind fun v σ => compW W (fun m' => ev (fun y => scope.names.lookup y) n m' elt) x (compVars (fun y => scope.names.lookup y) m) v σ
      else .bad
    | _ => .bad
def evO (sc : Str → Option NameKind) : Nat → Vars → Option Expr → PH → R PV
  | 0, _, _, _ => .bad
  | _ + 1, _, .none, σ => .ok .none σ
  | n + 1, m, some e, σ => ev sc n m e σ
/-- a test -/
def ts (sc : Str → Option NameKind) : Nat → Vars → Expr → PH → R Bool
  | 0, _, _, _ => .bad
  | n + 1, m, e, σ => match e with
    | .UnaryOp .Not x _ => (ts sc n m x σ).bind fun b σ => .ok (!b) σ
    | .BoolOp op es _ => tsL sc n op m es σ
    | .IfExp .. => .bad
    | .Compare l [op] [r] _ => if behindInMarks op r then .bad else (ev sc n m l σ).bind fun a σ => (ev sc n m r σ).bind fun b σ => ofO (cmpop op a b σ) fun c => .ok c σ
    | .Compare .. => .bad
    | e => (ev sc n m e σ).bind fun v σ => ofO (truthO W σ v) fun b => .ok b σ
def tsL (sc : Str → Option NameKind) : Nat → BoolOp → Vars → List Expr → PH → R Bool
  | 0, _, _, _, _ => .bad
  | _ + 1, op, _, [], σ => .ok (op == .And) σ
  | n + 1, op, m, e :: r, σ => (ts sc n m e σ).bind fun b σ => match op, b with
    | .And, false => .ok false σ
    | .Or, true => .ok true σ
    | _, _ => tsL sc n op m r σ
end

end

inductive Fl where
  | next | brk | cont | ret (v : PV)
inductive SR where
  | ok (f : Fl) (m : Vars) (σ : PH)
  | err (e : PV) (m : Vars) (σ : PH)
  | bad
/-- an expression's answer, handed to the rest of a statement -/
def R.st (m : Vars) : R α → (α → PH → SR) → SR
  | .ok a σ, f => f a σ
  | .err e σ, _ => .err e m σ
  | .bad, _ => .bad
def ofS : Option α → (α → SR) → SR
  | some a, f => f a
  | .none, _ => .bad
def SR.andThen : SR → (Vars → PH → SR) → SR
  | .ok .next m σ, f => f m σ
  | r, _ => r

def localIn (sc : Str → Option NameKind) (x : Str) : Bool := match sc x with
  | some .local | some .cell => true
  | _ => false

/-- targets of a loop: a name, or a tuple of names -/
def tgt (sc : Str → Option NameKind) : Expr → Vars → PV → Option Vars
  | .Name x _, m, v => if localIn sc x then some (m.set x v) else .none
  | .Tuple [.Name x _, .Name y _] _ _, m, .tup [v, w] => if localIn sc x && localIn sc y && x ≠ y then some ((m.set x v).set y w) else .none
  | _, _, _ => .none

def loopG (tg : Vars → PV → Option Vars) (body : Vars → PH → SR) (S : Src) : Nat → Nat → Vars → PH → SR
  | 0, i, m, σ => (match S.get σ i with
    | some Option.none => .ok .next m σ
    | _ => .bad)
  | k + 1, i, m, σ => (match S.get σ i with
    | some (some v) => ofS (tg m v) fun m' => match body m' σ with
      | .ok .next m'' σ' | .ok .cont m'' σ' => loopG tg body S k (i + 1) m'' σ'
      | .ok .brk m'' σ' => .ok .next m'' σ'
      | x => x
    | _ => .bad)
/-- a while, of so many turns at most -/
def loopW (test : Vars → PH → R Bool) (body : Vars → PH → SR) : Nat → Vars → PH → SR
  | 0, _, _ => .bad
  | k + 1, m, σ => (test m σ).st m fun b σ => if b then (match body m σ with
      | .ok .next m' σ' | .ok .cont m' σ' => loopW test body k m' σ'
      | .ok .brk m' σ' => .ok .next m' σ'
      | x => x) else .ok .next m σ

def whileMost : Nat := 1048576

section
variable (W : Wd) (cb : CB) (sc : Str → Option NameKind)
mutual
def ex : Nat → Vars → Stmt → PH → SR
  | 0, _, _, _ => .bad
  | n + 1, m, s, σ => match s with
    | .Pass _ => .ok .next m σ
    | .Return .none _ => .ok (.ret .none) m σ
    | .Return (some e) _ => (ev W cb sc n m e σ).st m fun v σ => .ok (.ret v) m σ
    | .Expr e _ => if isListComp e then .bad else (ev W cb sc n m e σ).st m fun _ σ => .ok .next m σ
    | .Assign [.Name x _] e _ => if localIn sc x then (ev W cb sc n m e σ).st m fun v σ => .ok .next (m.set x v) σ else .bad
    | .Assign [.Attribute o a _] e _ => if isListComp e then .bad else (ev W cb sc n m e σ).st m fun v σ => (ev W cb sc n m o σ).st m fun ov σ => ofS (setA W σ ov a v) fun σ => .ok .next m σ
    | .Assign [.Subscript o (.Slice (some lo) (some hi) .none _) _] e _ => if isListComp e then .bad else
        (ev W cb sc n m e σ).st m fun v σ => (ev W cb sc n m o σ).st m fun ov σ => (ev W cb sc n m lo σ).st m fun a σ => (ev W cb sc n m hi σ).st m fun b σ => (match a, b with
          | .int a, .int b => ofS (setS σ ov a b v) fun σ => .ok .next m σ
          | _, _ => .bad)
    | .Assign [.Subscript o i _] e _ => if isListComp e then .bad else
        (ev W cb sc n m e σ).st m fun v σ => (ev W cb sc n m o σ).st m fun ov σ => (ev W cb sc n m i σ).st m fun iv σ => (match iv with
          | .int k => ofS (setI σ ov k v) fun σ => .ok .next m σ
          | _ => .bad)
    | .AugAssign (.Name x p) op e _ => if localIn sc x then (ev W cb sc n m (.Name x p) σ).st m fun a σ => (ev W cb sc n m e σ).st m fun b σ => (match a, b with
        | .int a, .int b => ofS (intOp op a b) fun i => .ok .next (m.set x (.int i)) σ
        | _, _ => .bad) else .bad
    | .AugAssign (.Attribute o a _) op e _ => (ev W cb sc n m o σ).st m fun ov σ => ofS (getA W σ ov a) fun old => (ev W cb sc n m e σ).st m fun b σ => (match old, b with
        | .int x, .int y => ofS (intOp op x y) fun i => ofS (setA W σ ov a (.int i)) fun σ => .ok .next m σ
        | _, _ => .bad)
    | .If t a b _ => (ts W cb sc n m t σ).st m fun c σ => if c then exs n m a σ else exs n m b σ
    | .For tg it body [] _ => if !plainIter it then .bad else (ev W cb sc n m it σ).st m fun v σ => ofS (srcO W σ v) fun S => loopG (tgt sc tg) (fun m σ => exs n m body σ) S S.len 0 m σ
    | .While t body [] _ => loopW (fun m σ => ts W cb sc n m t σ) (fun m σ => exs n m body σ) whileMost m σ
    | .Try body (_ :: _) [] [] _ => (match exs n m body σ with
      | .err .. => .bad
      | r => r)
    | _ => .bad
def exs : Nat → Vars → List Stmt → PH → SR
  | 0, _, _, _ => .bad
  | _ + 1, m, [], σ => .ok .next m σ
  | n + 1, m, s :: r, σ => (ex n m s σ).andThen fun m σ => exs n m r σ
end
end

/-! calls of defs -/
/-- what a def's names are bound to -/
def lastOf {α : Type} (ps : List Str) (ds : List α) : List α := ds.drop (ds.length - ps.length)
def slotsOf {α : Type} (ps : List Str) (vals ds : List α) : List (Str × α) :=
  ((ps.drop (ps.length - (lastOf ps ds).length)).zip (lastOf ps ds)).foldl (fun acc x => if (acc.lookup x.1).isNone then acc ++ [x] else acc) (ps.zip vals)
def bindsOf {α : Type} (ps : List Str) (vals ds : List α) : List (Str × α) := ps.filterMap fun n => ((slotsOf ps vals ds).lookup n).map (n, ·)
def noMiss {α : Type} (ps : List Str) (vals ds : List α) : Bool := ((ps.take (ps.length - (lastOf ps ds).length)).filter fun n => ((ps.zip vals).lookup n).isNone).isEmpty
def dflP (K : Frag) (fd : FuncData) : Option (List PV) := match fd.defaults with
  | .none => some []
  | .ref T => (match K.lookup T with
    | some ⟨_, _, .seq items _, _⟩ => items.toList.mapM (toPV K)
    | _ => .none)
  | _ => .none
def psOf (fd : FuncData) : List Str := fd.params.posonlyargs.map (·.arg) ++ fd.params.args.map (·.arg)
def bindPL (K : Frag) (fd : FuncData) (args : List PV) : Option (List (Str × PV)) :=
  if !fd.params.kwonlyargs.isEmpty then .none else (dflP K fd).bind fun ds =>
    if noMiss (psOf fd) args ds then (match fd.params.vararg, fd.params.kwarg with
      | .none, .none => if args.length ≤ (psOf fd).length then some (bindsOf (psOf fd) args ds) else .none
      | some va, some ka => if sizeOk args.length then some (bindsOf (psOf fd) args ds ++ [(va.arg, .tup (args.drop (psOf fd).length)), (ka.arg, .opq)]) else .none
      | _, _ => .none)
    else .none
def bindP (l : List (Str × PV)) : Vars := fun x => l.reverse.lookup x

/-- a def that the rules cover -/
def noCells (sc : Scope) : Bool := sc.names.all fun y => y.2 != .cell
def defOk (K : Frag) (fd : FuncData) : Bool :=
  fd.globals == mainGlobals && fd.builtins == builtinsNs && codeIn K fd.code fd.qualname && fd.scope.kind == .function && !fd.scope.isCoroutine && !fd.scope.isGenerator &&
  fd.closure.all (fun y => (K.lookup y.2).isSome) && decide ((fd.closure.map (·.2)).Nodup) && (noCells fd.scope || (fd.closure.isEmpty && decide (((cellsFrom 0 fd.scope.names []).map (·.1)).Nodup) && fd.scope.names.all fun y => y.2 != .cell || fd.scope.names.lookup y.1 == some .cell))
def bindOk (fd : FuncData) (l : List (Str × PV)) : Bool :=
  l.all fun y => fd.scope.names.lookup y.1 == some .local || (!noCells fd.scope && fd.scope.names.lookup y.1 == some .cell)

def fuel : Nat := 100

def callF (W : Wd) : Nat → CB
  | 0, _, _, _ => .bad
  | d + 1, f, args, σ => match W.K.lookup f with
    | some ⟨_, _, .func fd, _⟩ => (match fd.body with
      | .stmts body => if defOk W.K fd then (match bindPL W.K fd args with
        | some l => if bindOk fd l then (match exs W (callF W d) (fun y => fd.scope.names.lookup y) fuel (bindP l) body σ with
          | .ok (.ret v) _ σ => .ok v σ
          | .ok _ _ σ => .ok .none σ
          | .err e _ σ => .err e σ
          | .bad => .bad) else .bad
        | .none => .bad) else .bad
      | _ => .bad)
    | _ => .bad

end Mine
end
/-! part MiniB -/
section
open PySem PySem.W PySem.Calls PyProof.Rows
namespace Mine

abbrev tupObj (vs : List Value) : Obj := { cls := .type "tuple", data := .seq vs.toArray }
abbrev barrObj (b : Array UInt8) : Obj := { cls := .type "bytearray", data := .bytearray b }
abbrev rngObj (a b c : Int) (t u w : Tok) : Obj := { cls := .type "range", dict := none, data := .fields #[.int a t, .int b u, .int c w], slots := #[] }
abbrev Foot := List (List Addr)
abbrev Led := List (Addr × Obj)

mutual
def VR (sA : Addr) (ρ : Foot) (news : Led) : PV → Value → Prop
  | .none, v => v = .none
  | .bool b, v => v = .bool b
  | .int i, v => ∃ t, v = .int i t
  | .str x, v => ∃ t, v = .str x t
  | .bytes b, v => ∃ t, v = .bytes b t
  | .type n, v => v = .type n
  | .blt i, v => v = .builtin i
  | .top a, v => v = .ref a
  | .scr, v => v = .ref sA
  | .tup ps, v => ∃ a vs, v = .ref a ∧ (a, tupObj vs) ∈ news ∧ a ∉ ρ.flatten ∧ LR sA ρ news ps vs
  | .meth f p, v => ∃ a u, v = .ref a ∧ (a, methodObj (.ref f) u) ∈ news ∧ a ∉ ρ.flatten ∧ VR sA ρ news p u
  | .obj α, v => ∃ a fp, v = .ref a ∧ ρ[α]? = some (a :: fp)
  | .rng a b c, v => ∃ r t u w, v = .ref r ∧ (r, rngObj a b c t u w) ∈ news ∧ r ∉ ρ.flatten
  | .opq, _ => True
def LR (sA : Addr) (ρ : Foot) (news : Led) : List PV → List Value → Prop
  | [], vs => vs = []
  | p :: ps, vs => ∃ v r, vs = v :: r ∧ VR sA ρ news p v ∧ LR sA ρ news ps r
end

def isValT (n : String) : Bool := n == "tuple" || n == "method" || n == "range"
def isDict (d : Data) : Bool := match d with
  | .dict .. | .cell .. => true
  | _ => false
def isVal (o : Obj) : Bool := match o.cls with
  | .type n => !isDict o.data && isValT n
  | _ => false
theorem isVal_dict {o : Obj} (h : isDict o.data = true) : isVal o = false := by
  unfold isVal; split
  · rw [h]; rfl
  · rfl
theorem isVal_tup (vs : List Value) : isVal (tupObj vs) = true := (by decide +kernel : isValT "tuple" = true)
theorem isVal_meth (f u : Value) : isVal (methodObj f u) = true := (by decide +kernel : isValT "method" = true)
theorem isVal_rng (a b c : Int) (t u w : Tok) : isVal (rngObj a b c t u w) = true := (by decide +kernel : isValT "range" = true)

structure Ext (cs : List Addr) (ρ : Foot) (news : Led) (ρ' : Foot) (news' : Led) : Prop where
  pre : ∃ t, ρ' = ρ ++ t
  keep : ∀ p ∈ news, p.1 ∉ ρ.flatten → (p.1 ∉ cs ∨ isVal p.2 = true) → p ∈ news' ∧ p.1 ∉ ρ'.flatten

theorem Ext.refl {cs ρ news} : Ext cs ρ news ρ news := ⟨⟨[], by simp⟩, fun _ h1 h2 _ => ⟨h1, h2⟩⟩
theorem Ext.trans {cs ρ₁ n₁ ρ₂ n₂ ρ₃ n₃} (x : Ext cs ρ₁ n₁ ρ₂ n₂) (y : Ext cs ρ₂ n₂ ρ₃ n₃) : Ext cs ρ₁ n₁ ρ₃ n₃ := by
  obtain ⟨t, e⟩ := x.pre
  obtain ⟨u, f⟩ := y.pre
  exact ⟨⟨t ++ u, by rw [f, e, List.append_assoc]⟩, fun p h1 h2 h3 => y.keep p (x.keep p h1 h2 h3).1 (x.keep p h1 h2 h3).2 h3⟩
theorem Ext.weak {cs cs' ρ n ρ' n'} (x : Ext cs ρ n ρ' n') (h : ∀ c ∈ cs, c ∈ cs') : Ext cs' ρ n ρ' n' :=
  ⟨x.pre, fun p h1 h2 h3 => x.keep p h1 h2 (h3.imp (fun k q => k (h _ q)) id)⟩
theorem Ext.nil {cs' ρ n ρ' n'} (x : Ext [] ρ n ρ' n') : Ext cs' ρ n ρ' n' := x.weak fun _ h => nomatch h
theorem Ext.at {cs ρ n ρ' n'} (x : Ext cs ρ n ρ' n') {α : Nat} {fp : List Addr} (h : ρ[α]? = some fp) : ρ'[α]? = some fp := by
  obtain ⟨t, e⟩ := x.pre
  rw [e, List.getElem?_append_left (List.getElem?_eq_some_iff.mp h).1, h]

mutual
theorem VR.mono {cs sA ρ n ρ' n'} (x : Ext cs ρ n ρ' n') : ∀ p v, VR sA ρ n p v → VR sA ρ' n' p v
  | .opq, _, h | .none, _, h | .bool _, _, h | .int _, _, h | .str _, _, h | .bytes _, _, h | .type _, _, h | .blt _, _, h | .top _, _, h | .scr, _, h => h
  | .tup ps, _, ⟨a, vs, e, hm, hn, hl⟩ => ⟨a, vs, e, (x.keep _ hm hn (.inr (isVal_tup _))).1, (x.keep _ hm hn (.inr (isVal_tup _))).2, LR.mono x ps vs hl⟩
  | .meth _ p, _, ⟨a, u, e, hm, hn, hl⟩ => ⟨a, u, e, (x.keep _ hm hn (.inr (isVal_meth _ _))).1, (x.keep _ hm hn (.inr (isVal_meth _ _))).2, VR.mono x p u hl⟩
  | .obj _, _, ⟨a, fp, e, h⟩ => ⟨a, fp, e, x.at h⟩
  | .rng _ _ _, _, ⟨r, t, u, w, e, hm, hn⟩ => ⟨r, t, u, w, e, (x.keep _ hm hn (.inr (isVal_rng ..))).1, (x.keep _ hm hn (.inr (isVal_rng ..))).2⟩
theorem LR.mono {cs sA ρ n ρ' n'} (x : Ext cs ρ n ρ' n') : ∀ ps vs, LR sA ρ n ps vs → LR sA ρ' n' ps vs
  | [], _, h => h
  | p :: ps, _, ⟨v, r, e, h1, h2⟩ => ⟨v, r, e, VR.mono x p v h1, LR.mono x ps r h2⟩
end

theorem LR.length {sA ρ n} : ∀ {ps vs}, LR sA ρ n ps vs → ps.length = vs.length
  | [], _, h => by cases h; rfl
  | _ :: _, _, ⟨_, _, e, _, h⟩ => by subst e; simp [h.length]
theorem LR.get {sA ρ n} : ∀ {ps vs}, LR sA ρ n ps vs → ∀ {i : Nat} {p}, ps[i]? = some p → ∃ v, vs[i]? = some v ∧ VR sA ρ n p v
  | [], _, _, _, _, e => by simp at e
  | _ :: _, _, ⟨v, r, e, h1, h2⟩, i, p, q => by
    subst e
    cases i with
    | zero => simp at q; subst q; exact ⟨v, rfl, h1⟩
    | succ i => simp at q ⊢; exact h2.get q
theorem LR.append {sA ρ n} : ∀ {ps vs qs ws}, LR sA ρ n ps vs → LR sA ρ n qs ws → LR sA ρ n (ps ++ qs) (vs ++ ws)
  | [], _, _, _, h, k => by cases h; exact k
  | _ :: _, _, _, _, ⟨v, r, e, h1, h2⟩, k => ⟨v, r ++ _, by rw [e]; rfl, h1, h2.append k⟩
theorem LR.of_get {sA ρ n} : ∀ {ps : List PV} {vs : List Value}, ps.length = vs.length → (∀ (i : Nat) p v, ps[i]? = some p → vs[i]? = some v → VR sA ρ n p v) → LR sA ρ n ps vs
  | [], [], _, _ => rfl
  | [], _ :: _, e, _ => by simp at e
  | _ :: _, [], e, _ => by simp at e
  | p :: ps, v :: vs, e, h => ⟨v, vs, rfl, h 0 p v rfl rfl, LR.of_get (by simpa using e) fun i p v a b => h (i + 1) p v (by simpa using a) (by simpa using b)⟩

def FR (sA : Addr) (ρ : Foot) (news : Led) : List (Str × PV) → List DictEntry → Prop
  | [], es => es = []
  | f :: r, es => ∃ h t v es', es = ⟨h, .str f.1 t, v⟩ :: es' ∧ VR sA ρ news f.2 v ∧ FR sA ρ news r es'
theorem FR.mono {cs sA ρ n ρ' n'} (x : Ext cs ρ n ρ' n') : ∀ fs es, FR sA ρ n fs es → FR sA ρ' n' fs es
  | [], _, h => h
  | _ :: r, _, ⟨h, t, v, es', e, h1, h2⟩ => ⟨h, t, v, es', e, VR.mono x _ _ h1, FR.mono x r es' h2⟩
theorem FR.length {sA ρ n} : ∀ {fs es}, FR sA ρ n fs es → fs.length = es.length
  | [], _, h => by cases h; rfl
  | _ :: _, _, ⟨_, _, _, _, e, _, h⟩ => by subst e; simp [h.length]

def ORep (sA : Addr) (ρ : Foot) (news : Led) : PO → List Addr → Prop
  | .inst C fs, fp => ∃ a dx es n, fp = [a, dx] ∧ (a, instObj C dx) ∈ news ∧ (dx, dictOf es n) ∈ news ∧ FR sA ρ news fs es
  | .list ps, fp => ∃ a vs n, fp = [a] ∧ (a, listOf vs.toArray n) ∈ news ∧ LR sA ρ news ps vs
  | .barr b, fp => ∃ a, fp = [a] ∧ (a, barrObj b) ∈ news

structure Rep (sA : Addr) (ρ : Foot) (news : Led) (σ : PH) : Prop where
  len : ρ.length = σ.length
  nd : ρ.flatten.Nodup
  obj : ∀ (α : Nat) o fp, σ[α]? = some o → ρ[α]? = some fp → ORep sA ρ news o fp

theorem mem_foot {ρ : Foot} {α : Nat} {fp : List Addr} {a : Addr} (h : ρ[α]? = some fp) (ha : a ∈ fp) : a ∈ ρ.flatten :=
  List.mem_flatten.mpr ⟨fp, List.mem_of_getElem? h, ha⟩
theorem foot_same {ρ : Foot} (nd : ρ.flatten.Nodup) : ∀ {α β : Nat} {fp fq : List Addr} {a : Addr}, ρ[α]? = some fp → ρ[β]? = some fq → a ∈ fp → a ∈ fq → α = β := by
  induction ρ with
  | nil => intro α β fp fq a h; simp at h
  | cons x r ih =>
    intro α β fp fq a h k ha hb
    rw [List.flatten_cons, List.nodup_append] at nd
    cases α with
    | zero =>
      cases β with
      | zero => rfl
      | succ β => simp at h k; subst h; exact absurd rfl (nd.2.2 a ha a (mem_foot k hb))
    | succ α =>
      cases β with
      | zero => simp at h k; subst k; exact absurd rfl (nd.2.2 a hb a (mem_foot h ha))
      | succ β => simp at h k; rw [ih nd.2.1 h k ha hb]

/-- an object of the ledger turned -/
def updL (d : Addr) (o : Obj) (news : Led) : Led := news.map fun p => if p.1 = d then (d, o) else p
theorem updL_addr (d : Addr) (o : Obj) (news : Led) : (updL d o news).map (·.1) = news.map (·.1) := by
  unfold updL
  rw [List.map_map]
  refine List.map_congr_left fun p _ => ?_
  show (if p.1 = d then (d, o) else p).1 = p.1
  split
  · rename_i h; exact h.symm
  · rfl
theorem mem_updL_ne {d : Addr} {o : Obj} {news : Led} {p : Addr × Obj} (h : p ∈ news) (hn : p.1 ≠ d) : p ∈ updL d o news :=
  List.mem_map.mpr ⟨p, h, if_neg hn⟩
theorem mem_updL_self {d : Addr} {o o' : Obj} {news : Led} (h : (d, o) ∈ news) : (d, o') ∈ updL d o' news :=
  List.mem_map.mpr ⟨(d, o), h, if_pos rfl⟩
theorem of_mem_updL {d : Addr} {o : Obj} {news : Led} {p : Addr × Obj} (h : p ∈ updL d o news) : (p = (d, o)) ∨ (p ∈ news ∧ p.1 ≠ d) := by
  obtain ⟨q, hq, e⟩ := List.mem_map.mp h
  split at e
  · exact .inl e.symm
  · rename_i hn; exact .inr ⟨e ▸ hq, e ▸ hn⟩
theorem upd_of {d : Addr} {o o' : Obj} : ∀ {news : Led}, (news.map (·.1)).Nodup → (d, o) ∈ news → Upd d o o' news (updL d o' news)
  | p :: r, nd, h => by
    rw [List.map_cons, List.nodup_cons] at nd
    show Upd d o o' (p :: r) ((if p.1 = d then (d, o') else p) :: updL d o' r)
    have same : (∀ q ∈ r, q.1 ≠ d) → updL d o' r = r := fun hq => by
      conv => rhs; rw [← List.map_id r]
      exact List.map_congr_left fun q m => if_neg (hq q m)
    rcases List.mem_cons.mp h with rfl | h
    · have hq : ∀ q ∈ r, q.1 ≠ d := fun q m e => nd.1 (by rw [← e]; exact List.mem_map_of_mem (f := (·.1)) m)
      rw [if_pos rfl, same hq]
      exact .head hq
    · have hp : p.1 ≠ d := fun e => nd.1 (by rw [e]; exact List.mem_map_of_mem (f := (·.1)) h)
      rw [if_neg hp]
      exact .tail hp (upd_of nd.2 h)

/-- the ledger's entry at a turned place, told apart -/
theorem Ext.upd {ρ news} {d : Addr} {o : Obj} (h : d ∈ ρ.flatten) : Ext [] ρ news ρ (updL d o news) :=
  ⟨⟨[], by simp⟩, fun _ h1 h2 _ => ⟨mem_updL_ne h1 fun e => h2 (e ▸ h), h2⟩⟩

theorem ORep.mono {cs sA ρ n ρ' n'} (x : Ext cs ρ n ρ' n') {o : PO} {fp : List Addr} (hm : ∀ a ∈ fp, ∀ ob, (a, ob) ∈ n → (a, ob) ∈ n') (h : ORep sA ρ n o fp) : ORep sA ρ' n' o fp := by
  cases o with
  | inst C fs => obtain ⟨a, dx, es, k, e, h1, h2, h3⟩ := h; subst e; exact ⟨a, dx, es, k, rfl, hm _ (by simp) _ h1, hm _ (by simp) _ h2, h3.mono x⟩
  | list ps => obtain ⟨a, vs, k, e, h1, h2⟩ := h; subst e; exact ⟨a, vs, k, rfl, hm _ (by simp) _ h1, h2.mono x⟩
  | barr b => obtain ⟨a, e, h1⟩ := h; subst e; exact ⟨a, rfl, hm _ (by simp) _ h1⟩

theorem Rep.upd {sA ρ n σ} (h : Rep sA ρ n σ) {α : Nat} {fp : List Addr} {o' : PO} {d : Addr} {ob : Obj} (hα : ρ[α]? = some fp) (hd : d ∈ fp) (ho : ORep sA ρ (updL d ob n) o' fp) : Rep sA ρ (updL d ob n) (σ.set α o') := by
  have x : Ext [] ρ n ρ (updL d ob n) := .upd (mem_foot hα hd)
  refine ⟨by rw [h.len, List.length_set], h.nd, fun β o fq e f => ?_⟩
  by_cases hb : α = β
  · subst hb
    rw [hα] at f; cases f
    rw [List.getElem?_set] at e
    simp only [if_true] at e
    split at e
    · cases e; exact ho
    · cases e
  · rw [List.getElem?_set_ne hb] at e
    refine (h.obj β o fq e f).mono x fun a ha ob' hm => mem_updL_ne hm fun (q : a = d) => hb (foot_same h.nd hα f hd (q ▸ ha))

theorem flatten_snoc (ρ : Foot) (fp : List Addr) : (ρ ++ [fp]).flatten = ρ.flatten ++ fp := by simp

theorem Ext.alloc {cs ρ news} {fp : List Addr} {new : Led} (h : ∀ p ∈ news, p.1 ∉ fp) : Ext cs ρ news (ρ ++ [fp]) (new ++ news) :=
  ⟨⟨[fp], rfl⟩, fun p h1 h2 _ => ⟨List.mem_append_right _ h1, fun q => by
    rw [flatten_snoc, List.mem_append] at q
    exact q.elim h2 (h p h1)⟩⟩
theorem Ext.junk {cs ρ news} {new : Led} : Ext cs ρ news ρ (new ++ news) := ⟨⟨[], by simp⟩, fun _ h1 h2 _ => ⟨List.mem_append_right _ h1, h2⟩⟩

theorem Rep.alloc {sA ρ n σ} (h : Rep sA ρ n σ) {fp : List Addr} {new : Led} {o : PO} (hf : ∀ a ∈ fp, a ∉ ρ.flatten) (hn : ∀ p ∈ n, p.1 ∉ fp) (hnd : fp.Nodup)
    (ho : ORep sA (ρ ++ [fp]) (new ++ n) o fp) : Rep sA (ρ ++ [fp]) (new ++ n) (σ ++ [o]) := by
  have x : Ext [] ρ n (ρ ++ [fp]) (new ++ n) := .alloc hn
  refine ⟨by simp [h.len], ?_, fun β o' fq e f => ?_⟩
  · rw [flatten_snoc, List.nodup_append]
    exact ⟨h.nd, hnd, fun a ha b hb q => hf b hb (q ▸ ha)⟩
  · by_cases hb : β < σ.length
    · rw [List.getElem?_append_left hb] at e
      rw [List.getElem?_append_left (h.len ▸ hb)] at f
      exact (h.obj β o' fq e f).mono x fun a _ ob hm => List.mem_append_right _ hm
    · rw [List.getElem?_append_right (by omega)] at e
      rw [List.getElem?_append_right (by rw [h.len]; omega)] at f
      rw [h.len] at f
      cases hq : β - σ.length with
      | zero => rw [hq] at e f; simp at e f; subst e f; exact ho
      | succ k => rw [hq] at e; simp at e
theorem Rep.junk {sA ρ n σ} (h : Rep sA ρ n σ) {new : Led} : Rep sA ρ (new ++ n) σ :=
  ⟨h.len, h.nd, fun α o fp e f => (h.obj α o fp e f).mono (.junk (cs := [])) fun _ _ _ hm => List.mem_append_right _ hm⟩

end Mine
end
/-! part MiniL -/
section
open PySem PySem.W PySem.Calls PyProof.Rows
open Sem (wp)
namespace Mine

/-! the logic where no codec's call stands on the stack -/
def noDec : Code → Bool
  | .builtin id _ => !(Builtin.Bytes.decodersThatHold.contains id)
  | _ => true
def GoodB (l : List (Code × Pos)) : Prop := ∀ q ∈ l, noDec q.1 = true

def wpG {α : Type} (M : Model) (A : Around) (t : Sem α) (Q : α → Shared → Prop) (E : Value → Shared → Prop) (s : Shared) : Prop :=
  ∀ Γ p, Γ.In A → noDec Γ.code = true → GoodB Γ.below → wp M Γ t (fun a _ s' => Q a s') (fun e _ s' => E e s') p s
def codeG (M : Model) (A : Around) (c : Code) (R : Result → Shared → Prop) (s : Shared) : Prop :=
  ∀ Γ p, Γ.code = c → Γ.Below A → GoodB Γ.below → wpCode M Γ R p s

section
variable {α β : Type} {M : Model} {A : Around} {E : Value → Shared → Prop} {s : Shared}
theorem wpG.of {t : Sem α} {Q : α → Shared → Prop} (h : wpAny M A t Q E s) : wpG M A t Q E s := fun Γ p hΓ _ _ => h Γ p hΓ
theorem codeG.of {c : Code} {R : Result → Shared → Prop} (h : codeAny M A c R s) : codeG M A c R s := fun Γ p hc hΓ _ => h Γ p hc hΓ
theorem wpG.pure {a : α} {Q : α → Shared → Prop} (h : Q a s) : wpG M A (Pure.pure a) Q E s := fun _ _ _ _ _ => h
theorem wpG.mono {t : Sem α} {Q Q' : α → Shared → Prop} {E' : Value → Shared → Prop} (h : wpG M A t Q E s) (hQ : ∀ a s, Q a s → Q' a s) (hE : ∀ e s, E e s → E' e s) : wpG M A t Q' E' s :=
  fun Γ p hΓ hc hb => Sem.wp_mono M Γ t (fun a _ s => hQ a s) (fun e _ s => hE e s) p s (h Γ p hΓ hc hb)
theorem wpG.monoQ {t : Sem α} {Q Q' : α → Shared → Prop} (h : wpG M A t Q E s) (hQ : ∀ a s, Q a s → Q' a s) : wpG M A t Q' E s := h.mono hQ fun _ _ x => x
theorem codeG.mono {c : Code} {R R' : Result → Shared → Prop} (h : codeG M A c R s) (hR : ∀ r s, R r s → R' r s) : codeG M A c R' s :=
  fun Γ p hc hΓ hb => wpCode_mono hR (h Γ p hc hΓ hb)
theorem wpG.bind {m : Sem α} {f : α → Sem β} {Q : β → Shared → Prop} (h : wpG M A m (fun a s' => wpG M A (f a) Q E s') E s) : wpG M A (m >>= f) Q E s := fun Γ p hΓ hc hb => by
  rw [Sem.wp_bind']
  exact Sem.wp_mono M Γ m (fun a p' s' h' => h' Γ p' hΓ hc hb) (fun _ _ _ h' => h') p s (h Γ p hΓ hc hb)
theorem wpG.onRaise {m : Sem α} {k : Value → Sem Unit} {Q : α → Shared → Prop} (h : wpG M A m Q (fun e s' => wpG M A (k e) (fun _ s'' => E e s'') E s') s) : wpG M A (m.onRaise k) Q E s := fun Γ p hΓ hc hb => by
  rw [Sem.wp_onRaise]
  exact Sem.wp_mono M Γ m (fun _ _ _ h' => h') (fun e p' s' h' => h' Γ p' hΓ hc hb) p s (h Γ p hΓ hc hb)
theorem wpG.attempt {m : Sem α} {Q : Except Value α → Shared → Prop} (h : wpG M A m (fun a => Q (.ok a)) (fun e => Q (.error e)) s) : wpG M A m.attempt Q E s :=
  fun Γ p hΓ hc hb => by rw [Sem.wp_attempt]; exact h Γ p hΓ hc hb
theorem wpG.holding {vs : List Value} {m : Sem α} {Q : α → Shared → Prop} (h : wpG M A m Q E s) : wpG M A (holding vs m) Q E s :=
  fun Γ p hΓ hc hb => by rw [Sem.wp_holding]; exact h Γ p hΓ hc hb
theorem wpG.standAt {pos : Pos} {Q : Unit → Shared → Prop} (h : Q () s) : wpG M A (standAt pos) Q E s := fun _ _ _ _ _ => h
theorem wpG.rule {tag : String} {Q : Unit → Shared → Prop} (h : Q () s) : wpG M A (rule tag) Q E s := fun _ _ _ _ _ => h
theorem wpG.point {Q : Unit → Shared → Prop} (h : Q () s) : wpG M A point Q E s := fun _ _ _ _ _ => h
theorem wpG.operate {vs : List Value} {m : Sem Value} {Q : Value → Shared → Prop} (h : wpG M A m Q E s) : wpG M A (operate vs m) Q E s :=
  fun Γ p hΓ hc hb => by rw [Sem.wp_operate]; exact h Γ p hΓ hc hb
theorem wpG.release {vs keep : List Value} {Q : Unit → Shared → Prop} (h : Q () s) : wpG M A (release vs keep) Q E s :=
  fun Γ p hΓ hc hb => by rw [Sem.wp_release]; exact h
theorem wpG.bindName {env : Env} {x : Str} {v : Value} {Q : Unit → Shared → Prop} (h : wpG M A (storeName env x v) Q E s) : wpG M A (bindName env x v) Q E s :=
  fun Γ p hΓ hc hb => by rw [Sem.wp_bindName]; exact h Γ p hΓ hc hb
theorem wpG.keep {vs : List Value} {m : Sem α} {Q : α → Shared → Prop} (h : wpG M A m Q E s) : wpG M A (m.keep vs) Q E s :=
  fun Γ p hΓ hc hb => by
    have := wpAny_keep (M := M) (A := A) (vs := vs) (m := m) (Q := Q) (E := E) (s := s)
    rw [Sem.wp_keep]; exact h Γ p hΓ hc hb
theorem goodEnter {Γ : Ctx} {c : Code} {h : Option Value} {p : Pos} (hc : noDec Γ.code = true) (hb : GoodB Γ.below) : GoodB (Γ.enter c h p).below := by
  intro q hq
  rcases List.mem_cons.mp hq with rfl | hq
  · exact hc
  · exact hb q hq
theorem wpG.run {c : Code} {h : Option Value} {Q : Flow → Shared → Prop} (hc : codeG M (A.mark h) c (fun r s' => match r with | .ok f => Q f s' | .error e => E e s') s) (hnb : h ≠ some byPass := by intro x; cases x) :
    wpG M A (run c h) Q E s := fun Γ p hΓ hd hb => by rw [Sem.wp_run]; exact hc _ p rfl (hΓ.enter c h p hnb) (goodEnter hd hb)
theorem wpG.runValue {c : Code} {Q : Value → Shared → Prop} (hc : codeG M A c (fun r s' => match r with | .ok (.ret v) => Q v s' | .ok _ => False | .error e => E e s') s) : wpG M A (runValue c) Q E s :=
  fun Γ p hΓ hd hb => by rw [Sem.wp_runValue]; exact hc _ p rfl (hΓ.enter c none p (by intro x; cases x)) (goodEnter hd hb)
theorem wpG.call {f : Value} {pos : List Value} {kw : List (Str × Value)} {Q : Value → Shared → Prop}
    (hc : codeG M A (.call f ⟨pos, kw⟩) (fun r s' => match r with | .ok (.ret v) => Q v s' | .ok _ => False | .error e => E e s') s) : wpG M A (call f pos kw) Q E s := wpG.runValue hc
theorem codeG.tree {c : Code} {R : Result → Shared → Prop} (hn : noDec c = true)
    (h : wpG M (A.under c) (M.den c) (fun fin s' => match fin with | .done f => R (.ok f) s' | .again c' => c'.quiet = true ∧ codeG M A c' R s') (fun e s' => R (.error e) s') s) : codeG M A c R s := fun Γ p hc hΓ hb => by
  rw [wpCode_iff_wp, hc]
  refine Sem.wp_mono M Γ _ (fun fin p' s' h' => ?_) (fun _ _ _ h' => h') p s (h Γ p (hc ▸ hΓ.in) (hc ▸ hn) hb)
  cases fin with
  | done f => exact h'
  | again c' => exact ⟨h'.1, h'.2 (Γ.goto c') p' rfl (hΓ.goto c') hb⟩
theorem wpG.of_eq {t : Sem α} {a : α} {Q : α → Shared → Prop} (e : t = Pure.pure a) (h : Q a s) : wpG M A t Q E s := e ▸ wpG.pure h
theorem wpG.of_in1 {t : Sem α} {Q : α → Shared → Prop} (h : wpG M A.in1 t Q E s) : wpG M A t Q E s :=
  fun Γ p hΓ hc hb => h Γ p ⟨hΓ.1, hΓ.2.1, hΓ.2.2.1, hΓ.2.2.2.1, Nat.le_succ_of_le hΓ.2.2.2.2⟩ hc hb

/-- loops over codes that come back to themselves -/
theorem codeG.loop {c c₂ : Code} {R : Result → Shared → Prop} (hq : c.quiet = true) (hw : A.under c = A) (hn : noDec c = true) (hq2 : c₂.quiet = true) (I : Nat → Shared → Prop)
    (turn : ∀ n s, I n s → wpG M A (M.den c) (fun fin s' => match fin with
      | .done f => R (.ok f) s'
      | .again c' => (c' = c ∧ ∃ m, m < n ∧ I m s') ∨ (c' = c₂ ∧ codeG M A c₂ R s')) (fun e s' => R (.error e) s') s) :
    ∀ n s, I n s → codeG M A c R s := by
  intro n
  induction n using Nat.strongRecOn with
  | _ n ih =>
    intro s hI
    refine codeG.tree hn ?_
    rw [hw]
    refine (turn n s hI).monoQ fun fin s' h' => ?_
    cases fin with
    | done f => exact h'
    | again c' =>
      rcases h' with ⟨rfl, m, hm, hI'⟩ | ⟨rfl, h'⟩
      · exact ⟨hq, ih m hm s' hI'⟩
      · exact ⟨hq2, h'⟩
end

/-! expressions and statements -/
section
variable {M : Model} {A : Around} {E : Value → Shared → Prop} {s : Shared} {env : Env}

theorem G_BinOp {l op r pos} {Q : Value → Shared → Prop} (h : wpG M A (eval l env) (fun a s₁ => wpG M A (eval r env) (fun b s₂ => wpG M A (binaryOp op a b) Q E s₂) E s₁) E s) : wpG M A (eval (.BinOp l op r pos) env) Q E s := by
  rw [arm_eval_BinOp]
  exact .bind (h.monoQ fun a s₁ h₁ => .bind (.holding (h₁.monoQ fun b s₂ h₂ => .bind (.standAt (.operate h₂)))))
theorem G_UnaryOp {op x pos} {Q : Value → Shared → Prop} (h : wpG M A (eval x env) (fun v s₁ => wpG M A (unaryOp op v) Q E s₁) E s) : wpG M A (eval (.UnaryOp op x pos) env) Q E s := by
  rw [arm_eval_UnaryOp]
  exact .bind (h.monoQ fun a s₁ h₁ => .bind (.standAt (.holding h₁)))
theorem G_IfExp {t a b pos} {Q : Value → Shared → Prop} (h : wpG M A (isTrue t env (eval t env)) (fun c s₁ => if c then wpG M A (eval a env) Q E s₁ else wpG M A (eval b env) Q E s₁) E s) : wpG M A (eval (.IfExp t a b pos) env) Q E s := by
  rw [arm_eval_IfExp]
  refine .bind (h.monoQ fun c s₁ h₁ => ?_)
  cases c <;> exact h₁
theorem G_And2 {a b pos} {Q : Value → Shared → Prop} (h : wpG M A (eval a env) (fun v s₁ => wpG M A (truthy v) (fun t s₂ => if t then wpG M A (eval b env) Q E s₂ else Q v s₂) E s₁) E s) : wpG M A (eval (.BoolOp .And [a, b] pos) env) Q E s := by
  rw [arm_eval_BoolOp]
  show wpG M A (do let v ← eval a env; standAt pos; let t ← holding [v] (truthy v); match BoolOp.And, t with | .And, false | .Or, true => pure v | _, _ => boolOp pos .And [eval b env]) Q E s
  refine .bind (h.monoQ fun v s₁ h₁ => .bind (.standAt (.bind (.holding (h₁.monoQ fun t s₂ h₂ => ?_)))))
  cases t
  · exact .pure h₂
  · exact h₂
theorem G_Or2 {a b pos} {Q : Value → Shared → Prop} (h : wpG M A (eval a env) (fun v s₁ => wpG M A (truthy v) (fun t s₂ => if t then Q v s₂ else wpG M A (eval b env) Q E s₂) E s₁) E s) : wpG M A (eval (.BoolOp .Or [a, b] pos) env) Q E s := by
  rw [arm_eval_BoolOp]
  show wpG M A (do let v ← eval a env; standAt pos; let t ← holding [v] (truthy v); match BoolOp.Or, t with | .And, false | .Or, true => pure v | _, _ => boolOp pos .Or [eval b env]) Q E s
  refine .bind (h.monoQ fun v s₁ h₁ => .bind (.standAt (.bind (.holding (h₁.monoQ fun t s₂ h₂ => ?_)))))
  cases t
  · exact h₂
  · exact .pure h₂
theorem G_Compare1 {l op r pos} {Q : Value → Shared → Prop} (hm : behindInMarks op r = false) (h : wpG M A (eval l env) (fun a s₁ => wpG M A (eval r env) (fun b s₂ => wpG M A (compareOp op a b) Q E s₂) E s₁) E s) : wpG M A (eval (.Compare l [op] [r] pos) env) Q E s := by
  rw [eval_Compare1, markedBehindIn_of_false hm]
  exact .bind (h.monoQ fun a s₁ h₁ => .bind (.holding (h₁.monoQ fun b s₂ h₂ => .bind (.standAt (.operate h₂)))))
theorem G_isTrue_Compare1 {l op r pos whole} {Q : Bool → Shared → Prop} (hm : behindInMarks op r = false)
    (h : wpG M A (eval l env) (fun a s₁ => wpG M A (eval r env) (fun b s₂ => wpG M A (compareOp op a b) (fun c s₃ => wpG M A (truthy c) Q E s₃) E s₂) E s₁) E s) : wpG M A (isTrue (.Compare l [op] [r] pos) env whole) Q E s := by
  rw [isTrue_Compare1, markedBehindIn_of_false hm]
  exact .bind (h.monoQ fun a s₁ h₁ => .bind (.holding (h₁.monoQ fun b s₂ h₂ => .bind (.standAt (.bind (.operate (h₂.monoQ fun c s₃ h₃ => .holding h₃)))))))
theorem G_isTrue_Not {x pos whole} {Q : Bool → Shared → Prop} (h : wpG M A (isTrue x env (eval x env)) (fun b s₁ => Q (!b) s₁) E s) : wpG M A (isTrue (.UnaryOp .Not x pos) env whole) Q E s := by
  rw [arm_isTrue_UnaryOp]
  exact .bind (h.monoQ fun b s₁ h₁ => .pure h₁)
theorem G_isTrue_value {e : Expr} {whole : Sem Value} {Q : Bool → Shared → Prop} (he : isTrue e env whole = (do let v ← whole; standAt e.pos; holding [v] (truthy v))) (h : wpG M A whole (fun v s₁ => wpG M A (truthy v) Q E s₁) E s) : wpG M A (isTrue e env whole) Q E s := by
  rw [he]
  exact .bind (h.monoQ fun v s₁ h₁ => .bind (.standAt (.holding h₁)))
theorem G_allTrue_cons {op x rest} {Q : Bool → Shared → Prop} (h : wpG M A (isTrue x env (eval x env)) (fun b s₁ => match op, b with | .And, false => Q false s₁ | .Or, true => Q true s₁ | _, _ => wpG M A (allTrue op rest env) Q E s₁) E s) :
    wpG M A (allTrue op (x :: rest) env) Q E s := by
  rw [arm_allTrue_cons]
  refine .bind (h.monoQ fun b s₁ h₁ => ?_)
  cases op <;> cases b <;> first | exact h₁ | exact .pure h₁
theorem G_List {es pos} {Q : Value → Shared → Prop} (h : wpG M A (spliced (backTo pos (starEach es env))) (fun vs s₁ => wpG M A (newList vs) Q E s₁) E s) : wpG M A (eval (.List es pos) env) Q E s := by
  rw [arm_eval_List]
  exact .bind (.standAt (.bind (h.monoQ fun vs s₁ h₁ => h₁)))
theorem G_Tuple {es k pos} {Q : Value → Shared → Prop} (h : wpG M A (spliced (backTo pos (starEach es env))) (fun vs s₁ => wpG M A (newTuple vs) Q E s₁) E s) : wpG M A (eval (.Tuple es k pos) env) Q E s := by
  rw [arm_eval_Tuple]
  exact .bind (.standAt (.bind (h.monoQ fun vs s₁ h₁ => h₁)))
theorem G_Slice {lo hi st pos} {Q : Value → Shared → Prop} (h : wpG M A (valueOrNone (evalOpt lo env)) (fun l s₁ => wpG M A (valueOrNone (evalOpt hi env)) (fun u s₂ => wpG M A (valueOrNone (evalOpt st env)) (fun t s₃ => wpG M A (newFields "slice" [l, u, t]) Q E s₃) E s₂) E s₁) E s) :
    wpG M A (eval (.Slice lo hi st pos) env) Q E s := by
  rw [arm_eval_Slice]
  exact .bind (h.monoQ fun l s₁ h₁ => .bind (.holding (h₁.monoQ fun u s₂ h₂ => .bind (.holding (h₂.monoQ fun t s₃ h₃ => h₃)))))
theorem G_spliced_cons {x : Sem Value} {rest : List (Bool × Sem Value)} {Q : List Value → Shared → Prop} (h : wpG M A x (fun v s₁ => wpG M A (spliced rest) (fun vs s₂ => Q (v :: vs) s₂) E s₁) E s) : wpG M A (spliced ((false, x) :: rest)) Q E s := by
  unfold spliced
  refine .bind (h.monoQ fun v s₁ h₁ => ?_)
  exact .bind (.pure (.bind (.holding (h₁.monoQ fun vs s₂ h₂ => .pure h₂))))
theorem base_whole {o : Expr} {attr : Str} {whole : Sem Value} (h : isCallE o = false) : attributeBase o attr env whole = whole := by
  unfold attributeBase
  split
  · cases h
  · rfl
theorem G_Attribute {prog : Program} {w : World} {value attr pos} {Q : Value → Shared → Prop} (hb : isCallE value = false) (h : wpG (model prog w) A (eval value env) (fun o s₁ => wpG (model prog w) A (getAttr o attr true) Q E s₁) E s) : wpG (model prog w) A (eval (.Attribute value attr pos) env) Q E s := by
  rw [arm_eval_Attribute, base_whole hb]
  exact .bind (h.monoQ fun o s₁ h₁ => .bind (.standAt (.bind (.holding (h₁.monoQ fun r s₂ h₂ => .bind (.of (wpAny_letTemporaryGo (wpG.pure h₂))))))))
theorem G_Subscript {value slice pos} {Q : Value → Shared → Prop} (h : wpG M A (eval value env) (fun o s₁ => wpG M A (eval slice env) (fun i s₂ => wpG M A (subscriptTail value slice o i) Q E s₂) E s₁) E s) : wpG M A (eval (.Subscript value slice pos) env) Q E s := by
  rw [arm_eval_Subscript]
  exact .bind (h.monoQ fun o s₁ h₁ => .bind (.holding (h₁.monoQ fun i s₂ h₂ => .bind (.standAt h₂))))

theorem G_execs_nil {Q : Flow → Shared → Prop} (h : Q .next s) : wpG M A (execs [] env) Q E s := .of (wpAny_execs_nil h)
theorem G_execs_cons {st rest} {Q : Flow → Shared → Prop} (h : wpG M A (exec st env) (fun f s' => match f with | .next => wpG M A (execs rest env) Q E s' | f => Q f s') E s) : wpG M A (execs (st :: rest) env) Q E s := by
  rw [execs_cons]
  refine .bind (h.monoQ fun f s' h' => ?_)
  cases f <;> first | exact h' | exact .pure h'
theorem G_If {test body orelse pos} {Q : Flow → Shared → Prop} (h : wpG M A (isTrue test env (eval test env)) (fun b s₂ => if b then wpG M A (execs body env) Q E s₂ else wpG M A (execs orelse env) Q E s₂) E s) : wpG M A (exec (.If test body orelse pos) env) Q E s := by
  rw [exec_If]
  refine .bind (.standAt (.bind (h.monoQ fun b s₂ h₂ => ?_)))
  cases b <;> exact h₂
theorem G_Return {e pos} {Q : Flow → Shared → Prop} (h : wpG M A (eval e env) (fun v => Q (.ret v)) E s) : wpG M A (exec (.Return (some e) pos) env) Q E s := by
  rw [exec_Return_some]
  exact .bind (.standAt (.bind (h.monoQ fun v s₁ h₁ => .pure h₁)))
theorem G_Assign_Name {x pos' value pos} {Q : Flow → Shared → Prop} (hs : swapsWith value (some (.Name x pos')) pos.line env = pure false) (h : wpG M A (eval value env) (fun v s₁ => wpG M A (storeName env x v) (fun _ => Q .next) E s₁) E s) :
    wpG M A (exec (.Assign [.Name x pos'] value pos) env) Q E s := by
  rw [exec_Assign_Name env x pos' value pos hs]
  exact .bind (.standAt (.bind (h.monoQ fun v s₁ h₁ => .bind (.standAt (.bind (.bindName (h₁.monoQ fun _ s₂ h₂ => .pure h₂)))))))
theorem G_AugAssign_Name {x pos' op value pos} {Q : Flow → Shared → Prop} (h : wpG M A (loadName env x) (fun old s₁ => wpG M A (eval value env) (fun v s₂ => wpG M A (inplaceOp op old v) (fun r s₃ => wpG M A (storeName env x r) (fun _ => Q .next) E s₃) E s₂) E s₁) E s) :
    wpG M A (exec (.AugAssign (.Name x pos') op value pos) env) Q E s := by
  rw [exec_AugAssign_Name]
  exact .bind (.standAt (.bind (h.monoQ fun o s₁ h₁ => .bind (.holding (h₁.monoQ fun v s₂ h₂ => .bind (.standAt (.bind (.operate (h₂.monoQ fun r s₃ h₃ => .bind (.standAt (.bind (.bindName (h₃.monoQ fun _ s₄ h₄ => .pure h₄))))))))))))) 
end
end Mine
end
/-! part MiniK -/
section
open PySem PySem.W PySem.Calls PyProof.Rows
open Sem (wp)
namespace Mine

section
variable {prog : Program} {w : World} {M : Model} {A : Around} {E : Value → Shared → Prop} {s : Shared} {R : Result → Shared → Prop}

theorem G_evalArgs {f : Value} {trees : List (Bool × Sem Value)} {Q : Args → Shared → Prop} (hp : trees.any (·.1) = false) (h : wpG M A (spliced trees) (fun vs s' => Q ⟨vs, []⟩ s') E s) : wpG M A (evalArgs f true trees []) Q E s := by
  cases trees with
  | nil =>
    unfold evalArgs
    exact .bind (h.monoQ fun vs s' h' => .bind (.pure (.holding (.bind (.pure (.bind (.pure (.pure h'))))))))
  | cons t r =>
    obtain ⟨b, x⟩ := t
    rw [List.any_cons, Bool.or_eq_false_iff] at hp
    have hb : b = false := hp.1
    subst hb
    unfold evalArgs
    show wpG M A (spliced ((false, x) :: r) >>= _) Q E s
    exact .bind (h.monoQ fun vs s' h' => .holding (.bind (.pure (.bind (.pure (.pure h'))))))

theorem G_callWith {pos : Pos} {f : Value} {first : List Value} {trees : List (Bool × Sem Value)} {Q : Value → Shared → Prop} {P : Heap → Prop} (hp : trees.any (·.1) = false)
    (hk : ∀ h, P h → ∃ k, (k = Keeper.frame ∨ k = Keeper.machine ∨ k = Keeper.boundFrame) ∧ Looks M h (keeperOf f) k)
    (h : wpG M A (spliced trees) (fun vs s₁ => P s₁.heap ∧ wpG M A (call f (first ++ vs)) Q E s₁) E s) : wpG M A (callWith pos f first trees []) Q E s := by
  unfold callWith
  refine .bind (.holding ((G_evalArgs hp (Q := fun a s₁ => a.kw = [] ∧ P s₁.heap ∧ wpG M A (call f (first ++ a.pos)) Q E s₁) (h.monoQ fun vs s' h' => ⟨rfl, h'⟩)).monoQ fun a s₁ h₁ => .bind (.standAt ?_)))
  obtain ⟨e, h1, h2⟩ := h₁
  obtain ⟨k, hk', L⟩ := hk _ h1
  simp only [hp, List.any_nil, Bool.or_false, e]
  refine .bind (.of (L.here ?_))
  have tail : ∀ {t : Sem Value}, wpG M A t Q E s₁ → wpG M A (t >>= fun r => holding [r] point >>= fun _ => pure r) Q E s₁ :=
    fun ht => .bind (ht.monoQ fun r s₂ hr => .bind (.holding (.point (.pure hr))))
  have marked (mk : Value) : wpG M A (callMarked mk f (first ++ a.pos) []) Q E s₁ := by unfold callMarked; exact .keep h2
  rcases hk' with rfl | rfl | rfl <;> dsimp only <;> first | exact tail h2 | (split <;> first | exact tail h2 | exact tail (marked _))

theorem G_method_call {f self : Value} {q : Addr} {pos : List Value} {kw : List (Str × Value)} (ho : s.heap.get? q = some (methodObj f self)) (h : codeG (model prog w) A (.call f ⟨self :: pos, kw⟩) R s) :
    codeG (model prog w) A (.call (.ref q) ⟨pos, kw⟩) R s := by
  refine codeG.tree rfl ?_
  show wpG _ _ (load q >>= _) _ _ s
  refine .bind (.of (wpAny_load ho ?_))
  cases f <;> exact .pure ⟨rfl, h⟩

theorem G_func {body : List Stmt} {env : Env} (h : wpG (model prog w) (A.deeper env) (execs body env) (fun f s' => R (.ok (.ret (match f with | .ret v => v | _ => .none))) s')
      (fun e s' => wpG (model prog w) (A.deeper env) (leaving env e) (fun _ s'' => R (.error e) s'') (fun e' s'' => R (.error e') s'') s') s) : codeG (model prog w) A (.func body env) R s := by
  refine codeG.tree rfl ?_
  show wpG _ (A.deeper env) (do point; match ← (execs body env).onRaise (leaving env) with | .ret v => ret v | _ => ret .none) _ _ s
  refine .bind (.point (.bind (.onRaise (h.mono (fun f s' h' => ?_) fun _ _ h' => h'))))
  cases f <;> exact .pure h'

theorem G_call_function {a : Addr} {args : Args} {o : Obj} {fd : FuncData} {body : List Stmt} (hroom : A.depth < recursionLimit) (ho : s.heap.get? a = some o) (hd' : o.data = .func fd) (hco : fd.scope.isCoroutine = false) (hgen : fd.scope.isGenerator = false)
    (hbody : fd.body = .stmts body) (hcd : s.heap.CodeRec fd.code fd.qualname)
    (h : wpAny (model prog w) A.in1 (bindArgs fd args) (fun binds s₁ => wpAny (model prog w) A.in1 (newFunctionEnv fd.scope fd.globals fd.closure binds (fd.qualname ++ ".<locals>.") (some a) fd.code none fd.builtins)
        (fun env s₂ => s₂.heap.NoLimit ∧ codeG (model prog w) A (.func body env) R s₂) (fun e s' => R (.error e) s') s₁) (fun e s' => R (.error e) s') s) :
    codeG (model prog w) A (.call (.ref a) args) R s := by
  refine codeG.tree rfl ?_
  show wpG _ A.in1 (callAny (.ref a) args) _ _ s
  simp only [callAny]
  refine .bind (.of (wpAny_load ho ?_))
  obtain ⟨c, oc, vs, tq, hc, hoc, hdc, hq⟩ := hcd
  simp only [hd', callFunction, hco, hgen, hbody, hc]
  rw [hc] at h
  refine .bind (m := field (.ref c) 1) (.of (wpAny_field hoc hdc hq (.bind (.pure ?_))))
  exact .bind (.of (wpAny_mono h (fun binds s₁ h₁ => .bind (.of (wpAny_mono h₁ (fun env s₂ h₂ => .bind (.of (wpAny_enterFrame h₂.1 hroom (.pure (And.intro rfl h₂.2))))) fun _ _ h' => h'))) fun _ _ h' => h'))
end

section
variable {prog : Program} {w : World} {A₀ A : Around} {s : Shared} {base h₀ : Heap} {outer : List Env} {L : Addr} {m : Str → Option Value} {env : Env} {news : List (Addr × Obj)} {R : Result → Shared → Prop}
  {name qual : Str} {params : Arguments} {body : List Stmt} {scope : Scope} {cl : List (Str × Addr)} {dV kV doc pm cdv ct : Value} {an : Option Addr} {f : Addr} {fo : Obj} {args : Args} {binds : List (Str × Value)}

theorem G_env_plain (B : Below A₀ base outer h₀) (F : Fr h₀ L s.heap m) (N : News h₀ L s.heap news) (hlim : h₀.NoLimit) (hA : A.frames = some (env :: outer)) (hf : env.frame = some L) (hke : env.scope.kind = .function) (hloc : ∀ y ∈ binds, scope.names.lookup y.1 = some .local)
    (h : ∀ g L' h₁, Fr h₀ L g m → Fr g L' h₁ (fun y => binds.reverse.lookup y) → News g L' h₁ news → Below A base (env :: outer) g → h₀.StaysIn g → (∀ p ∈ news, p.1 < L') →
      wpG (model prog w) (A.deeper (envX qual scope L' f cdv cl)) (execs body (envX qual scope L' f cdv cl))
        (fun fl s' => LeaveK h₀ L m g R (match fl with | .ret v => v | _ => .none) s')
        (fun e s' => wpG (model prog w) (A.deeper (envX qual scope L' f cdv cl)) (leaving (envX qual scope L' f cdv cl) e) (fun _ s'' => R (.error e) s'') (fun e' s'' => R (.error e') s'') s')
        { s with heap := h₁, toks := s.toks + binds.length })
    (hcell : ∀ x ∈ scope.names, x.2 ≠ .cell) (hk : scope.kind = .function) {E : Value → Shared → Prop} :
    wpAny (model prog w) A.in1 (newFunctionEnv scope mainGlobals cl binds (qual ++ ".<locals>.") (some f) cdv none builtinsNs) (fun env s₂ => s₂.heap.NoLimit ∧ codeG (model prog w) A (.func body env) R s₂) E s := by
  obtain ⟨FG, BG, st, lv⟩ := groundX (R := R) B F N hA hf hke
  refine wpAny_newFunctionEnv hcell hloc (fun h₁ hns hsb => ?_) hk
  have hk₁ : ∀ b o, s.heap.get? b = some o → h₁.get? b = some o := fun b o e => hsb.extBut b o (Nat.ne_of_lt (Heap.lt_size e)) (Heap.get?_push_of_some _ e)
  refine ⟨(hlim.keeps F.keep).fresh _ hsb, G_func ?_⟩
  exact wpG.mono (h _ s.heap.objs.size h₁ FG ⟨hns, fun b o e => hk₁ b o (of_hideAll _ e), Nat.le_of_eq (hideAll_size _ _)⟩
    (fun p hp => ⟨hk₁ _ _ (N p hp).1, Nat.ne_of_lt (Heap.lt_size (N p hp).1), hideAll_none _ (List.mem_map_of_mem hp)⟩) BG st (fun p hp => Heap.lt_size (N p hp).1)) (fun fl s' hl => lv _ _ hl) fun _ _ y => y

theorem G_def_plain (B : Below A₀ base outer h₀) (F : Fr h₀ L s.heap m) (N : News h₀ L s.heap news) (hlim : h₀.NoLimit) (hA : A.frames = some (env :: outer)) (hf : env.frame = some L) (hke : env.scope.kind = .function)
    (ho : s.heap.get? f = some fo) (hd : fo.data = .func (fnX name qual params body scope cl dV kV doc pm an cdv ct)) (hcd : s.heap.CodeRec cdv qual) (hroom : A.depth < recursionLimit)
    (hbind : BindsTo s (fnX name qual params body scope cl dV kV doc pm an cdv ct) args binds) (hloc : ∀ y ∈ binds, scope.names.lookup y.1 = some .local)
    (h : ∀ g L' h₁, Fr h₀ L g m → Fr g L' h₁ (fun y => binds.reverse.lookup y) → News g L' h₁ news → Below A base (env :: outer) g → h₀.StaysIn g → (∀ p ∈ news, p.1 < L') →
      wpG (model prog w) (A.deeper (envX qual scope L' f cdv cl)) (execs body (envX qual scope L' f cdv cl))
        (fun fl s' => LeaveK h₀ L m g R (match fl with | .ret v => v | _ => .none) s')
        (fun e s' => wpG (model prog w) (A.deeper (envX qual scope L' f cdv cl)) (leaving (envX qual scope L' f cdv cl) e) (fun _ s'' => R (.error e) s'') (fun e' s'' => R (.error e') s'') s')
        { s with heap := h₁, toks := s.toks + binds.length })
    (hcell : ∀ x ∈ scope.names, x.2 ≠ .cell) (hco : scope.isCoroutine = false) (hgen : scope.isGenerator = false) (hk : scope.kind = .function) : codeG (model prog w) A (.call (.ref f) args) R s := by
  obtain ⟨FG, BG, st, lv⟩ := groundX (R := R) B F N hA hf hke
  refine G_call_function hroom ho hd hco hgen rfl hcd (hbind _ _ _ _ ?_)
  refine wpAny_newFunctionEnv hcell hloc (fun h₁ hns hsb => ?_) hk
  have hk₁ : ∀ b o, s.heap.get? b = some o → h₁.get? b = some o := fun b o e => hsb.extBut b o (Nat.ne_of_lt (Heap.lt_size e)) (Heap.get?_push_of_some _ e)
  refine ⟨(hlim.keeps F.keep).fresh _ hsb, G_func ?_⟩
  exact wpG.mono (h _ s.heap.objs.size h₁ FG ⟨hns, fun b o e => hk₁ b o (of_hideAll _ e), Nat.le_of_eq (hideAll_size _ _)⟩
    (fun p hp => ⟨hk₁ _ _ (N p hp).1, Nat.ne_of_lt (Heap.lt_size (N p hp).1), hideAll_none _ (List.mem_map_of_mem hp)⟩) BG st (fun p hp => Heap.lt_size (N p hp).1)) (fun fl s' hl => lv _ _ hl) fun _ _ y => y

theorem G_def_cells (B : Below A₀ base outer h₀) (F : Fr h₀ L s.heap m) (N : News h₀ L s.heap news) (hlim : h₀.NoLimit) (hA : A.frames = some (env :: outer)) (hf : env.frame = some L) (hke : env.scope.kind = .function)
    (ho : s.heap.get? f = some fo) (hd : fo.data = .func (fnX name qual params body scope [] dV kV doc pm an cdv ct)) (hcd : s.heap.CodeRec cdv qual) (hroom : A.depth < recursionLimit)
    (hbind : BindsTo s (fnX name qual params body scope [] dV kV doc pm an cdv ct) args binds)
    (hkind : ∀ n, ∀ x ∈ binds, scope.names.lookup x.1 = some .local ∨ (scope.names.lookup x.1 = some .cell ∧ ((cellsFrom n scope.names []).lookup x.1).isSome = true))
    (hnd : ((cellsFrom 0 scope.names []).map (·.1)).Nodup)
    (h : ∀ g L' h₁ tk cells, Fr h₀ L g m → Fr g L' h₁ (bindL (envOfC qual scope L' f cdv).kindOf binds fun _ => none) → News g L' h₁ (cells ++ news) →
      CellsAre (bindC (envOfC qual scope L' f cdv).kindOf binds fun _ => none) (cellsFrom (L' + 1) scope.names []) cells → Below A base (env :: outer) g → h₀.StaysIn g → (∀ p ∈ news, p.1 < L') →
      wpG (model prog w) (A.deeper (envOfC qual scope L' f cdv)) (execs body (envOfC qual scope L' f cdv))
        (fun fl s' => LeaveK h₀ L m g R (match fl with | .ret v => v | _ => .none) s')
        (fun e s' => wpG (model prog w) (A.deeper (envOfC qual scope L' f cdv)) (leaving (envOfC qual scope L' f cdv) e) (fun _ s'' => R (.error e) s'') (fun e' s'' => R (.error e') s'') s')
        { s with heap := h₁, toks := tk })
    (hco : scope.isCoroutine = false) (hgen : scope.isGenerator = false) (hk : scope.kind = .function) : codeG (model prog w) A (.call (.ref f) args) R s := by
  obtain ⟨FG, BG, st, lv⟩ := groundX (R := R) B F N hA hf hke
  refine G_call_function hroom ho hd hco hgen rfl hcd (hbind _ _ _ _ ?_)
  refine wpAny_newFunctionEnv_cells hk (hkind _) fun env' he s' x => ?_
  subst he
  refine ⟨(hlim.keeps F.keep).keeps x.toInCall.keep, G_func ?_⟩
  obtain ⟨h₁, tk, rfl, _⟩ := x.done
  have hk₁ := x.toInCall.keep
  obtain ⟨cells, NC, Y⟩ := Cl.news (h₀ := s.heap) (Nat.le_refl _) fun n c hm => ⟨x.cell n c (lookup_of_mem_nodup (cellsFrom_names scope.names 0 (s.heap.objs.size + 1) [] [] rfl ▸ hnd) hm), x.above n c hm⟩
  refine wpG.mono (h _ s.heap.objs.size h₁ tk cells FG ⟨x.toInCall.ns, fun b o e => hk₁ b o (of_hideAll _ e), Nat.le_of_eq (hideAll_size _ _)⟩ (fun p hp => ?_) Y BG st (fun p hp => Heap.lt_size (N p hp).1)) (fun fl s' hl => lv _ _ hl) fun _ _ y => y
  rcases List.mem_append.mp hp with hp | hp
  · refine ⟨(NC p hp).1, (NC p hp).2.1, ?_⟩
    cases q : (hideAll s.heap (news.map (·.1))).get? p.1 with
    | none => rfl
    | some o => have := of_hideAll _ q; rw [(NC p hp).2.2] at this; cases this
  · exact ⟨hk₁ _ _ (N p hp).1, Nat.ne_of_lt (Heap.lt_size (N p hp).1), hideAll_none _ (List.mem_map_of_mem hp)⟩
end

/-! making an instance: a class whose maker is object.__new__, or a def of the text's own -/
section
variable {prog : Program} {w : World} {A : Around} {R : Result → Shared → Prop} {h : Heap} {g : Array GenState} {d : Drawn} {t : Nat} {os : OsState} {C : Addr}

theorem G_builtin {s : Shared} {id : String} {args : Args} {b : Builtin} (hn : noDec (.builtin id args) = true) (hb : entryFor table id = some b)
    (h : wpG (model prog w) (A.under (.builtin id args)) (b args) (fun fin s' => match fin with | .done f => R (.ok f) s' | .again c' => c'.quiet = true ∧ codeG (model prog w) A c' R s') (fun e s' => R (.error e) s') s) :
    codeG (model prog w) A (.builtin id args) R s := by
  refine codeG.tree hn ?_
  show wpG _ _ (match entryFor table id with | some b => b args | none => _) _ _ s
  rw [hb]; exact h

theorem G_typeCall {rest : List Value} (Y : Makes (model prog w) h C)
    (hq : wpG (model prog w) (A.under (.builtin "type.__call__" ⟨.ref C :: rest, []⟩)) (Builtin.«type.__call__» ⟨.ref C :: rest, []⟩)
      (fun fin s' => match fin with | .done f => R (.ok f) s' | .again c' => c'.quiet = true ∧ codeG (model prog w) A c' R s') (fun e s' => R (.error e) s') ⟨h, g, d, t, os⟩) :
    codeG (model prog w) A (.call (.ref C) ⟨rest, []⟩) R ⟨h, g, d, t, os⟩ := by
  obtain ⟨⟨oc, od, cd, sl, hC, e1, e2, e4⟩, made, base, self, top, call, typ⟩ := Y
  refine codeG.tree rfl ?_
  show wpG _ _ (callAny (.ref C) _) _ _ _
  show wpG _ _ (load C >>= _) _ _ _
  refine .bind (.of (wpAny_load hC ?_))
  show wpG _ _ (callAny.viaDunder (.ref C) _) _ _ _
  unfold callAny.viaDunder
  refine .bind (.of (call.at ?_))
  dsimp only
  rw [tc_bind]
  refine .bind (.pure (.bind (.pure ?_)))
  refine wpG.pure (a := Fin.again (.call (.builtin "type.__call__") ⟨.ref C :: rest, []⟩)) (And.intro rfl ?_)
  refine codeG.tree rfl ?_
  show wpG _ _ (checkBuiltinCall "type.__call__" ⟨.ref C :: rest, []⟩ >>= fun _ => again (.builtin "type.__call__" ⟨.ref C :: rest, []⟩)) _ _ _
  refine .bind (.of (check_slot tc_kind tc_split typ (tc_args _ _ _) (.pure ⟨Code.quiet_builtin _ (by decide +kernel), ?_⟩)))
  exact G_builtin (show (!(Builtin.Bytes.decodersThatHold.contains "type.__call__")) = true by decide +kernel) entry_typeCall hq

theorem G_make {rest : List Value} {init : Value} (Y : Makes (model prog w) h C) (hi : Looks (model prog w) h (typeLookup (.ref C) "__init__") (some init))
    (hb : ∀ self, Looks (model prog w) h (bindSpecial init self) (init, [self])) (hne : (some init != some (Value.builtin "object.__init__")) = true)
    (hq : codeG (model prog w) (A.under (.builtin "type.__call__" ⟨.ref C :: rest, []⟩)) (.call init ⟨.ref (h.objs.size + 1) :: rest, []⟩) (InitBack (h.objs.size + 1) R) ⟨(h.push emptyDict).push (instObj C h.objs.size), g, d, t, os⟩) :
    codeG (model prog w) A (.call (.ref C) ⟨rest, []⟩) R ⟨h, g, d, t, os⟩ := by
  refine G_typeCall Y ?_
  have Y' := Y
  obtain ⟨⟨oc, od, cd, sl, hC, e1, e2, e4⟩, made, base, self, top, call, typ⟩ := Y
  have hm : Looks (model prog w) h (mroOf (.ref C)) cd.mro := ((Looks.ld (part := none) hC).andThen .now).andThen .now
  show wpG _ _ (mroOf (.ref C) >>= _) _ _ _
  refine .bind (.of (hm.at ?_))
  rw [e4]
  show wpG _ _ (Bind.madeBy (.ref C) >>= _) _ _ _
  refine .bind (.of (made.at ?_))
  refine .bind (.pure (.bind (.holding (.call (codeG.of (new_K Y' hi (.inl hne) ?_))))))
  have k : ∀ b o, h.get? b = some o → ((h.push emptyDict).push (instObj C h.objs.size)).get? b = some o := fun b o e => Heap.get?_push_of_some _ (Heap.get?_push_of_some _ e)
  have hx : ((h.push emptyDict).push (instObj C h.objs.size)).get? (h.objs.size + 1) = some (instObj C h.objs.size) := by heap_get
  have t1 : Looks (model prog w) ((h.push emptyDict).push (instObj C h.objs.size)) (typeOf (.ref (h.objs.size + 1))) (.ref C) := (Looks.ld hx).andThen .now
  have s1 := self.keeps k
  have i1 := hi.keeps k
  have b1 := (hb (.ref (h.objs.size + 1))).keeps k
  have i2 : Looks (model prog w) ((h.push emptyDict).push (instObj C h.objs.size)) (isInstance (.ref (h.objs.size + 1)) (.ref C)) true := t1.andThen s1
  refine .bind (.of (i2.at ?_))
  have sp : Looks (model prog w) ((h.push emptyDict).push (instObj C h.objs.size)) (specialOf (.ref (h.objs.size + 1)) "__init__") (some init) := t1.andThen i1
  refine .bind (.holding ?_)
  unfold callSpecial?
  refine .bind (.of (sp.at ?_))
  refine .holding ?_
  refine .bind (.of (b1.at ?_))
  refine .bind (.call (codeG.mono hq fun r s' z => ?_))
  rcases r with e | (v | _ | _ | _) <;> first | exact z | exact z.elim | skip
  obtain ⟨rfl, z⟩ := z
  exact .pure (.pure z)
end
theorem G_make_K {prog : Program} {w : World} {A : Around} {K : Frag} {C : Addr} {s : Shared} {h₀ : Heap} {L : Addr} {m : Str → Option Value} {news : List (Addr × Obj)} {R : Result → Shared → Prop} {rest : List Value} {fI : Addr} (F : Fr h₀ L s.heap m) (N : News h₀ L s.heap news) (X : K.In s.heap) (hm : makesIn K C = true)
    (hi : findIn K (.ref C) "__init__" = some (some (.ref fI))) (hf : typeIn K (.ref fI) = some (.type "function"))
    (h : ∀ x dx h', Fr h₀ L h' m → News h₀ L h' ((x, instObj C dx) :: (dx, emptyDict) :: news) → (∀ p ∈ news, p.1 < dx) → dx < x →
      codeG (model prog w) (A.under (.builtin "type.__call__" ⟨.ref C :: rest, []⟩)) (.call (.ref fI) ⟨.ref x :: rest, []⟩) (InitBack x R) { s with heap := h' }) :
    codeG (model prog w) A (.call (.ref C) ⟨rest, []⟩) R s := by
  obtain ⟨hh, g, d, t, os⟩ := s
  refine G_make (makes_of X hm) (looks_findIn X hi) (fun self => bind_fn X self hf) rfl (h _ hh.objs.size _ ((F.push _).push _) ?_ (fun p hp => Heap.lt_size (N p hp).1) (Nat.lt_succ_self _))
  have := (N.push F emptyDict).push (F.push _) (instObj C hh.objs.size)
  rwa [Heap.size_push] at this

/-! a class with a maker of its own -/
theorem made_object : Bind.madeBy (.type "object") = pure (some "object.__new__") :=
  madeBy_type (T := "object") (id := "object.__new__") (c := .type "object") (tl := []) (by rw [mroOf_type]; kernel_rfl) (by rw [typeLookup_type, builtinLookup_eq_fast]; kernel_rfl) (by decide +kernel)

theorem new_own {prog : Program} {w : World} {A : Around} {R : Result → Shared → Prop} {h : Heap} {g : Array GenState} {d : Drawn} {t : Nat} {os : OsState} {C : Addr} {oc : Value} {od : Option Addr} {cd : ClassData} {sl : Array (Option Value)}
    (hC : h.get? C = some ⟨oc, od, .cls cd, sl⟩) (e1 : cd.abstract = false) (e2 : cd.hasDel = false) (base : Looks (model prog w) h (Bind.staticBase (.ref C)) (.type "object")) (top : Looks (model prog w) h (isSubtype (.ref C) (.type "object")) true)
    (hq : R (.ok (.ret (.ref (h.objs.size + 1)))) ⟨(h.push emptyDict).push (instObj C h.objs.size), g, d, t, os⟩) :
    codeAny (model prog w) A (.call (.builtin "object.__new__") ⟨[.ref C], []⟩) R ⟨h, g, d, t, os⟩ := by
  have F := PySem.F.objNew
  refine codeAny_call_builtin_code (Code.quiet_builtin _ F.quiet) ?_
  simp only [checkBuiltinCall, F.kind, F.split, F.row]
  have here : Looks (model prog w) h (Bind.madeHere "object.__new__" (.ref C)) () := base.andThen ((Looks.of_pure made_object).andThen (Looks.of_pure (by simp only [Option.map_some, bne_self_eq_false, Bool.false_eq_true, if_false])))
  have made := Looks.of_pure (M := model prog w) (h := h) made_object
  have args : Bind.checkArgs "object.__new__" ⟨.hand, "object.__new__", "__new__", .cls, []⟩ ⟨[.ref C], []⟩ = pure () := by kernel_rfl
  rw [args]
  repeat (first | simp only [bne_self_eq_false, Bool.false_eq_true, if_false] | lk)
  refine codeAny_builtin F.entry ?_
  unfold Builtin.«object.__new__»
  have hC' := Heap.get?_push_of_some (instObj C (h.push emptyDict).objs.size.pred) (Heap.get?_push_of_some emptyDict hC)
  have fin : ∀ A', wpAny (model prog w) A' (do
      let d ← if typeHasDict (.ref C) then some <$> alloc { cls := .type "dict", data := .dict #[] } else pure none
      ret (← newObj (.ref C) .plain d)) (fun fin s' => match fin with | .done f => R (.ok f) s' | .again c' => c'.quiet = true ∧ codeAny (model prog w) A c' R s') (fun e s' => R (.error e) s') ⟨h, g, d, t, os⟩ := by
    intro A'
    show wpAny _ _ ((alloc emptyDict >>= fun x => pure (some x)) >>= _) _ _ _
    refine wpAny_bind (wpAny_bind (wpAny_alloc (wpAny_pure (wpAny_bind ?_))))
    show wpAny _ _ (newObjAsIs _ _ _) _ _ _
    unfold newObjAsIs classHasDel
    refine wpAny_bind (wpAny_alloc (wpAny_bind (wpAny_bind (wpAny_load (Heap.get?_push_of_some _ (Heap.get?_push_of_some _ hC)) (wpAny_pure ?_)))))
    rw [e2]
    refine wpAny_pure (wpAny_pure ?_)
    show R _ _
    rw [Heap.size_push]
    exact hq
  repeat (first | simp only [e1, Bool.false_eq_true, if_false] | exact fin _ | lk)

theorem G_makeOwn {prog : Program} {w : World} {A : Around} {K : Frag} {C fN : Addr} {s : Shared} {R : Result → Shared → Prop} {rest : List Value} {fI : Addr} (X : K.In s.heap)
    {oc : Value} {od : Option Addr} {cd : ClassData} {sl : Array (Option Value)} (hC : K.lookup C = some ⟨oc, od, .cls cd, sl⟩) (h4 : (sl.toList[4]?).join = some .none) (hne : cd.mro.isEmpty = false) (hself : cd.mro.contains (.ref C) = true)
    (hcall : specialIn K (.ref C) "__call__" = some (some (.builtin "type.__call__"))) (htyp : instIn K (.ref C) (.type "type") = some true)
    (hget : ∀ {A' : Around} {E : Value → Shared → Prop} {Q : Value → Shared → Prop}, Q (.ref fN) { s with toks := s.toks + 1 } → wpAny (model prog w) A' (getAttr (.ref C) "__new__") Q E s)
    (hi : findIn K (.ref C) "__init__" = some (some (.ref fI))) (hf : typeIn K (.ref fI) = some (.type "function"))
    (hnew : wpG (model prog w) (A.under (.builtin "type.__call__" ⟨.ref C :: rest, []⟩)) (call (.ref fN) (.ref C :: rest)) (fun obj s₁ => K.In s₁.heap ∧ ∃ x o, obj = .ref x ∧ s₁.heap.get? x = some o ∧ o.cls = .ref C ∧
      codeG (model prog w) (A.under (.builtin "type.__call__" ⟨.ref C :: rest, []⟩)) (.call (.ref fI) ⟨.ref x :: rest, []⟩) (InitBack x R) s₁) (fun e s' => R (.error e) s') { s with toks := s.toks + 1 }) :
    codeG (model prog w) A (.call (.ref C) ⟨rest, []⟩) R s := by
  have call := looks_specialIn (M := model prog w) X hcall
  have typ := looks_instIn (M := model prog w) X htyp
  have hc : clsIn K C = some cd := by unfold clsIn; rw [hC]
  refine codeG.tree rfl ?_
  show wpG _ _ (callAny (.ref C) _) _ _ _
  show wpG _ _ (load C >>= _) _ _ _
  refine .bind (.of (wpAny_load (X _ _ hC) ?_))
  show wpG _ _ (callAny.viaDunder (.ref C) _) _ _ _
  unfold callAny.viaDunder
  refine .bind (.of (call.here ?_))
  dsimp only
  rw [tc_bind]
  refine .bind (.pure (.bind (.pure ?_)))
  refine wpG.pure (a := Fin.again (.call (.builtin "type.__call__") ⟨.ref C :: rest, []⟩)) (And.intro rfl ?_)
  refine codeG.tree rfl ?_
  show wpG _ _ (checkBuiltinCall "type.__call__" ⟨.ref C :: rest, []⟩ >>= fun _ => again (.builtin "type.__call__" ⟨.ref C :: rest, []⟩)) _ _ _
  refine .bind (.of (check_slot tc_kind tc_split typ (tc_args _ _ _) ?_))
  refine wpG.pure (a := Fin.again (.builtin "type.__call__" ⟨.ref C :: rest, []⟩)) ⟨Code.quiet_builtin _ (by decide +kernel), ?_⟩
  refine G_builtin (show (!(Builtin.Bytes.decodersThatHold.contains "type.__call__")) = true by decide +kernel) entry_typeCall ?_
  have hm : Looks (model prog w) s.heap (mroOf (.ref C)) cd.mro := (looks_clsIn X hc).andThen .now
  have made : Looks (model prog w) s.heap (Bind.madeBy (.ref C)) none := by
    intro A Q E s' k q
    unfold Bind.madeBy
    refine wpAny_bind (hm A _ E s' k ?_)
    obtain ⟨c, l, hl⟩ : ∃ c l, cd.mro = c :: l := by cases q : cd.mro with | nil => rw [q] at hne; cases hne | cons c l => exact ⟨c, l, rfl⟩
    rw [hl, List.forIn_cons]
    refine wpAny_bind (wpAny_bind (wpAny_bind (wpAny_bind (wpAny_bind (wpAny_loadPart (k _ _ (X _ _ hC)) (wpAny_pure ?_))))))
    dsimp only
    rw [← Array.getElem?_toList, h4]
    first | exact wpAny_pure (wpAny_pure (wpAny_pure (wpAny_pure q))) | exact wpAny_pure (wpAny_pure (wpAny_pure q))
  show wpG _ _ (mroOf (.ref C) >>= _) _ _ _
  refine .bind (.of (hm.here ?_))
  rw [hne]
  show wpG _ _ (Bind.madeBy (.ref C) >>= _) _ _ _
  refine .bind (.of (made.here ?_))
  dsimp only
  refine .bind (.of (hget ?_))
  refine .bind (.holding (wpG.monoQ hnew fun obj s₁ h₁ => ?_))
  obtain ⟨X₁, x, o, rfl, ho, hcls, hcode⟩ := h₁
  have t1 : Looks (model prog w) s₁.heap (typeOf (.ref x)) (.ref C) := by
    rw [← hcls]; exact (Looks.ld ho).andThen .now
  have sf : Looks (model prog w) s₁.heap (isSubtype (.ref C) (.ref C)) true := looks_mroIn X₁ (by unfold mroIn; rw [hc, Option.bind_some, if_neg (by rw [hne]; decide), hself])
  have i2 : Looks (model prog w) s₁.heap (isInstance (.ref x) (.ref C)) true := t1.andThen sf
  refine .bind (.of (i2.here ?_))
  have sp : Looks (model prog w) s₁.heap (specialOf (.ref x) "__init__") (some (.ref fI)) := t1.andThen (looks_findIn X₁ hi)
  refine .bind (.holding ?_)
  unfold callSpecial?
  refine .bind (.of (sp.here ?_))
  refine .holding ?_
  refine .bind (.of ((bind_fn X₁ (.ref x) hf).here ?_))
  refine .bind (.call (codeG.mono hcode fun r s' z => ?_))
  rcases r with e | (v | _ | _ | _) <;> first | exact z | exact z.elim | skip
  obtain ⟨rfl, z⟩ := z
  exact .pure (.pure z)
end Mine
end
/-! part MiniC -/
section
open PySem PySem.W PySem.Calls PyProof.Rows
namespace Mine

structure Fx where
  A₀ : Around
  A : Around
  base : Heap
  h₀ : Heap
  outer : List Env
  fe : Env
  ce : Env
  sc : Str → Option NameKind
  W : Wd
  sA : Addr

structure NR (sA : Addr) (ρ : Foot) (news : Led) (ce : Env) (loc : Str → Option Value) (vars : Vars) : Prop where
  v : ∀ y p, vars y = some p → match ce.kindOf y with
    | some .local => ∃ v, loc y = some v ∧ VR sA ρ news p v
    | some .cell | some .free => ∃ c v o, ce.cells.lookup y = some c ∧ (c, o) ∈ news ∧ c ∉ ρ.flatten ∧ o.data = .cell (some v) ∧ VR sA ρ news p v
    | _ => True
  c : ∀ y c, ce.kindOf y = some .cell → ce.cells.lookup y = some c → ∃ o w, (c, o) ∈ news ∧ c ∉ ρ.flatten ∧ o.data = .cell w
  i : ∀ y z c, ce.cells.lookup y = some c → ce.cells.lookup z = some c → y = z

structure St (x : Fx) (ρ : Foot) (news : Led) (σ : PH) (m loc : Str → Option Value) (vars : Vars) (s₀ s : Shared) : Prop where
  F : Fr x.h₀ x.fe.locals s.heap m
  N : News x.h₀ x.fe.locals s.heap news
  nd : (news.map (·.1)).Nodup
  R : Rep x.sA ρ news σ
  L : (x.ce = x.fe ∧ loc = m) ∨ ∃ o, (x.ce.locals, o) ∈ news ∧ x.ce.locals ∉ ρ.flatten ∧ (isVal o = false ∧ x.ce.locals ≠ x.fe.locals) ∧ ∀ h : Heap, h.get? x.ce.locals = some o → h.Ns x.ce.locals loc
  V : NR x.sA ρ news x.ce loc vars
  sh : ∃ h tk, s = { s₀ with heap := h, toks := tk }

section
variable {x : Fx} {ρ : Foot} {news : Led} {σ : PH} {m loc : Str → Option Value} {vars : Vars} {s₀ s : Shared}

theorem St.ns (S : St x ρ news σ m loc vars s₀ s) : s.heap.Ns x.ce.locals loc := by
  rcases S.L with ⟨e, f⟩ | ⟨o, h, _, _, k⟩
  · rw [e, f]; exact S.F.ns
  · exact k _ (S.N.get h)

theorem NR.ext {sA : Addr} {ce : Env} {ρ' : Foot} {news' : Led} (V : NR sA ρ news ce loc vars) (x : Ext [] ρ news ρ' news') : NR sA ρ' news' ce loc vars := by
  refine ⟨fun y p h => ?_, fun y c hk h => ?_, V.i⟩
  · have := V.v y p h
    split at this
    · obtain ⟨v, h1, h2⟩ := this; exact ⟨v, h1, h2.mono x⟩
    · obtain ⟨c, v, o, h1, h2, h3, h4, h5⟩ := this
      exact ⟨c, v, o, h1, (x.keep _ h2 h3 (.inl (by simp))).1, (x.keep _ h2 h3 (.inl (by simp))).2, h4, h5.mono x⟩
    · obtain ⟨c, v, o, h1, h2, h3, h4, h5⟩ := this
      exact ⟨c, v, o, h1, (x.keep _ h2 h3 (.inl (by simp))).1, (x.keep _ h2 h3 (.inl (by simp))).2, h4, h5.mono x⟩
    · trivial
  · obtain ⟨o, w, h1, h2, h3⟩ := V.c y c hk h
    exact ⟨o, w, (x.keep _ h1 h2 (.inl (by simp))).1, (x.keep _ h1 h2 (.inl (by simp))).2, h3⟩

/-- the state behind a step that turns heap and abstract heap together -/
theorem St.next (S : St x ρ news σ m loc vars s₀ s) {ρ' : Foot} {news' : Led} {σ' : PH} {h' : Heap} {tk : Nat} (F : Fr x.h₀ x.fe.locals h' m) (N : News x.h₀ x.fe.locals h' news')
    (nd : (news'.map (·.1)).Nodup) (R : Rep x.sA ρ' news' σ') (e : Ext [] ρ news ρ' news') : St x ρ' news' σ' m loc vars s₀ { s with heap := h', toks := tk } := by
  refine ⟨F, N, nd, R, ?_, S.V.ext e, ?_⟩
  · rcases S.L with h | ⟨o, h, h2, h3, h4⟩
    · exact .inl h
    · exact .inr ⟨o, (e.keep _ h h2 (.inl (by simp))).1, (e.keep _ h h2 (.inl (by simp))).2, h3, h4⟩
  · obtain ⟨h, t, q⟩ := S.sh; subst q; exact ⟨h', tk, rfl⟩

theorem frGrow {h₀ h h' : Heap} {L : Addr} (F : Fr h₀ L h m) (k : ∀ b o, h.get? b = some o → h'.get? b = some o) : Fr h₀ L h' m :=
  ⟨F.ns.keeps k, fun b o e => k b o (F.keep b o e), F.above⟩
theorem newsGrow {h₀ h h' : Heap} {L : Addr} (N : News h₀ L h news) (k : ∀ b o, h.get? b = some o → h'.get? b = some o) : News h₀ L h' news :=
  fun p hp => ⟨k _ _ (N p hp).1, (N p hp).2⟩

/-- nothing of the abstract heap turns; what stood stands -/
theorem St.still (S : St x ρ news σ m loc vars s₀ s) {h' : Heap} {tk : Nat} (k : ∀ b o, s.heap.get? b = some o → h'.get? b = some o) :
    St x ρ news σ m loc vars s₀ { s with heap := h', toks := tk } := S.next (frGrow S.F k) (newsGrow S.N k) S.nd S.R .refl
theorem St.tok (S : St x ρ news σ m loc vars s₀ s) {tk : Nat} : St x ρ news σ m loc vars s₀ { s with toks := tk } :=
  S.still (h' := s.heap) fun _ _ h => h

theorem Rep.led {sA : Addr} (h : Rep sA ρ news σ) {a : Addr} (ha : a ∈ ρ.flatten) : ∃ o, (a, o) ∈ news := by
  obtain ⟨fp, h1, h2⟩ := List.mem_flatten.mp ha
  obtain ⟨α, hl, e⟩ := List.mem_iff_getElem.mp h1
  have e' : ρ[α]? = some fp := by rw [← e]; exact List.getElem?_eq_getElem hl
  have hs : α < σ.length := h.len ▸ hl
  have := h.obj α σ[α] fp (List.getElem?_eq_getElem hs) e'
  cases ho : σ[α] with
  | inst C fs => rw [ho] at this; obtain ⟨a', dx, es, k, q, m1, m2, _⟩ := this; subst q; simp at h2; rcases h2 with rfl | rfl <;> exact ⟨_, by assumption⟩
  | list ps => rw [ho] at this; obtain ⟨a', vs, k, q, m1, _⟩ := this; subst q; simp at h2; subst h2; exact ⟨_, m1⟩
  | barr b => rw [ho] at this; obtain ⟨a', q, m1⟩ := this; subst q; simp at h2; subst h2; exact ⟨_, m1⟩

theorem St.low (S : St x ρ news σ m loc vars s₀ s) {p : Addr × Obj} (h : p ∈ news) : @LT.lt Nat _ p.1 s.heap.objs.size := Heap.lt_size (S.N p h).1
theorem St.lowR (S : St x ρ news σ m loc vars s₀ s) {a : Nat} (h : a ∈ ρ.flatten) : @LT.lt Nat _ a s.heap.objs.size := by
  obtain ⟨o, ho⟩ := S.R.led h; exact S.low ho

/-- objects newly made, none of them of the abstract heap -/
theorem St.junk (S : St x ρ news σ m loc vars s₀ s) {h' : Heap} {tk : Nat} {a : Nat} {o : Obj} (k : ∀ b o, s.heap.get? b = some o → h'.get? b = some o)
    (ha : s.heap.objs.size ≤ a) (ho : h'.get? a = some o) : St x ρ ([(a, o)] ++ news) σ m loc vars s₀ { s with heap := h', toks := tk } := by
  have fresh : x.h₀.get? a = none := by
    cases q : x.h₀.get? a with
    | none => rfl
    | some o' => exact absurd (Heap.lt_size (S.F.keep _ _ q)) (Nat.not_lt.mpr ha)
  have hL : a ≠ x.fe.locals := by
    obtain ⟨oL, _, _, hL, _⟩ := S.F.ns
    exact fun e => absurd (Heap.lt_size (e ▸ hL)) (Nat.not_lt.mpr ha)
  refine S.next (frGrow S.F k) (fun p hp => ?_) ?_ S.R.junk .junk
  · rcases List.mem_cons.mp hp with rfl | hp
    · exact ⟨ho, hL, fresh⟩
    · exact newsGrow S.N k p hp
  · rw [List.cons_append, List.map_cons, List.nodup_cons]
    refine ⟨fun q => ?_, S.nd⟩
    obtain ⟨p, hp, e⟩ := List.mem_map.mp q
    have e' : p.1 = a := e
    exact absurd (e' ▸ S.low hp) (Nat.not_lt.mpr ha)

/-- one new object of the abstract heap -/
theorem St.allocN (S : St x ρ news σ m loc vars s₀ s) {h' : Heap} {tk : Nat} {a : Nat} {o : Obj} {po : PO} (F' : Fr x.h₀ x.fe.locals h' m) (N' : News x.h₀ x.fe.locals h' ([(a, o)] ++ news))
    (ha : s.heap.objs.size ≤ a) (hr : ORep x.sA (ρ ++ [[a]]) ([(a, o)] ++ news) po [a]) :
    St x (ρ ++ [[a]]) ([(a, o)] ++ news) (σ ++ [po]) m loc vars s₀ { s with heap := h', toks := tk } ∧ Ext [] ρ news (ρ ++ [[a]]) ([(a, o)] ++ news) ∧ (ρ ++ [[a]])[σ.length]? = some [a] := by
  have hn : ∀ p ∈ news, p.1 ∉ [a] := fun p hp q => by
    rw [List.mem_singleton] at q
    exact absurd (q ▸ S.low hp) (Nat.not_lt.mpr ha)
  have hf : ∀ b ∈ [a], b ∉ ρ.flatten := fun b hb q => by
    rw [List.mem_singleton] at hb
    exact absurd (hb ▸ S.lowR q) (Nat.not_lt.mpr ha)
  have e : Ext [] ρ news (ρ ++ [[a]]) ([(a, o)] ++ news) := .alloc hn
  have nd : (([(a, o)] ++ news).map (·.1)).Nodup := by
    rw [List.cons_append, List.map_cons, List.nodup_cons]
    refine ⟨fun q => ?_, S.nd⟩
    obtain ⟨p, hp, e⟩ := List.mem_map.mp q
    exact hn p hp (by rw [List.mem_singleton]; exact e)
  refine ⟨S.next F' N' nd (S.R.alloc hf hn (by simp) hr) e, e, ?_⟩
  rw [← S.R.len, List.getElem?_append_right (Nat.le_refl _), Nat.sub_self]; rfl
theorem St.alloc (S : St x ρ news σ m loc vars s₀ s) {h' : Heap} {tk : Nat} {a : Nat} {o : Obj} {po : PO} (k : ∀ b o, s.heap.get? b = some o → h'.get? b = some o)
    (ha : s.heap.objs.size ≤ a) (ho : h'.get? a = some o) (hr : ORep x.sA (ρ ++ [[a]]) ([(a, o)] ++ news) po [a]) :
    St x (ρ ++ [[a]]) ([(a, o)] ++ news) (σ ++ [po]) m loc vars s₀ { s with heap := h', toks := tk } ∧ Ext [] ρ news (ρ ++ [[a]]) ([(a, o)] ++ news) ∧ (ρ ++ [[a]])[σ.length]? = some [a] := by
  have J := S.junk (tk := tk) k ha ho
  exact S.allocN J.F J.N ha hr

/-- an object of the ledger turned, and with it one of the abstract heap -/
theorem St.upd (S : St x ρ news σ m loc vars s₀ s) {h' : Heap} {tk : Nat} {α : Nat} {fp : List Addr} {d : Addr} {ob ob' : Obj} {po : PO} (hα : ρ[α]? = some fp) (hd : d ∈ fp)
    (hm : (d, ob) ∈ news) (hs : ∀ b, b ≠ d → h'.get? b = s.heap.get? b) (ho : h'.get? d = some ob') (hr : ORep x.sA ρ (updL d ob' news) po fp) :
    St x ρ (updL d ob' news) (σ.set α po) m loc vars s₀ { s with heap := h', toks := tk } ∧ Ext [] ρ news ρ (updL d ob' news) := by
  have e : Ext [] ρ news ρ (updL d ob' news) := .upd (mem_foot hα hd)
  have D := S.N _ hm
  refine ⟨S.next ⟨?_, fun b o q => ?_, S.F.above⟩ (fun p hp => ?_) (by rw [updL_addr]; exact S.nd) (S.R.upd hα hd hr) e, e⟩
  · obtain ⟨oL, es, ep, hL, r⟩ := S.F.ns
    exact ⟨oL, es, ep, (hs _ (Ne.symm D.2.1)).trans hL, r⟩
  · refine (hs b fun q' => ?_).trans (S.F.keep b o q)
    have := D.2.2
    rw [← q', q] at this; cases this
  · rcases of_mem_updL hp with rfl | ⟨h1, h2⟩
    · exact ⟨ho, D.2⟩
    · exact ⟨(hs _ h2).trans (S.N p h1).1, (S.N p h1).2⟩
end

/-! what a run says -/
def ErrE (_x : Fx) (_ρ : Foot) (_news : Led) (_vars : Vars) (_s₀ : Shared) (_pe : PV) (_σ : PH) (_e : Value) (_s : Shared) : Prop := False
theorem ErrE.mono {x ρ news ρ₁ news₁ vars s₀ pe σ e s} (_h : Ext [] ρ news ρ₁ news₁) (k : ErrE x ρ₁ news₁ vars s₀ pe σ e s) : ErrE x ρ news vars s₀ pe σ e s := k

section
variable {α β γ : Type}
def QF (x : Fx) (Rel : Foot → Led → β → α → Prop) (ρ : Foot) (news : Led) (m loc : Str → Option Value) (vars : Vars) (s₀ : Shared) (r : R β) (a : α) (s' : Shared) : Prop := match r with
  | .ok b σ' => ∃ ρ' news', St x ρ' news' σ' m loc vars s₀ s' ∧ Ext [] ρ news ρ' news' ∧ Rel ρ' news' b a
  | _ => False
def EF (x : Fx) (ρ : Foot) (news : Led) (vars : Vars) (s₀ : Shared) (r : R β) (e : Value) (s' : Shared) : Prop := match r with
  | .err pe σ' => ErrE x ρ news vars s₀ pe σ' e s'
  | _ => False
def Run (prog : Program) (w : World) (x : Fx) (Rel : Foot → Led → β → α → Prop) (vars : Vars) (s₀ : Shared) (t : Sem α) (σ : PH) (r : R β) : Prop :=
  ∀ ρ news m loc s, St x ρ news σ m loc vars s₀ s → r ≠ .bad → wpG (model prog w) x.A t (QF x Rel ρ news m loc vars s₀ r) (EF x ρ news vars s₀ r) s

theorem QF.mono {x : Fx} {Rel : Foot → Led → β → α → Prop} {ρ ρ₁ : Foot} {news news₁ : Led} {m loc : Str → Option Value} {vars : Vars} {s₀ : Shared} {r : R β} {a : α} {s' : Shared} (e : Ext [] ρ news ρ₁ news₁) (h : QF x Rel ρ₁ news₁ m loc vars s₀ r a s') :
    QF x Rel ρ news m loc vars s₀ r a s' := by
  cases r with
  | ok b σ' => obtain ⟨ρ', news', S, E, h⟩ := h; exact ⟨ρ', news', S, e.trans E, h⟩
  | _ => exact h
theorem EF.mono {x : Fx} {ρ ρ₁ : Foot} {news news₁ : Led} {vars : Vars} {s₀ : Shared} {r : R β} {v : Value} {s' : Shared} (e : Ext [] ρ news ρ₁ news₁) (h : EF x ρ₁ news₁ vars s₀ r v s') :
    EF x ρ news vars s₀ r v s' := by
  cases r with
  | err pe σ' => exact ErrE.mono (x := x) (vars := vars) (s₀ := s₀) (pe := pe) (σ := σ') (e := v) (s := s') e h
  | _ => exact h

theorem Run.at {prog : Program} {w : World} {x : Fx} {Rel : Foot → Led → β → α → Prop} {vars : Vars} {s₀ s : Shared} {t : Sem α} {σ : PH} {r : R β} (h : Run prog w x Rel vars s₀ t σ r)
    {ρ ρ₁ : Foot} {news news₁ : Led} {m loc : Str → Option Value} (S : St x ρ₁ news₁ σ m loc vars s₀ s) (e : Ext [] ρ news ρ₁ news₁) (nb : r ≠ .bad) :
    wpG (model prog w) x.A t (QF x Rel ρ news m loc vars s₀ r) (EF x ρ news vars s₀ r) s :=
  wpG.mono (h _ _ _ _ _ S nb) (fun _ _ q => q.mono e) fun _ _ q => q.mono e

/-- one run, and what follows on its answer -/
theorem Run.seq {prog : Program} {w : World} {x : Fx} {Rel : Foot → Led → β → α → Prop} {vars : Vars} {s₀ s : Shared} {t : Sem α} {σ : PH} {r : R β} {δ : Type} {f : β → PH → R δ} {Q : α → Shared → Prop}
    {ρ ρ₁ : Foot} {news news₁ : Led} {m loc : Str → Option Value} (h : Run prog w x Rel vars s₀ t σ r) (S : St x ρ₁ news₁ σ m loc vars s₀ s) (e : Ext [] ρ news ρ₁ news₁) (nb : r.bind f ≠ .bad)
    (k : ∀ b σ' a s' ρ' news', St x ρ' news' σ' m loc vars s₀ s' → Ext [] ρ₁ news₁ ρ' news' → Rel ρ' news' b a → r.bind f = f b σ' → f b σ' ≠ .bad → Q a s') :
    wpG (model prog w) x.A t Q (EF x ρ news vars s₀ (r.bind f)) s := by
  cases r with
  | ok b σ' =>
    refine wpG.mono (h _ _ _ _ _ S (by intro q; cases q)) (fun a s' q => ?_) fun _ _ q => q.elim
    obtain ⟨ρ', news', S', E', h'⟩ := q
    exact k b σ' a s' ρ' news' S' E' h' rfl nb
  | err pe σ' => exact wpG.mono (h _ _ _ _ _ S (by intro q; cases q)) (fun _ _ q => q.elim) fun v s' q => ErrE.mono (x := x) (vars := vars) (s₀ := s₀) (pe := pe) (σ := σ') (e := v) (s := s') e q
  | bad => exact absurd rfl nb

def VRel (sA : Addr) (ρ : Foot) (news : Led) (p : PV) (v : Value) : Prop := VR sA ρ news p v
def BRel (_ρ : Foot) (_news : Led) (b c : Bool) : Prop := c = b
abbrev RunV (prog : Program) (w : World) (x : Fx) (vars : Vars) (s₀ : Shared) (t : Sem Value) (σ : PH) (r : R PV) : Prop := Run prog w x (VRel x.sA) vars s₀ t σ r
end
end Mine
end
/-! part MiniD -/
section
open PySem PySem.W PySem.Calls PyProof.Rows
namespace Mine

def Bud (A : Around) (d k : Nat) : Prop := A.depth + 8 * d + k < recursionLimit ∧ A.units + 40 * d + 4 * k < cLine
structure Fx.Pre (p : Program) (loose : List Str) (mean : ExcName → Option Value) (mg mb : Str → Option Value) (x : Fx) : Prop where
  B : Below x.A₀ x.base x.outer x.h₀
  X : x.W.K.In x.h₀
  T : Top p loose mean mg mb x.h₀
  hA : x.A.frames = some (x.fe :: x.outer)
  hf : x.fe.frame = some x.fe.locals
  hk : x.fe.scope.kind = .function
  hh : x.A.handled = none
  hg : x.A.guards = some []
  own : ∀ C ∈ x.W.own, ∀ (M : Model) (h : Heap), x.W.K.In h → Looks M h (Bind.staticBase (.ref C)) (.type "object")
  scr : ∃ vs, x.h₀.IsList x.sA vs.toArray ∧ IntsAre vs x.W.ns
structure Fx.Sco (x : Fx) : Prop where
  ck : x.ce.scope.kind = .function
  cg : x.ce.globals = mainGlobals
  cb : x.ce.builtins = builtinsNs
  sk : ∀ y k, x.sc y = some k → x.ce.kindOf y = some k ∨ (k = .free ∧ x.ce.kindOf y = some .cell)
  cf : x.ce.frame = x.fe.frame

variable {prog : Program} {w : World} {p : Program} {loose : List Str} {mean : ExcName → Option Value} {mg mb : Str → Option Value}

theorem toPV_VR {K : Frag} {v : Value} {q : PV} (h : toPV K v = some q) (sA : Addr) (ρ : Foot) (news : Led) : VR sA ρ news q v := by
  cases v <;> simp only [toPV] at h <;> first | (cases h; first | rfl | exact ⟨_, rfl⟩) | (split at h <;> first | (cases h; rfl) | cases h) | cases h

section
variable {x : Fx} {ρ : Foot} {news : Led} {σ : PH} {m loc : Str → Option Value} {vars : Vars} {s₀ s : Shared}

theorem QF.pure {β α : Type} {Rel : Foot → Led → β → α → Prop} {b : β} {a : α} (S : St x ρ news σ m loc vars s₀ s) (h : Rel ρ news b a) : QF x Rel ρ news m loc vars s₀ (.ok b σ) a s :=
  ⟨ρ, news, S, .refl, h⟩
theorem QF.of {β α : Type} {Rel : Foot → Led → β → α → Prop} {b : β} {a : α} {ρ' : Foot} {news' : Led} {σ' : PH} {s' : Shared} (S : St x ρ' news' σ' m loc vars s₀ s') (e : Ext [] ρ news ρ' news') (h : Rel ρ' news' b a) :
    QF x Rel ρ news m loc vars s₀ (.ok b σ') a s' := ⟨ρ', news', S, e, h⟩

theorem name_ok (P : x.Pre p loose mean mg mb) (C : x.Sco) (S : St x ρ news σ m loc vars s₀ s) {y : Str} {pos : Pos} {q : PV} (h : nameV x.W.K x.sc vars y = some q) {E : Value → Shared → Prop} :
    wpAny (model prog w) x.A (eval (.Name y pos) x.ce) (QF x (VRel x.sA) ρ news m loc vars s₀ (.ok q σ)) E s := by
  unfold nameV at h
  split at h
  · cases h
  rename_i hd
  have hd' : (y == ("__debug__" : Str)) = false := by simpa using hd
  have hx : x.W.K.In s.heap := P.X.keeps S.F.keep
  have hT : TopRead p loose mg mb x.h₀ := topRead_of P.T
  have cell : ∀ k, (k = NameKind.cell ∨ k = NameKind.free) → x.ce.kindOf y = some k → vars y = some q → (k = .free → (y == ("__classdict__" : Str)) = false) →
      wpAny (model prog w) x.A (eval (.Name y pos) x.ce) (QF x (VRel x.sA) ρ news m loc vars s₀ (.ok q σ)) E s := fun k hk hkk hv hn => by
    have := S.V.v y q hv
    rcases hk with rfl | rfl
    · rw [hkk] at this
      obtain ⟨c, v, o, h1, h2, h3, h4, h5⟩ := this
      exact wpAny_Name (wpAny_loadName_cell C.ck hkk h1 ⟨o, S.N.get h2, h4⟩ (.pure S h5)) hd'
    · rw [hkk] at this
      obtain ⟨c, v, o, h1, h2, h3, h4, h5⟩ := this
      exact wpAny_Name (wpAny_loadName_free C.ck hkk h1 ⟨o, S.N.get h2, h4⟩ (.pure S h5) (hn rfl)) hd'
  split at h
  · rename_i hs
    rcases C.sk _ _ hs with hk | ⟨e, _⟩
    · have := S.V.v y q h
      rw [hk] at this
      obtain ⟨v, h1, h2⟩ := this
      exact wpAny_Name (wpAny_loadName_local C.ck hk S.ns h1 (.pure S h2)) hd'
    · cases e
  · rename_i hs
    rcases C.sk _ _ hs with hk | ⟨e, _⟩
    · exact cell _ (.inl rfl) hk h (fun e => by cases e)
    · cases e
  · rename_i hs
    split at h
    · cases h
    rename_i hn
    rcases C.sk _ _ hs with hk | ⟨_, hk⟩
    · exact cell _ (.inr rfl) hk h (fun _ => by simpa using hn)
    · exact cell _ (.inl rfl) hk h (fun e => by cases e)
  · rename_i hs
    rcases C.sk _ _ hs with hk | ⟨e, _⟩
    · unfold globV at h
      split at h
      · rename_i v hv
        exact Name_function_global C.ck hk (loadGlobal_global (by rw [C.cg]; exact hT.g.keeps S.F.keep) (mg_of P.X hT.g hv) (.pure S (toPV_VR h _ _ _))) hd'
      · rename_i hv
        split at h
        · cases h
        rename_i hnm
        obtain ⟨v, h1, h2⟩ := Option.bind_eq_some_iff.mp h
        exact Name_function_global C.ck hk (loadGlobal_builtin (by rw [C.cg]; exact hT.g.keeps S.F.keep) (mg_none_of P.X hT.g hv) (by rw [C.cb]; exact hT.b.keeps S.F.keep) ((hT.builtins y hnm).trans h1) (.pure S (toPV_VR h2 _ _ _))) hd'
      · cases h
    · cases e
  · cases h

/-! constants -/
theorem const_ok (S : St x ρ news σ m loc vars s₀ s) {c : Const} {k : Nat} {pos : Pos} {q : PV} {E : Value → Shared → Prop}
    (h : (match c with | .none => some PV.none | .bool b => some (.bool b) | .int i => some (.int i) | .str y => some (.str y) | .bytes b => some (.bytes b.toArray) | _ => Option.none) = some q) :
    wpAny (model prog w) x.A (eval (.Constant c k pos) x.ce) (QF x (VRel x.sA) ρ news m loc vars s₀ (.ok q σ)) E s := by
  cases c <;> simp only [] at h <;> cases h
  · exact wpAny_pure (.pure S rfl)
  · exact wpAny_pure (.pure S rfl)
  · exact wpAny_mkInt (.pure S.tok ⟨_, rfl⟩)
  · exact wpAny_mkText (.pure S.tok ⟨_, rfl⟩)
  · show wpAny _ _ (mkTextBytes _) _ _ _
    exact wpAny_bind (wpAny_fresh (wpAny_pure (.pure S.tok ⟨_, rfl⟩)))
end

/-! lists of expressions -/
theorem starEach_cons (e : Expr) (r : List Expr) (env : Env) (h : isStarredE e = false) : starEach (e :: r) env = (false, eval e env) :: starEach r env := by
  cases e <;> first | rfl | cases h

def LRel (sA : Addr) (ρ : Foot) (news : Led) (ps : List PV) (vs : List Value) : Prop := LR sA ρ news ps vs

theorem backTo_cons (pos : Pos) (t : Sem Value) (r : List (Bool × Sem Value)) : backTo pos ((false, t) :: r) = (false, t) :: backTo pos r := rfl

theorem evL_ok {x : Fx} {f : Expr → PH → R PV} (hs : ∀ e σ, f e σ ≠ .bad → isStarredE e = false) {vars : Vars} {s₀ : Shared} {pos : Pos}
    (hf : ∀ e σ, RunV prog w x vars s₀ (eval e x.ce) σ (f e σ)) : ∀ es σ, Run prog w x (LRel x.sA) vars s₀ (spliced (backTo pos (starEach es x.ce))) σ (evL f es σ)
  | [], σ => fun ρ news m loc s S _ => .of (spliced_nil (.pure S rfl))
  | e :: r, σ => fun ρ news m loc s S nb => by
    have h1 : f e σ ≠ .bad := fun q => nb (by show (f e σ).bind _ = _; rw [q]; rfl)
    rw [show evL f (e :: r) σ = (f e σ).bind fun v σ => (evL f r σ).bind fun vs σ => .ok (v :: vs) σ from rfl] at nb ⊢
    rw [starEach_cons e r _ (hs e σ h1), backTo_cons]
    refine G_spliced_cons ?_
    refine Run.seq (hf e σ) S .refl nb fun b σ₁ a s₁ ρ₁ news₁ S₁ E₁ V₁ e₁ nb₁ => ?_
    rw [e₁]
    refine Run.seq (evL_ok hs hf r σ₁) S₁ E₁ nb₁ fun bs σ₂ as s₂ ρ₂ news₂ S₂ E₂ V₂ e₂ nb₂ => ?_
    rw [e₂]
    exact .of S₂ (E₁.trans E₂) ⟨a, as, rfl, V₁.mono E₂, V₂⟩

theorem evL_plain {pos : Pos} {env : Env} : ∀ {es : List Expr}, (∀ e ∈ es, isStarredE e = false) → ((backTo pos (starEach es env)).any (·.1)) = false
  | [], _ => rfl
  | e :: r, h => by
    rw [starEach_cons e r _ (h e (by simp)), backTo_cons, List.any_cons, evL_plain fun e he => h e (by simp [he])]; rfl
theorem evL_stars {f : Expr → PH → R PV} (hs : ∀ e σ, f e σ ≠ .bad → isStarredE e = false) : ∀ es σ bs σ', evL f es σ = .ok bs σ' → ∀ e ∈ es, isStarredE e = false
  | e :: r, σ, bs, σ', h, e', he => by
    unfold evL at h
    cases q : f e σ with
    | ok b σ₁ =>
      rw [q] at h
      rcases List.mem_cons.mp he with rfl | he
      · exact hs _ σ (by rw [q]; intro y; cases y)
      · change (evL f r σ₁).bind _ = _ at h
        cases q2 : evL f r σ₁ with
        | ok bs₁ σ₂ => exact evL_stars hs r σ₁ bs₁ σ₂ q2 e' he
        | err _ _ => rw [q2] at h; cases h
        | bad => rw [q2] at h; cases h
    | err _ _ => rw [q] at h; cases h
    | bad => rw [q] at h; cases h

end Mine
end
/-! part MiniE -/
section
open PySem PySem.W PySem.Calls PyProof.Rows
namespace Mine
variable {prog : Program} {w : World} {p : Program} {loose : List Str} {mean : ExcName → Option Value} {mg mb : Str → Option Value}

section
variable {x : Fx} {ρ : Foot} {news : Led} {σ : PH} {m loc : Str → Option Value} {vars : Vars} {s₀ s : Shared}

/-- the goal of an operation -/
abbrev Does (prog : Program) (w : World) (x : Fx) (ρ : Foot) (news : Led) (m loc : Str → Option Value) (vars : Vars) (s₀ s : Shared) (t : Sem Value) (r : R PV) : Prop :=
  wpAny (model prog w) x.A t (QF x (VRel x.sA) ρ news m loc vars s₀ r) (EF x ρ news vars s₀ r) s

theorem ofO_some {α β : Type} {o : Option α} {f : α → R β} (nb : ofO o f ≠ .bad) : ∃ a, o = some a ∧ ofO o f = f a := by
  cases o with
  | some a => exact ⟨a, rfl, rfl⟩
  | none => exact absurd rfl nb
theorem if_bad {β : Type} {c : Prop} [Decidable c] {r : R β} (nb : (if c then r else .bad) ≠ .bad) : c ∧ (if c then r else .bad) = r := by
  by_cases h : c
  · exact ⟨h, if_pos h⟩
  · rw [if_neg h] at nb; exact absurd rfl nb

theorem list_at (S : St x ρ news σ m loc vars s₀ s) {α : Nat} {ps : List PV} {v : Value} (hα : σ[α]? = some (.list ps)) (hv : VR x.sA ρ news (.obj α) v) :
    ∃ a vs n, v = .ref a ∧ ρ[α]? = some [a] ∧ (a, listOf vs.toArray n) ∈ news ∧ LR x.sA ρ news ps vs ∧ s.heap.IsList a vs.toArray := by
  obtain ⟨a, fp, e, hf⟩ := hv
  obtain ⟨a', vs, n, e', h1, h2⟩ := S.R.obj _ _ _ hα hf
  cases e'
  exact ⟨a, vs, n, e, hf, h1, h2, _, S.N.get h1, rfl, n, rfl⟩
theorem barr_at (S : St x ρ news σ m loc vars s₀ s) {α : Nat} {b : Array UInt8} {v : Value} (hα : σ[α]? = some (.barr b)) (hv : VR x.sA ρ news (.obj α) v) :
    ∃ a, v = .ref a ∧ ρ[α]? = some [a] ∧ (a, barrObj b) ∈ news ∧ s.heap.get? a = some (barrObj b) := by
  obtain ⟨a, fp, e, hf⟩ := hv
  obtain ⟨a', e', h1⟩ := S.R.obj _ _ _ hα hf
  cases e'
  exact ⟨a, e, hf, h1, S.N.get h1⟩
theorem inst_at (S : St x ρ news σ m loc vars s₀ s) {α : Nat} {C : Addr} {fs : List (Str × PV)} {v : Value} (hα : σ[α]? = some (.inst C fs)) (hv : VR x.sA ρ news (.obj α) v) :
    ∃ a dx es n, v = .ref a ∧ ρ[α]? = some [a, dx] ∧ (a, instObj C dx) ∈ news ∧ (dx, dictOf es n) ∈ news ∧ FR x.sA ρ news fs es ∧ InstAt s.heap a (instObj C dx) C (some (dictOf es n)) := by
  obtain ⟨a, fp, e, hf⟩ := hv
  obtain ⟨a', dx, es, n, e', h1, h2, h3⟩ := S.R.obj _ _ _ hα hf
  cases e'
  exact ⟨a, dx, es, n, e, hf, h1, h2, h3, InstAt.of_news S.N h1 h2⟩
theorem scr_at (P : x.Pre p loose mean mg mb) (S : St x ρ news σ m loc vars s₀ s) : ∃ vs, s.heap.IsList x.sA vs.toArray ∧ IntsAre vs x.W.ns := by
  obtain ⟨vs, h1, h2⟩ := P.scr
  exact ⟨vs, stays_list S.F.keep h1, h2⟩

theorem LR.rep {sA : Addr} {ps : List PV} {vs : List Value} (h : LR sA ρ news ps vs) : ∀ n, LR sA ρ news (List.replicate n ps).flatten (List.replicate n vs).flatten
  | 0 => rfl
  | n + 1 => by rw [List.replicate_succ, List.replicate_succ, List.flatten_cons, List.flatten_cons]; exact h.append (h.rep n)
theorem foldl_arrays {α : Type} (l : List (Array α)) : ∀ a : Array α, (l.foldl (fun x1 x2 => x1 ++ x2) a).toList = a.toList ++ (l.map (·.toList)).flatten := by
  induction l with
  | nil => intro a; simp
  | cons b r ih => intro a; rw [List.foldl_cons, ih]; simp

theorem ints_ok (S : St x ρ news σ m loc vars s₀ s) {op : Operator} {a b i : Int} {t u : Tok} (h : intOp op a b = some i) {E : Value → Shared → Prop} :
    wpAny (model prog w) x.A (binaryOp op (.int a t) (.int b u)) (QF x (VRel x.sA) ρ news m loc vars s₀ (.ok (.int i) σ)) E s := by
  have q : ∀ i tk tk', QF x (VRel x.sA) ρ news m loc vars s₀ (.ok (.int i) σ) (.int i tk) { s with toks := tk' } := fun i tk tk' => .pure S.tok ⟨_, rfl⟩
  cases op <;> simp only [intOp] at h
  case Add => cases h; exact PyProof.Rows.add_int (q _ _ _)
  case Sub => cases h; exact PyProof.Rows.sub_int (q _ _ _)
  case Mult => split at h <;> cases h; rename_i hm; exact PyProof.Rows.mul_int (q _ _ _) (by unfold mulOk at hm; unfold IntMulOk; intro hc; rw [hc] at hm; cases hm)
  case Mod => split at h <;> cases h; rename_i hm; exact PyProof.Rows.mod_int' hm (q _ _ _)
  case FloorDiv => split at h <;> cases h; rename_i hm; exact PyProof.Rows.floordiv_int hm.1 (q _ _ _) (.inl (by have := hm.2; unfold divOk at this; simpa using this))
  case Pow => split at h <;> cases h; rename_i hm; exact PyProof.Rows.pow_int hm.1 (by have := hm.2; unfold powOk at this; exact of_decide_eq_true this) (q _ _ _)
  case LShift => split at h <;> cases h; rename_i hm; exact PyProof.Rows.lshift_int hm.1 (by have := hm.2; unfold shlOk at this; exact of_decide_eq_true this) (q _ _ _)
  case RShift => split at h <;> cases h; rename_i hm; exact PyProof.Rows.rshift_int hm (q _ _ _)
  case BitAnd => cases h; exact PyProof.Rows.and_int (q _ _ _)
  case BitOr => cases h; exact PyProof.Rows.or_int (q _ _ _)
  case BitXor => cases h; exact PyProof.Rows.xor_int (q _ _ _)
  all_goals cases h

theorem binop_ok (S : St x ρ news σ m loc vars s₀ s) {op : Operator} {a b : PV} {va vb : Value} (ha : VR x.sA ρ news a va) (hb : VR x.sA ρ news b vb) (nb : binop op a b σ ≠ .bad) :
    Does prog w x ρ news m loc vars s₀ s (binaryOp op va vb) (binop op a b σ) := by
  unfold binop at nb ⊢
  split at nb
  · rename_i i j
    obtain ⟨t, rfl⟩ := ha
    obtain ⟨u, rfl⟩ := hb
    obtain ⟨k, h1, h2⟩ := ofO_some nb
    try dsimp only
    rw [h2]
    exact ints_ok S h1
  · rename_i y z
    obtain ⟨t, rfl⟩ := ha
    obtain ⟨u, rfl⟩ := hb
    obtain ⟨h1, h2⟩ := if_bad nb
    rw [h2]
    exact PyProof.Rows.add_str (fun _ _ => .pure S.tok ⟨_, rfl⟩) (of_decide_eq_true h1)
  · rename_i y n
    obtain ⟨t, rfl⟩ := ha
    obtain ⟨u, rfl⟩ := hb
    obtain ⟨h1, h2⟩ := if_bad nb
    rw [h2]
    exact SB.mul (mulOk_of 16 1048576 h1.1 h1.2.1 h1.2.2 (by decide) (by decide)) fun _ _ => .pure S.tok ⟨_, rfl⟩
  · rename_i α β
    split at nb
    · rename_i xs ys h1 h2
      obtain ⟨a, vs, n, rfl, ra, ma, la, ia⟩ := list_at S h1 ha
      obtain ⟨b, ws, k, rfl, rb, mb', lb, ib⟩ := list_at S h2 hb
      obtain ⟨hz, he⟩ := if_bad nb
      rw [he]
      refine add_lists S.F S.N ia ib (fun h' F' N' => ?_) (by rw [← la.length, ← lb.length]; exact of_decide_eq_true hz)
      obtain ⟨S', E', r'⟩ := S.allocN (tk := s.toks) (po := .list (xs ++ ys)) F' N' (Nat.le_refl _) ⟨_, vs ++ ws, 0, rfl, by simp, (LR.mono (.alloc (cs := []) (fun p hp q => by
        rw [List.mem_singleton] at q; exact absurd (q ▸ S.low hp) (Nat.lt_irrefl _))) _ _ (la.append lb))⟩
      exact .of S' E' ⟨_, _, rfl, r'⟩
    · exact absurd rfl nb
  · rename_i α n
    split at nb
    · rename_i xs h1
      obtain ⟨a, vs, k, rfl, ra, ma, la, ia⟩ := list_at S h1 ha
      obtain ⟨u, rfl⟩ := hb
      obtain ⟨hz, he⟩ := if_bad nb
      rw [he]
      refine mul_list S.F S.N (S.N.get ma) hz.2.2 hz.2.1 (by simpa [← la.length] using hz.1) fun h' F' N' => ?_
      have hl : LR x.sA ρ news (rep xs n) (List.replicate n.toNat vs).flatten := la.rep _
      have ha' : (List.foldl (fun x1 x2 => x1 ++ x2) #[] (List.replicate (if vs.toArray.isEmpty = true then 0 else n.toNat) vs.toArray)) = (List.replicate n.toNat vs).flatten.toArray := by
        apply Array.ext'
        rw [foldl_arrays]
        cases vs with
        | nil => simp
        | cons v r => simp
      rw [ha'] at N'
      obtain ⟨S', E', r'⟩ := S.allocN (tk := s.toks) (po := .list (rep xs n)) F' N' (Nat.le_refl _) ⟨_, _, 0, rfl, by simp, (LR.mono (.alloc (cs := []) (fun p hp q => by
        rw [List.mem_singleton] at q; exact absurd (q ▸ S.low hp) (Nat.lt_irrefl _))) _ _ hl)⟩
      exact .of S' E' ⟨_, _, rfl, r'⟩
    · exact absurd rfl nb
  · exact absurd rfl nb
end
end Mine
end
/-! part MiniF -/
section
open PySem PySem.W PySem.Calls PyProof.Rows
namespace Mine
variable {prog : Program} {w : World} {p : Program} {loose : List Str} {mean : ExcName → Option Value} {mg mb : Str → Option Value}

section
variable {x : Fx} {ρ : Foot} {news : Led} {σ : PH} {m loc : Str → Option Value} {vars : Vars} {s₀ s : Shared}

theorem LR.ints {sA : Addr} : ∀ {ps : List PV} {vs : List Value} {ns : List Int}, LR sA ρ news ps vs → intsO ps = some ns → IntsAre vs ns
  | [], _, _, h, e => by cases h; cases e; exact .nil
  | .int i :: r, _, _, ⟨v, vs, e, ⟨t, hv⟩, hl⟩, q => by
    subst e hv
    simp only [intsO] at q
    obtain ⟨ns, h1, h2⟩ := Option.map_eq_some_iff.mp q
    subst h2
    exact .cons i t (LR.ints hl h1)
  | .none :: _, _, _, _, q | .bool _ :: _, _, _, _, q | .str _ :: _, _, _, _, q | .bytes _ :: _, _, _, _, q | .type _ :: _, _, _, _, q | .blt _ :: _, _, _, _, q | .top _ :: _, _, _, _, q | .scr :: _, _, _, _, q
  | .tup _ :: _, _, _, _, q | .meth _ _ :: _, _, _, _, q | .obj _ :: _, _, _, _, q | .rng _ _ _ :: _, _, _, _, q | .opq :: _, _, _, _, q => by cases q

theorem type_beq (k n : String) : (Value.type k == Value.type n) = (k == n) := by
  by_cases e : k = n
  · subst e; rw [beq_self_eq_true, beq_self_eq_true]
  · rw [beq_eq_false_iff_ne.mpr e, beq_eq_false_iff_ne.mpr (fun q => e (Value.type.inj q))]

theorem is_ok {M : Model} {A : Around} {E : Value → Shared → Prop} {Q : Value → Shared → Prop} {a b : PV} {va vb : Value} {c : Bool} (ha : VR x.sA ρ news a va) (hb : VR x.sA ρ news b vb) (h : isT a b = some c) :
    (Q (.bool c) s → wpAny M A (compareOp .Is va vb) Q E s) ∧ (Q (.bool (!c)) s → wpAny M A (compareOp .IsNot va vb) Q E s) := by
  have plain : plainIs va vb = true → (va == vb) = c → (Q (.bool c) s → wpAny M A (compareOp .Is va vb) Q E s) ∧ (Q (.bool (!c)) s → wpAny M A (compareOp .IsNot va vb) Q E s) := fun h1 h2 =>
    ⟨fun q => wpAny_is_plain h1 (by rw [h2]; exact q), fun q => wpAny_isNot_plain h1 (by rw [h2]; exact q)⟩
  unfold isT at h
  split at h
  · cases hb
    split at h
    · cases h; cases ha; exact plain rfl rfl
    · cases h; obtain ⟨q, fp, rfl, _⟩ := ha; exact plain rfl rfl
    · cases h; obtain ⟨t, rfl⟩ := ha; exact plain rfl rfl
    · cases h; obtain ⟨t, rfl⟩ := ha; exact plain rfl rfl
    · cases h; obtain ⟨t, rfl⟩ := ha; exact plain rfl rfl
    · cases h
  · rename_i n
    cases hb
    split at h
    · rename_i k; cases h; cases ha; exact plain rfl (type_beq k n)
    · cases h; cases ha; exact plain rfl rfl
    · cases h
  · cases hb
    split at h
    · split at h
      · rename_i e; cases h; cases ha; subst e
        exact ⟨fun q => wpAny_is_ref_self q, fun q => wpAny_isNot_ref_self q⟩
      · cases h
    · cases h
  · cases h

theorem cmp_ok (hu : x.A.units + 64 < cLine) (S : St x ρ news σ m loc vars s₀ s) {op : CmpOp} {a b : PV} {va vb : Value} {c : Bool} (ha : VR x.sA ρ news a va) (hb : VR x.sA ρ news b vb) (h : cmpop op a b σ = some c) {E : Value → Shared → Prop} {Q : Value → Shared → Prop}
    (q : Q (.bool c) s) : wpAny (model prog w) x.A (compareOp op va vb) Q E s := by
  unfold cmpop at h
  split at h
  · obtain ⟨t, rfl⟩ := ha; obtain ⟨u, rfl⟩ := hb; cases h; exact PyProof.Rows.lt_int q
  · obtain ⟨t, rfl⟩ := ha; obtain ⟨u, rfl⟩ := hb; cases h; exact PyProof.Rows.le_int q
  · obtain ⟨t, rfl⟩ := ha; obtain ⟨u, rfl⟩ := hb; cases h; exact PyProof.Rows.gt_int q
  · obtain ⟨t, rfl⟩ := ha; obtain ⟨u, rfl⟩ := hb; cases h; exact PyProof.Rows.ge_int q
  · obtain ⟨t, rfl⟩ := ha; obtain ⟨u, rfl⟩ := hb; cases h; exact PyProof.Rows.eq_int q
  · obtain ⟨t, rfl⟩ := ha; obtain ⟨u, rfl⟩ := hb; cases h; exact PyProof.Rows.ne_int q
  · obtain ⟨t, rfl⟩ := ha; obtain ⟨u, rfl⟩ := hb; cases h; exact PyProof.Rows.eq_str q
  · obtain ⟨t, rfl⟩ := ha; obtain ⟨u, rfl⟩ := hb; cases h; exact PyProof.Rows.ne_str q
  · rename_i y z
    obtain ⟨t, rfl⟩ := ha; obtain ⟨u, rfl⟩ := hb; cases h
    exact W.eq_bytes (by rw [show (y.toList == z.toList) = (y == z) from by by_cases e : y = z <;> simp [e]]; exact q)
  · rename_i y z
    obtain ⟨t, rfl⟩ := ha; obtain ⟨u, rfl⟩ := hb; cases h
    exact W.ne_bytes (by rw [show (y.toList != z.toList) = (y != z) from by by_cases e : y = z <;> simp [e, bne]]; exact q)
  · exact (is_ok ha hb h).1 q
  · obtain ⟨d, h1, h2⟩ := Option.map_eq_some_iff.mp h; subst h2; exact (is_ok ha hb h1).2 q
  · split at h
    · rename_i h1 h2
      obtain ⟨ns, e1, h⟩ := Option.bind_eq_some_iff.mp h
      obtain ⟨ms, e2, h⟩ := Option.map_eq_some_iff.mp h
      obtain ⟨a', vs, n, rfl, _, _, la, ia⟩ := list_at S h1 ha
      obtain ⟨b', ws, n', rfl, _, _, lb, ib⟩ := list_at S h2 hb
      subst h
      exact ke_eq_ints ia ib (la.ints e1) (lb.ints e2) hu q
    · cases h
  · split at h
    · rename_i h1 h2
      obtain ⟨ns, e1, h⟩ := Option.bind_eq_some_iff.mp h
      obtain ⟨ms, e2, h⟩ := Option.map_eq_some_iff.mp h
      obtain ⟨a', vs, n, rfl, _, _, la, ia⟩ := list_at S h1 ha
      obtain ⟨b', ws, n', rfl, _, _, lb, ib⟩ := list_at S h2 hb
      subst h
      exact ke_ne_ints ia ib (la.ints e1) (lb.ints e2) hu q
    · cases h
  · cases h

theorem IntsAre.len {vs : List Value} {ns : List Int} (h : IntsAre vs ns) : vs.length = ns.length := by
  induction h with
  | nil => rfl
  | cons _ _ _ ih => simp [ih]

theorem IntsAre.emp {vs : List Value} {ns : List Int} (h : IntsAre vs ns) : vs.toArray.isEmpty = ns.isEmpty := by
  cases h <;> rfl
theorem LR.emp {sA : Addr} {ps : List PV} {vs : List Value} (h : LR sA ρ news ps vs) : vs.toArray.isEmpty = ps.isEmpty := by
  cases ps with
  | nil => cases h; rfl
  | cons p r => obtain ⟨v, r', e, _, _⟩ := h; subst e; rfl
theorem foot_nodup {fp : List Addr} : ∀ {ρ : Foot}, ρ.flatten.Nodup → fp ∈ ρ → fp.Nodup
  | a :: r, nd, h => by
    rw [List.flatten_cons, List.nodup_append] at nd
    rcases List.mem_cons.mp h with rfl | h
    · exact nd.1
    · exact foot_nodup nd.2.1 h

theorem truth_ok (P : x.Pre p loose mean mg mb) (S : St x ρ news σ m loc vars s₀ s) {a : PV} {va : Value} {c : Bool} (ha : VR x.sA ρ news a va) (h : truthO x.W σ a = some c) {E : Value → Shared → Prop} {Q : Bool → Shared → Prop}
    (q : ∀ tk, Q c { s with toks := tk }) : wpAny (model prog w) x.A (truthy va) Q E s := by
  cases a <;> simp only [truthO] at h <;> try cases h
  · cases ha; exact wpAny_pure (q s.toks)
  · cases ha; exact wpAny_truthy_bool (q s.toks)
  · obtain ⟨t, rfl⟩ := ha; exact truthy_int (q s.toks)
  · obtain ⟨t, rfl⟩ := ha
    split at h <;> cases h
    rename_i hz
    exact PySem.P.truthy_str (by omega) (q _)
  · cases ha
    obtain ⟨vs, h1, h2⟩ := scr_at P S
    have hl := IntsAre.len h2
    split at h <;> cases h
    rename_i hz
    have hz := of_decide_eq_true hz
    rw [sizeLine_eq] at hz
    refine wpAny_truthy_list h1 (by rw [List.size_toArray, hl]; omega) ?_
    rw [IntsAre.emp h2]; exact q _
  · split at h
    · rename_i h1
      split at h <;> cases h
      rename_i hz
      have hz := of_decide_eq_true hz
      rw [sizeLine_eq] at hz
      obtain ⟨a', vs, n, rfl, _, _, la, ia⟩ := list_at S h1 ha
      refine wpAny_truthy_list ia (by rw [List.size_toArray, ← la.length]; omega) ?_
      rw [la.emp]; exact q _
    · cases h

/-! attributes -/
theorem findF {sA : Addr} : ∀ {fs : List (Str × PV)} {es : List DictEntry} (name : Str), FR sA ρ news fs es →
    (∀ v, lookF name fs = some v → ∃ u, getL name es = some (some u) ∧ VR sA ρ news v u) ∧ (lookF name fs = none → getL name es = some none)
  | [], _, name, h => by cases h; exact ⟨fun v e => by simp [lookF] at e, fun _ => rfl⟩
  | f :: r, _, name, ⟨h, t, v, es', e, h1, h2⟩ => by
    subst e
    have ih := findF (fs := r) name h2
    by_cases hn : f.1 = name
    · refine ⟨fun u q => ?_, fun q => ?_⟩
      · simp only [lookF, List.find?_cons, hn, beq_self_eq_true, Option.map_some] at q
        cases q
        exact ⟨v, by simp [getL, List.find?_cons, Value.isStr, hn], h1⟩
      · simp [lookF, List.find?_cons, hn] at q
    · have hb : (f.1 == name) = false := by simpa using hn
      have e1 : lookF name (f :: r) = lookF name r := by simp [lookF, List.find?_cons, hb]
      rw [e1]
      refine ⟨fun u q => ?_, fun q => ?_⟩
      · obtain ⟨u', h3, h4⟩ := ih.1 u q
        refine ⟨u', ?_, h4⟩
        rw [← h3]
        simp only [getL, List.find?_cons, Value.isStr, hb, List.any_cons]
        cases hq : es'.find? (·.key.isStr name) with
        | some e => rfl
        | none =>
          have : getL name es' = some (some u') := h3
          simp only [getL, hq] at this
          split at this <;> cases this
      · have h3 := ih.2 q
        rw [← h3]
        simp only [getL, List.find?_cons, Value.isStr, hb, List.any_cons]
        rfl

theorem putF_ok {sA : Addr} {name : Str} {hsh : Int} {tk : Tok} {pv : PV} {v : Value} : ∀ {fs : List (Str × PV)} {es : List DictEntry}, FR sA ρ news fs es → VR sA ρ news pv v →
    FR sA ρ news (putF name pv fs) (putL name hsh (.str name tk) v es)
  | [], _, h, hv => by cases h; exact ⟨hsh, tk, v, [], rfl, hv, rfl⟩
  | f :: r, _, ⟨h, t, u, es', e, h1, h2⟩, hv => by
    subst e
    by_cases hn : f.1 = name
    · simp only [putF, putL, Value.isStr, hn, beq_self_eq_true, if_true]
      exact ⟨h, t, v, es', rfl, hv, h2⟩
    · have hb : (f.1 == name) = false := by simpa using hn
      simp only [putF, putL, Value.isStr, hb]
      exact ⟨h, t, u, _, rfl, h1, putF_ok h2 hv⟩
theorem putF_length (name : Str) (v : PV) : ∀ fs : List (Str × PV), (putF name v fs).length ≤ fs.length + 1
  | [] => by simp [putF]
  | e :: r => by
    unfold putF
    split
    · simp
    · have := putF_length name v r; simp; omega

theorem handed_VR {sA : Addr} {q : PV} {v : Value} (h : VR sA ρ news q v) (hn : notBlt q = true) : handedIn v = true := by
  cases q <;> simp only [VR] at h <;> first | (cases hn; done) | (subst h; rfl) | (obtain ⟨_, rfl⟩ := h; rfl) | (obtain ⟨_, _, rfl, _⟩ := h; rfl) | (obtain ⟨_, _, _, _, rfl, _⟩ := h; rfl)

theorem getA_ok (P : x.Pre p loose mean mg mb) (S : St x ρ news σ m loc vars s₀ s) {a : PV} {va : Value} {name : Str} {r : PV} (ha : VR x.sA ρ news a va) (h : getA x.W σ a name = some r) {b : Bool} {E : Value → Shared → Prop} {Q : Value → Shared → Prop}
    (q : ∀ v tk, VR x.sA ρ news r v → Q v { s with toks := tk }) : wpAny (model prog w) x.A (getAttr va name b) Q E s := by
  unfold getA at h
  split at h
  · split at h
    · rename_i h1
      split at h
      · rename_i hc
        simp only [Bool.and_eq_true] at hc
        obtain ⟨a', dx, es, n, rfl, _, _, _, hf, I⟩ := inst_at S h1 ha
        obtain ⟨attr, ha', hno⟩ := any_some hc.2
        obtain ⟨h3, h4⟩ := Option.filter_eq_some_iff.mp h
        obtain ⟨u, h5, h6⟩ := (findF name hf).1 _ h3
        exact get_own S.F P.X I hc.1.1 hc.1.2 ha' hno h5 (handed_VR h6 h4) (q _ _ h6)
      · cases h
    · cases h
  · cases h

theorem setA_ok (P : x.Pre p loose mean mg mb) (S : St x ρ news σ m loc vars s₀ s) {a v : PV} {va vv : Value} {name : Str} {σ' : PH} (ha : VR x.sA ρ news a va) (hv : VR x.sA ρ news v vv) (h : setA x.W σ a name v = some σ') {E : Value → Shared → Prop} {Q : Unit → Shared → Prop}
    (q : ∀ ρ' news' h' tk, St x ρ' news' σ' m loc vars s₀ { s with heap := h', toks := tk } → Ext [] ρ news ρ' news' → Q () { s with heap := h', toks := tk }) : wpAny (model prog w) x.A (setAttr va name vv) Q E s := by
  unfold setA at h
  split at h
  · split at h
    · rename_i h1
      split at h
      · rename_i C fs hc
        cases h
        simp only [Bool.and_eq_true, setOk, beq_iff_eq, decide_eq_true_eq] at hc
        obtain ⟨a', dx, es, n, rfl, hr, ma, md, hf, I⟩ := inst_at S h1 ha
        have hg : (getL name es).isSome = true := by
          cases e : lookF name fs with
          | some u => obtain ⟨w', h5, _⟩ := (findF name hf).1 u e; rw [h5]; rfl
          | none => rw [(findF name hf).2 e]; rfl
        have hput : FR x.sA ρ news (putF name v fs) (putL name (PyData.keyHash w.params name) (.str name (s.toks + 1)) vv es) := putF_ok hf hv
        refine set_dict S.F P.X S.N I rfl hc.1.1.1.1 hc.1.1.1.2 hc.1.1.2 hc.1.2 hg rfl (upd_of S.nd md) (by
          have := putF_length name v fs
          rw [← hput.length]; omega) fun h' F' N' => ?_
        have nr : dx ∈ [a', dx] := by simp
        have hne : a' ≠ dx := by
          have nd := S.R.nd
          have := List.mem_of_getElem? hr
          have h2 : ([a', dx] : List Addr).Nodup := foot_nodup nd this
          simp at h2; exact h2
        have e : Ext [] ρ news ρ (updL dx (dictOf (putL name (PyData.keyHash w.params name) (.str name (s.toks + 1)) vv es) (putN name es n)) news) := .upd (mem_foot hr nr)
        refine q ρ _ h' _ (S.next F' N' (by rw [updL_addr]; exact S.nd) (S.R.upd hr nr ⟨a', dx, _, _, rfl, mem_updL_ne ma hne, mem_updL_self md, hput.mono e⟩) e) e
      · cases h
    · cases h
  · cases h
end
end Mine
end
/-! part MiniG -/
section
open PySem PySem.W PySem.Calls PyProof.Rows
namespace Mine
variable {prog : Program} {w : World} {p : Program} {loose : List Str} {mean : ExcName → Option Value} {mg mb : Str → Option Value}

abbrev DoesG (prog : Program) (w : World) (x : Fx) (ρ : Foot) (news : Led) (m loc : Str → Option Value) (vars : Vars) (s₀ s : Shared) (t : Sem Value) (r : R PV) : Prop :=
  wpG (model prog w) x.A t (QF x (VRel x.sA) ρ news m loc vars s₀ r) (EF x ρ news vars s₀ r) s
def RF (x : Fx) (ρ : Foot) (news : Led) (m loc : Str → Option Value) (vars : Vars) (s₀ : Shared) (r : R PV) (res : Result) (s' : Shared) : Prop := match res with
  | .ok (.ret v) => QF x (VRel x.sA) ρ news m loc vars s₀ r v s'
  | .ok _ => False
  | .error e => EF x ρ news vars s₀ r e s'

def CbOk (prog : Program) (w : World) (p : Program) (loose : List Str) (mean : ExcName → Option Value) (mg mb : Str → Option Value) (W : Wd) (cb : CB) (d : Nat) : Prop :=
  ∀ (x : Fx), x.W = W → x.Pre p loose mean mg mb → Bud x.A d 50 → ∀ ρ news σ m loc vars s₀ s, St x ρ news σ m loc vars s₀ s → ∀ f args vals, LR x.sA ρ news args vals → cb f args σ ≠ .bad →
    codeG (model prog w) x.A (.call (.ref f) ⟨vals, []⟩) (RF x ρ news m loc vars s₀ (cb f args σ)) s
def BcOk (prog : Program) (w : World) (p : Program) (loose : List Str) (mean : ExcName → Option Value) (mg mb : Str → Option Value) (W : Wd) (d : Nat) : Prop :=
  ∀ (x : Fx), x.W = W → x.Pre p loose mean mg mb → Bud x.A d 50 → ∀ ρ news σ m loc vars s₀ s, St x ρ news σ m loc vars s₀ s → ∀ f args fv vals, VR x.sA ρ news f fv → LR x.sA ρ news args vals → bcall W f args σ ≠ .bad →
    DoesG prog w x ρ news m loc vars s₀ s (call fv vals) (bcall W f args σ)

section
variable {x : Fx} {ρ : Foot} {news : Led} {σ : PH} {m loc : Str → Option Value} {vars : Vars} {s₀ s : Shared}

/-- two addresses for one object -/
theorem St.alloc2 (S : St x ρ news σ m loc vars s₀ s) {h' : Heap} {tk : Nat} {a d : Nat} {o od : Obj} {po : PO} (F' : Fr x.h₀ x.fe.locals h' m) (N' : News x.h₀ x.fe.locals h' ([(a, o), (d, od)] ++ news))
    (hd : ∀ p ∈ news, @LT.lt Nat _ p.1 d) (ha : d < a) (hr : ORep x.sA (ρ ++ [[a, d]]) ([(a, o), (d, od)] ++ news) po [a, d]) :
    St x (ρ ++ [[a, d]]) ([(a, o), (d, od)] ++ news) (σ ++ [po]) m loc vars s₀ { s with heap := h', toks := tk } ∧ Ext [] ρ news (ρ ++ [[a, d]]) ([(a, o), (d, od)] ++ news) ∧ (ρ ++ [[a, d]])[σ.length]? = some [a, d] := by
  have hn : ∀ p ∈ news, p.1 ∉ [a, d] := fun p hp q => by
    have := hd p hp
    simp only [List.mem_cons, List.not_mem_nil, or_false] at q
    rcases q with q | q
    · exact absurd (q ▸ this : a < d) (Nat.not_lt.mpr (Nat.le_of_lt ha))
    · exact absurd (q ▸ this : d < d) (Nat.lt_irrefl _)
  have hf : ∀ b ∈ [a, d], b ∉ ρ.flatten := fun b hb q => by
    obtain ⟨o, ho⟩ := S.R.led q
    exact hn _ ho hb
  have e : Ext [] ρ news (ρ ++ [[a, d]]) ([(a, o), (d, od)] ++ news) := .alloc hn
  have nd : (([(a, o), (d, od)] ++ news).map (·.1)).Nodup := by
    have h1 : ∀ b ∈ [a, d], b ∉ news.map (·.1) := fun b hb q => by
      obtain ⟨p, hp, e⟩ := List.mem_map.mp q
      exact hn p hp (e ▸ hb)
    rw [List.cons_append, List.cons_append, List.nil_append, List.map_cons, List.map_cons, List.nodup_cons, List.nodup_cons]
    refine ⟨fun q => ?_, h1 d (by simp), S.nd⟩
    rcases List.mem_cons.mp q with q | q
    · exact absurd q (Nat.ne_of_gt ha)
    · exact h1 a (by simp) q
  refine ⟨S.next F' N' nd (S.R.alloc hf hn (by simp; exact Nat.ne_of_gt ha) hr) e, e, ?_⟩
  rw [← S.R.len, List.getElem?_append_right (Nat.le_refl _), Nat.sub_self]; rfl

theorem clsMeth_ok (P : x.Pre p loose mean mg mb) (S : St x ρ news σ m loc vars s₀ s) {C : Addr} {name : Str} {fx : PV × List PV} (h : clsMeth x.W.K C name = some fx) {pl : Sem Bool} {E : Value → Shared → Prop} {Q : Value × List Value → Shared → Prop}
    (q : ∀ ρ' news' h' tk f vs, St x ρ' news' σ m loc vars s₀ { s with heap := h', toks := tk } → Ext [] ρ news ρ' news' → VR x.sA ρ' news' fx.1 f → LR x.sA ρ' news' fx.2 vs → Q (f, vs) { s with heap := h', toks := tk }) :
    wpAny (model prog w) x.A (getMethod (.ref C) name pl) Q E s := by
  unfold clsMeth at h
  split at h
  · rename_i h1
    have h1 := beq_iff_eq.mp h1
    split at h
    · rename_i mc hm
      split at h
      · rename_i hr
        split at h
        · rename_i g p C' hf
          split at h
          · rename_i hC; subst hC
            split at h
            · rename_i hg; subst hg
              split at h
              · rename_i f rest hrec
                split at h
                · rename_i hk; cases h
                  refine method_of_cls S.F P.X h1 (cls_sm S.F P.X hm hr hf hrec rfl ?_)
                  exact q ρ news s.heap _ _ _ S.tok .refl rfl rfl
                · cases h
              · cases h
            · split at h
              · rename_i hg; subst hg
                split at h
                · rename_i f rest hrec
                  split at h
                  · rename_i hk; cases h
                    refine method_of_cls S.F P.X h1 (cls_cm S.F P.X S.N hm hr hf hrec fun b h' F' N' hlt => ?_)
                    have hb : b ∉ ρ.flatten := fun q => by
                      obtain ⟨o, ho⟩ := S.R.led q
                      exact absurd (hlt _ ho) (Nat.lt_irrefl _)
                    have nd : (([(b, methodObj (.ref f) (.ref C'))] ++ news).map (·.1)).Nodup := by
                      rw [List.cons_append, List.map_cons, List.nodup_cons]
                      refine ⟨fun q => ?_, S.nd⟩
                      obtain ⟨p, hp, e⟩ := List.mem_map.mp q
                      exact absurd (hlt p hp) (by rw [show p.1 = b from e]; exact Nat.lt_irrefl _)
                    exact q ρ ([(b, methodObj (.ref f) (.ref C'))] ++ news) h' _ _ _ (S.next F' N' nd S.R.junk .junk) .junk ⟨b, _, rfl, by simp, hb, rfl⟩ rfl
                  · cases h
                · cases h
              · cases h
          · cases h
        · cases h
      · cases h
    · cases h
  · cases h

theorem isNewC_eq {c : Option CFound} (h : isNewC c = true) : c = some (.val (.builtin "object.__new__")) := by
  unfold isNewC at h
  split at h
  · rename_i b
    rw [eq_of_beq h]
  · cases h
theorem newIn_eq {K : Frag} (h : newIn K = true) : findCls K (.type "object") (.type "type") "__new__" = some (.val (.builtin "object.__new__")) := isNewC_eq h

theorem getM_ok (P : x.Pre p loose mean mg mb) (S : St x ρ news σ m loc vars s₀ s) {a : PV} {va : Value} {name : Str} {fx : PV × List PV} (ha : VR x.sA ρ news a va) (h : getM x.W σ a name = some fx) {pl : Sem Bool} {E : Value → Shared → Prop} {Q : Value × List Value → Shared → Prop}
    (q : ∀ ρ' news' h' tk f vs, St x ρ' news' σ m loc vars s₀ { s with heap := h', toks := tk } → Ext [] ρ news ρ' news' → VR x.sA ρ' news' fx.1 f → LR x.sA ρ' news' fx.2 vs → Q (f, vs) { s with heap := h', toks := tk }) :
    wpAny (model prog w) x.A (getMethod va name pl) Q E s := by
  unfold getM at h
  split at h
  · split at h
    · rename_i h1
      split at h
      · rename_i hc
        simp only [Bool.and_eq_true, Option.isNone_iff_eq_none] at hc
        split at h
        · rename_i f hf
          split at h
          · rename_i hk; cases h
            simp only [Bool.and_eq_true] at hk
            obtain ⟨a', dx, es, n, rfl, hr, ma, md, hfs, I⟩ := inst_at S h1 ha
            exact method_inst S.F P.X I hc.1 hf hk.1 ((findF name hfs).2 hc.2) (q ρ news s.heap s.toks _ _ S .refl rfl ⟨_, [], rfl, ha, rfl⟩)
          · cases h
        · cases h
      · cases h
    · rename_i h1
      split at h
      · rename_i hn; cases h; subst hn
        obtain ⟨a', vs, n, rfl, hr, ma, la, ia⟩ := list_at S h1 ha
        exact getMethod_builtin ⟨_, S.N.get ma, rfl⟩ F.plainAttrs_list F.slot_list_append F.type_list_append (fun b e => by cases e; exact ⟨_, S.N.get ma, rfl⟩) (q ρ news s.heap s.toks _ _ S .refl rfl ⟨_, [], rfl, ha, rfl⟩)
      · cases h
    · cases h
  · split at h
    · rename_i hn; cases h; subst hn
      obtain ⟨t, rfl⟩ := ha
      exact getMethod_builtin (T := "str") rfl F.plainAttrs_str F.slot_str_index F.type_str_index (fun b e => by cases e) (q ρ news s.heap s.toks _ _ S .refl rfl ⟨_, [], rfl, ⟨t, rfl⟩, rfl⟩)
    · cases h
  · split at h
    · rename_i hn; cases h
      have ha : va = .type _ := ha
      rw [hn.1] at ha
      rw [ha, hn.2.1]
      have hf := newIn_eq hn.2.2
      refine method_type (T := "object") (name := "__new__") (v := .builtin "object.__new__") S.F P.X meta_object ?a hf rfl ?b
      case a => decide +kernel
      case b => exact q ρ news s.heap _ _ _ S.tok .refl rfl rfl
    · cases h
  · cases ha; exact clsMeth_ok P S h q
  · cases h

theorem Bud.under {A : Around} {d k : Nat} {C : Addr} {vals : List Value} (h : Bud A d (k + 1)) : Bud (A.under (.builtin "type.__call__" ⟨.ref C :: vals, []⟩)) d k := by
  unfold Bud at h ⊢
  rw [depth_under_make, units_under_make]
  exact ⟨by omega, by omega⟩

theorem guards_maker {A : Around} {C : Addr} {vals : List Value} (h : A.guards = some []) : (A.under (.builtin "type.__call__" ⟨.ref C :: vals, []⟩)).guards = some [] := by
  show pushGuards (Code.guards (.builtin "type.__call__" ⟨.ref C :: vals, []⟩)) A.guards = some []
  rw [show Code.guards (.builtin "type.__call__" ⟨.ref C :: vals, []⟩) = [] from by
    show (if guardIds.contains "type.__call__" = true then _ else _) = _
    rw [if_neg (by decide +kernel)]]
  rw [h]; rfl
theorem Fx.Pre.maker (P : x.Pre p loose mean mg mb) {C : Addr} (vals : List Value) : ({ x with A := x.A.under (.builtin "type.__call__" ⟨.ref C :: vals, []⟩) } : Fx).Pre p loose mean mg mb :=
  ⟨P.B, P.X, P.T, P.hA, P.hf, P.hk, P.hh, guards_maker P.hg, P.own, P.scr⟩

theorem clsMeth_sm {K : Frag} {C f : Addr} {name : Str} (h : clsMeth K C name = some (.top f, [])) : ∃ mc q rest, typeIn K (.ref C) = some mc ∧ readsIn K C mc = true ∧
    findCls K (.ref C) mc name = some (.get (.builtin "staticmethod.__get__") (.ref q) .none (.ref C)) ∧ recIn K q "staticmethod" = some (.ref f :: rest) := by
  unfold clsMeth at h
  split at h
  · split at h
    · rename_i mc hm
      split at h
      · rename_i hr
        split at h
        · rename_i g p C' hf
          split at h
          · rename_i hC; subst hC
            split at h
            · rename_i hg; subst hg
              split at h
              · rename_i f' rest hrec
                split at h
                · cases h; exact ⟨mc, p, rest, hm, hr, hf, hrec⟩
                · cases h
              · cases h
            · split at h
              · split at h
                · split at h
                  · cases h
                  · cases h
                · cases h
              · cases h
          · cases h
        · cases h
      · cases h
    · cases h
  · cases h

theorem newDefIn_parts {K : Frag} {C f : Addr} (h : newDefIn K C = some f) : ∃ oc od cd sl, K.lookup C = some ⟨oc, od, .cls cd, sl⟩ ∧ (sl.toList[4]?).join = some .none ∧ cd.mro.isEmpty = false ∧ cd.mro.contains (.ref C) = true ∧
    specialIn K (.ref C) "__call__" = some (some (.builtin "type.__call__")) ∧ instIn K (.ref C) (.type "type") = some true ∧ clsMeth K C "__new__" = some (.top f, []) := by
  unfold newDefIn at h
  split at h
  · rename_i oc od cd sl hl
    split at h
    · rename_i hc
      simp only [Bool.and_eq_true, Bool.not_eq_true', beq_iff_eq] at hc
      obtain ⟨⟨⟨⟨h1, h2⟩, h3⟩, h4⟩, h5⟩ := hc
      split at h
      · rename_i f' hm
        cases h
        exact ⟨oc, od, cd, sl, hl, h1, h2, h3, h4, h5, hm⟩
      · cases h
    · cases h
  · cases h

theorem QF.none {r : R PV} {v : Value} {s' : Shared} {f : PV → PH → R PV} (h : QF x (VRel x.sA) ρ news m loc vars s₀ r v s') (nb : r.bind f ≠ .bad) (hf : ∀ q σ, f q σ ≠ .bad → q = .none) :
    v = .none ∧ ∃ σ', r = .ok .none σ' := by
  cases r with
  | ok b σ' =>
    have : b = .none := hf b σ' nb
    subst this
    obtain ⟨_, _, _, _, e⟩ := h
    exact ⟨e, σ', rfl⟩
  | _ => exact h.elim

theorem callV_ok {cb : CB} {d : Nat} (hcb : CbOk prog w p loose mean mg mb x.W cb d) (hbc : BcOk prog w p loose mean mg mb x.W d) (P : x.Pre p loose mean mg mb) (bd : Bud x.A d 51) (S : St x ρ news σ m loc vars s₀ s) {f : PV} {args : List PV} {fv : Value} {vals : List Value}
    (hf : VR x.sA ρ news f fv) (ha : LR x.sA ρ news args vals) (nb : callV x.W cb f args σ ≠ .bad) : DoesG prog w x ρ news m loc vars s₀ s (call fv vals) (callV x.W cb f args σ) := by
  have bd0 : Bud x.A d 50 := ⟨by have := bd.1; omega, by have := bd.2; omega⟩
  unfold callV at nb ⊢
  split at nb
  · rename_i a
    cases hf
    split at nb
    · rename_i c dd fd sl hk
      try rw [hk]
      exact .call (hcb x rfl P bd0 _ _ _ _ _ _ _ _ S _ _ _ ha nb)
    · rename_i c dd cd sl hk
      try rw [hk]
      split at nb
      · rename_i hm
        try rw [if_pos hm]
        split at nb
        · rename_i fI hi
          try rw [hi]
          split at nb
          · rename_i hfn
            try rw [if_pos hfn]
            refine .call (G_make_K S.F S.N (P.X.keeps S.F.keep) hm hi (beq_iff_eq.mp hfn) fun y dy h' F' N' hlt hlt2 => ?_)
            obtain ⟨S', E', r'⟩ := S.alloc2 (tk := s.toks) (po := .inst a []) F' N' hlt hlt2 ⟨y, dy, [], 0, rfl, by simp, by simp, rfl⟩
            let x' : Fx := { x with A := x.A.under (.builtin "type.__call__" ⟨.ref a :: vals, []⟩) }
            have P' : x'.Pre p loose mean mg mb := P.maker _
            have S'' : St x' (ρ ++ [[y, dy]]) ([(y, instObj a dy), (dy, dictOf [] 0)] ++ news) (σ ++ [.inst a []]) m loc vars s₀ { s with heap := h' } := ⟨S'.F, S'.N, S'.nd, S'.R, S'.L, S'.V, S'.sh⟩
            have nb1 : cb fI (.obj σ.length :: args) (σ ++ [.inst a []]) ≠ .bad := fun q => nb (by rw [q]; rfl)
            have vobj : VR x.sA (ρ ++ [[y, dy]]) ([(y, instObj a dy), (dy, dictOf [] 0)] ++ news) (.obj σ.length) (.ref y) := ⟨y, [dy], rfl, r'⟩
            refine codeG.mono (hcb x' rfl P' (Bud.under bd) _ _ _ _ _ _ _ _ S'' fI (.obj σ.length :: args) (.ref y :: vals) ⟨_, _, rfl, vobj, ha.mono E' _ _⟩ nb1) fun res s' hq => ?_
            cases res with
            | ok fl =>
              cases fl with
              | ret v =>
                obtain ⟨e1, σ', e2⟩ := hq.none nb (fun q σ h => by cases q <;> first | rfl | exact absurd rfl h)
                refine ⟨e1, ?_⟩
                have hq : QF x' (VRel x'.sA) _ _ m loc vars s₀ _ v s' := hq
                rw [e2] at hq ⊢
                obtain ⟨ρ', news', S3, E3, _⟩ := hq
                have S4 : St x ρ' news' σ' m loc vars s₀ s' := ⟨S3.F, S3.N, S3.nd, S3.R, S3.L, S3.V, S3.sh⟩
                exact QF.of S4 (E'.trans E3) (VR.mono E3 _ _ vobj)
              | _ => exact hq.elim
            | error e =>
              have hq : EF x' _ _ vars s₀ (cb fI (.obj σ.length :: args) (σ ++ [.inst a []])) e s' := hq
              cases hr : cb fI (.obj σ.length :: args) (σ ++ [.inst a []]) with
              | err pe σ' => rw [hr] at hq; exact hq.elim
              | ok _ _ => rw [hr] at hq; exact hq.elim
              | bad => exact absurd hr nb1
          · exact absurd rfl nb
        · exact absurd rfl nb
      · rename_i hm
        try rw [if_neg hm]
        split at nb
        · rename_i fN fI hN hI
          split at nb
          · rename_i hfn
            try rw [hN, hI]
            try dsimp only
            rw [if_pos hfn]
            obtain ⟨oc, od, cd', sl', hl, h4, hne, hself, hcall, htyp, hmeth⟩ := newDefIn_parts hN
            obtain ⟨mc, q, rest, hmc, hr, hfc, hrec⟩ := clsMeth_sm hmeth
            have XK : x.W.K.In s.heap := P.X.keeps S.F.keep
            refine .call (G_makeOwn (fN := fN) (fI := fI) XK hl h4 hne hself hcall htyp (fun hQ => cls_sm S.F P.X hmc hr hfc hrec rfl hQ) hI (beq_iff_eq.mp hfn) ?_)
            let x' : Fx := { x with A := x.A.under (.builtin "type.__call__" ⟨.ref a :: vals, []⟩) }
            have P' : x'.Pre p loose mean mg mb := P.maker _
            have S0 := S.tok (tk := s.toks + 1)
            have S' : St x' ρ news σ m loc vars s₀ { s with toks := s.toks + 1 } := ⟨S0.F, S0.N, S0.nd, S0.R, S0.L, S0.V, S0.sh⟩
            have nb1 : cb fN (.top a :: args) σ ≠ .bad := fun q => nb (by rw [q]; rfl)
            refine .call (codeG.mono (hcb x' rfl P' (Bud.under bd) _ _ _ _ _ _ _ _ S' fN (.top a :: args) (.ref a :: vals) ⟨_, _, rfl, rfl, ha⟩ nb1) fun res s₁ hq => ?_)
            cases hres : cb fN (.top a :: args) σ with
            | bad => exact absurd hres nb1
            | err pe σ' =>
              rw [hres] at hq
              cases res with
              | error e => exact hq.elim
              | ok fl => cases fl <;> exact hq.elim
            | ok o σ₁ =>
              rw [hres] at hq nb
              change initOwn cb fI a args o σ₁ ≠ .bad at nb
              obtain ⟨β, fs, rfl, hβ, hio⟩ := initOwn_ok nb
              rw [hio] at nb
              cases res with
              | error e => exact hq.elim
              | ok fl =>
                cases fl with
                | ret v =>
                  have hq : QF x' (VRel x'.sA) _ _ m loc vars s₀ (.ok (.obj β) σ₁) v s₁ := hq
                  obtain ⟨ρ', news', S3, E3, vr⟩ := hq
                  have S4 : St x ρ' news' σ₁ m loc vars s₀ s₁ := ⟨S3.F, S3.N, S3.nd, S3.R, S3.L, S3.V, S3.sh⟩
                  obtain ⟨y, dx, es, n, rfl, hr', my, _, _, _⟩ := inst_at S4 hβ vr
                  refine ⟨P.X.keeps S4.F.keep, y, _, rfl, S4.N.get my, rfl, ?_⟩
                  have nb2 : cb fI (.obj β :: args) σ₁ ≠ .bad := fun q => nb (by rw [q]; rfl)
                  refine codeG.mono (hcb x' rfl P' (Bud.under bd) _ _ _ _ _ _ _ _ S3 fI (.obj β :: args) (.ref y :: vals) ⟨_, _, rfl, vr, LR.mono E3 _ _ ha⟩ nb2) fun res s' hq => ?_
                  cases res with
                  | ok fl =>
                    cases fl with
                    | ret v =>
                      obtain ⟨e1, σ', e2⟩ := hq.none nb (fun q σ h => by cases q <;> first | rfl | exact absurd rfl h)
                      refine ⟨e1, ?_⟩
                      have hq : QF x' (VRel x'.sA) _ _ m loc vars s₀ _ v s' := hq
                      rw [e2] at hq
                      obtain ⟨ρ2, news2, S5, E5, _⟩ := hq
                      have S6 : St x ρ2 news2 σ' m loc vars s₀ s' := ⟨S5.F, S5.N, S5.nd, S5.R, S5.L, S5.V, S5.sh⟩
                      show QF x (VRel x.sA) ρ news m loc vars s₀ (initOwn cb fI a args (.obj β) σ₁) _ s'
                      rw [hio, e2]
                      exact QF.of S6 (E3.trans E5) (VR.mono E5 _ _ vr)
                    | _ => exact hq.elim
                  | error e =>
                    have hq : EF x' _ _ vars s₀ (cb fI (.obj β :: args) σ₁) e s' := hq
                    cases hr : cb fI (.obj β :: args) σ₁ with
                    | err pe σ' => rw [hr] at hq; exact hq.elim
                    | ok _ _ => rw [hr] at hq; exact hq.elim
                    | bad => exact absurd hr nb2
                | _ => exact hq.elim
          · exact absurd rfl nb
        · exact absurd rfl nb
    · exact absurd rfl nb
  · rename_i f q
    obtain ⟨a, u, rfl, hm, hn, hu⟩ := hf
    exact .call (G_method_call (S.N.get hm) (hcb x rfl P bd0 _ _ _ _ _ _ _ _ S _ _ _ ⟨u, vals, rfl, hu, ha⟩ nb))
  · exact hbc x rfl P bd0 _ _ _ _ _ _ _ _ S _ _ _ _ hf ha nb
  · exact hbc x rfl P bd0 _ _ _ _ _ _ _ _ S _ _ _ _ hf ha nb
  · exact absurd rfl nb
end
end Mine
end
/-! part MiniH -/
section
open PySem PySem.W PySem.Calls PyProof.Rows
namespace Mine
variable {prog : Program} {w : World} {p : Program} {loose : List Str} {mean : ExcName → Option Value} {mg mb : Str → Option Value}

section
variable {x : Fx} {ρ : Foot} {news : Led} {σ : PH} {m loc : Str → Option Value} {vars : Vars} {s₀ s : Shared}

theorem tup_at (S : St x ρ news σ m loc vars s₀ s) {ps : List PV} {v : Value} (hv : VR x.sA ρ news (.tup ps) v) :
    ∃ a vs, v = .ref a ∧ (a, tupObj vs) ∈ news ∧ LR x.sA ρ news ps vs ∧ IsTup s.heap a vs.toArray := by
  obtain ⟨a, vs, e, h1, _, h2⟩ := hv
  exact ⟨a, vs, e, h1, h2, _, S.N.get h1, rfl, 0, rfl⟩

theorem seqIdx {k : Int} {n : Nat} (h0 : 0 ≤ k) (h : k.toNat < n) : seqIndex? k n = some k.toNat := by
  unfold seqIndex?
  have h1 : ¬ k < 0 := by omega
  have h2 : k < n := by omega
  simp [h1, h0, h2]

theorem notSlice {sl : Expr} (h : ∀ lo hi st pos, sl ≠ .Slice lo hi st pos) (o i : Value) : subscripted sl false o i = operate [o, i] (getItem o i) := by
  unfold subscripted
  split
  · rename_i e; exact absurd rfl (h _ _ _ _)
  · rename_i e; cases e
  · rfl

theorem subI_ok (P : x.Pre p loose mean mg mb) (S : St x ρ news σ m loc vars s₀ s) {a r : PV} {va : Value} {k : Int} {t : Tok} (ha : VR x.sA ρ news a va) (h : subI x.W σ a k = some r) {value slice : Expr} (hsl : ∀ lo hi st pos, slice ≠ .Slice lo hi st pos) {E : Value → Shared → Prop} :
    wpAny (model prog w) x.A (subscriptTail value slice va (.int k t)) (QF x (VRel x.sA) ρ news m loc vars s₀ (.ok r σ)) E s := by
  unfold subI at h
  split at h
  · split at h
    · rename_i h1
      split at h
      · rename_i hk
        obtain ⟨a', vs, n, rfl, _, _, la, ia⟩ := list_at S h1 ha
        obtain ⟨v, h2, h3⟩ := la.get h
        exact tail_any ia.typeIs slot_list_getitem.lookup (wpAny_getItem_list ia hk.1 hk.2 (by simpa using h2) (.pure S h3)) (notSlice hsl _ _)
      · cases h
    · cases h
  · split at h
    · rename_i hk
      cases ha
      obtain ⟨vs, h1, h2⟩ := scr_at P S
      obtain ⟨i, h3, h4⟩ := Option.map_eq_some_iff.mp h
      subst h4
      have : ∃ tk, vs[k.toNat]? = some (.int i tk) := by
        clear h1
        generalize k.toNat = j at h3
        generalize x.W.ns = ns at h2 h3
        induction h2 generalizing j with
        | nil => simp at h3
        | cons n tk _ ih =>
          cases j with
          | zero => simp at h3; subst h3; exact ⟨tk, rfl⟩
          | succ j => simp at h3 ⊢; exact ih j h3
      obtain ⟨tk, h5⟩ := this
      exact tail_any h1.typeIs slot_list_getitem.lookup (wpAny_getItem_list h1 hk.1 hk.2 (by simpa using h5) (.pure S ⟨tk, rfl⟩)) (notSlice hsl _ _)
    · cases h
  · split at h
    · rename_i hk
      obtain ⟨a', vs, rfl, _, la, ia⟩ := tup_at S ha
      obtain ⟨v, h2, h3⟩ := la.get h
      have hlt : k.toNat < vs.length := (List.getElem?_eq_some_iff.mp h2).1
      exact item_tupleT ia (by omega) hk.2 (seqIdx hk.1 hlt) h2 (.pure S h3) (notSlice hsl _ _)
    · cases h
  · split at h
    · rename_i hk
      obtain ⟨u, rfl⟩ := ha
      obtain ⟨c, h3, h4⟩ := Option.map_eq_some_iff.mp h
      subst h4
      have hlt : k.toNat < PySem.Str.length ‹PySem.Str› := (Array.getElem?_eq_some_iff.mp h3).1
      exact tail_any (typeIs_str _ _ _) slot_str_getitem.lookup (PyProof.Rows.getItem_str (by
        have h1 : ¬ k < -(2 ^ 63 : Int) := by omega
        have h2 : ¬ k ≥ 2 ^ 63 := by omega
        simp only [h1, h2, decide_false, Bool.or_false]) (by rw [seqIdx hk.1 hlt]; exact h3) (.pure S.tok ⟨_, rfl⟩)) (notSlice hsl _ _)
    · cases h
  · split at h
    · rename_i b hk
      obtain ⟨u, rfl⟩ := ha
      obtain ⟨c, h3, h4⟩ := Option.map_eq_some_iff.mp h
      subst h4
      have hlt : k.toNat < b.size := (Array.getElem?_eq_some_iff.mp h3).1
      have hz := of_decide_eq_true hk.2.2
      rw [sizeLine_eq] at hz
      have hc : b.toList.getD k.toNat 0 = c := by
        rw [List.getD_eq_getElem?_getD, Array.getElem?_toList, h3]; rfl
      have := W.getItem_bytes (prog := prog) (w := w) (A := x.A) (E := E) (s := s) (l := b.toList) (i := k) (t := u) (u := t) (Q := QF x (VRel x.sA) ρ news m loc vars s₀ (.ok (.int c.toNat) σ)) (by simp; omega) hk.1 (by simp; omega) (by rw [hc]; exact .pure S.tok ⟨_, rfl⟩)
      exact tail_any (typeIs_bytes _ _ _) FB.slot_bytes_getitem.lookup (by simpa using this) (notSlice hsl _ _)
    · cases h
  · cases h

theorem IsPart.of {sA : Addr} {a : PV} {va : Value} {lo : Option Int} (h : VR sA ρ news a va) (e : partO a = some lo) : IsPart va lo := by
  cases a <;> simp only [partO] at e <;> cases e
  · cases h; exact .none
  · obtain ⟨t, rfl⟩ := h; exact .int _ _

theorem pick_lr {sA : Addr} {ps : List PV} {vs : List Value} (h : LR sA ρ news ps vs) (lo hi st : Option Int) : LR sA ρ news (pick ps lo hi st) (slicePick vs.toArray lo hi st).toList := by
  unfold pick slicePick
  rw [List.size_toArray, ← h.length]
  generalize sliceRange _ _ _ = l
  rw [List.toList_toArray]
  induction l with
  | nil => exact rfl
  | cons i r ih =>
    rw [List.filterMap_cons, List.filterMap_cons]
    cases e : ps[i]? with
    | some q =>
      obtain ⟨v, h1, h2⟩ := h.get e
      rw [List.getElem?_toArray, h1]
      exact ⟨v, _, rfl, h2, ih⟩
    | none =>
      have : vs[i]? = none := by
        rw [List.getElem?_eq_none_iff] at e ⊢
        rw [← h.length]; exact e
      rw [List.getElem?_toArray, this]
      exact ih
theorem ints_lr {sA : Addr} : ∀ {ns : List Int} {vs : List Value}, IntsAre vs ns → LR sA ρ news (ns.map .int) vs
  | _, _, .nil => rfl
  | _, _, .cons n t h => ⟨_, _, rfl, ⟨t, rfl⟩, ints_lr h⟩
theorem pick_map {α β : Type} (f : α → β) (xs : List α) (lo hi st : Option Int) : pick (xs.map f) lo hi st = (pick xs lo hi st).map f := by
  unfold pick
  rw [List.length_map, List.map_filterMap]
  simp only [List.getElem?_map]

end
end Mine
end
/-! part MiniI -/
section
open PySem PySem.W PySem.Calls PyProof.Rows
open Sem (wp)
namespace Mine

/-! loops, in the logic; nothing is raised through them -/
abbrev NoE : Value → Shared → Prop := fun _ _ => False

section
variable {α : Type} {M : Model} {A : Around} {E : Value → Shared → Prop} {s : Shared} {env : Env}
theorem wpG.never {m : Sem α} {k : Value → Sem Unit} {Q : α → Shared → Prop} (h : wpG M A m Q NoE s) : wpG M A (m.onRaise k) Q E s :=
  .onRaise (h.mono (fun _ _ q => q) fun _ _ q => q.elim)
theorem wpG.noE {m : Sem α} {Q : α → Shared → Prop} (h : wpG M A m Q NoE s) : wpG M A m Q E s := h.mono (fun _ _ q => q) fun _ _ q => q.elim
theorem wpG.standIf {c : Prop} [Decidable c] {pos : Pos} {k : Unit → Sem α} {Q : α → Shared → Prop} (h : wpG M A (k ()) Q E s) :
    wpG M A (if c then (PySem.standAt pos >>= k) else k ()) Q E s := by
  split
  · exact .bind (.standAt h)
  · exact h

def RNo (Q : Flow → Shared → Prop) (r : Result) (s' : Shared) : Prop := match r with
  | .ok f => Q f s'
  | .error _ => False

theorem G_runOwn {c : Code} {Q : Flow → Shared → Prop} (hc : codeG M A c (RNo Q) s) : wpG M A (runOwn c env) Q E s := by
  unfold runOwn
  refine .never (.run (codeG.mono hc fun r s' h => ?_))
  cases r with
  | ok f => exact h
  | error e => exact h.elim

theorem G_For {target iter body pos} {Q : Flow → Shared → Prop} (hs : ∀ x, foldedSetIterable iter env x = pure x)
    (h : wpG M A (eval iter env) (fun x s₁ => wpG M A (pyIter x) (fun it s₂ => codeG M A (.forLoop target it body [] env) (RNo Q) s₂) E s₁) E s) : wpG M A (exec (.For target iter body [] pos) env) Q E s := by
  rw [exec_For]
  refine .bind (.standAt (.bind (h.monoQ fun x s₁ h₁ => ?_)))
  rw [hs x]
  exact .bind (.pure (.bind (.standAt (.bind (.holding (h₁.monoQ fun it s₂ h₂ => G_runOwn h₂))))))
theorem G_While {test body pos} {Q : Flow → Shared → Prop} (h : codeG M A (.whileLoop test body [] env) (RNo Q) s) : wpG M A (exec (.While test body [] pos) env) Q E s := by
  rw [exec_While]
  exact .bind (.standAt (G_runOwn h))
end

section
variable {prog : Program} {w : World} {A : Around} {R : Result → Shared → Prop} {s : Shared} {env : Env}

theorem G_block {R : Result → Shared → Prop} (h : R (.ok .next) s) : codeG (model prog w) A (.block [] env) R s := by
  refine codeG.tree rfl ?_
  show wpG _ _ (do return Fin.done (← (execs [] env).onRaise (fun x => do noteFrame x env; theTreesLotGoes x))) _ _ s
  exact .bind (.never (G_execs_nil (.pure h)))

theorem G_forLoop {target it body} (I : Nat → Shared → Prop)
    (turn : ∀ n s, I n s → wpG (model prog w) A (pyNext it) (fun r s₁ => match r with
      | none => R (.ok .next) s₁
      | some v => wpG (model prog w) A (letOwnedTupleGo target it v) (fun _ s₁' => wpG (model prog w) A (assign target env v) (fun _ s₂ => wpG (model prog w) A (execs body env) (fun f s₃ => match f with
            | .next | .cont => ∃ m, m < n ∧ I m s₃
            | .brk => R (.ok .next) s₃
            | .ret v => R (.ok (.ret v)) s₃) NoE s₂) NoE s₁') NoE s₁) NoE s)
    (n : Nat) (h : I n s) : codeG (model prog w) A (.forLoop target it body [] env) R s := by
  refine codeG.loop (c₂ := .block [] env) rfl rfl rfl rfl I (fun n s hI => ?_) n s h
  show wpG _ A ((forTurn target it body [] env).onRaise (fun x => do noteFrame x env; theTreesLotGoes x)) _ _ s
  refine .never ?_
  simp only [forTurn]
  refine .bind (.standAt (.bind (.never ((turn n s hI).monoQ fun r s₁ h₁ => ?_))))
  cases r with
  | none => exact .pure (.inr ⟨rfl, G_block h₁⟩)
  | some v =>
    refine .bind (h₁.monoQ fun _ s₁' h₁' => .bind (h₁'.monoQ fun _ s₂ h₂ => .bind (h₂.monoQ fun f s₃ h₃ => ?_)))
    cases f with
    | next => exact .pure (.inl ⟨rfl, h₃⟩)
    | cont => exact .pure (.inl ⟨rfl, h₃⟩)
    | brk => exact .pure h₃
    | ret v => exact .pure h₃

theorem G_whileLoop {test body} (I : Nat → Shared → Prop)
    (turn : ∀ n s, I n s → wpG (model prog w) A (isTrue test env (eval test env)) (fun b s₂ =>
        if b then wpG (model prog w) A (execs body env) (fun f s₃ => match f with
            | .next | .cont => ∃ m, m < n ∧ I m s₃
            | .brk => R (.ok .next) s₃
            | .ret v => R (.ok (.ret v)) s₃) NoE s₂
        else R (.ok .next) s₂) NoE s)
    (n : Nat) (h : I n s) : codeG (model prog w) A (.whileLoop test body [] env) R s := by
  refine codeG.loop (c₂ := .block [] env) rfl rfl rfl rfl I (fun n s hI => ?_) n s h
  show wpG _ A ((whileTurn test body [] env).onRaise (fun x => do noteFrame x env; theTreesLotGoes x)) _ _ s
  refine .never ?_
  simp only [whileTurn]
  refine .bind ((turn n s hI).monoQ fun b s₂ h₂ => ?_)
  cases b with
  | false => exact .bind (G_execs_nil (.pure h₂))
  | true =>
    refine .bind (wpG.monoQ h₂ fun f s₃ h₃ => ?_)
    cases f with
    | next => exact .pure (.inl ⟨rfl, h₃⟩)
    | cont => exact .pure (.inl ⟨rfl, h₃⟩)
    | brk => exact .pure h₃
    | ret v => exact .pure h₃

/-! comprehensions -/
theorem G_compStart {elt target iter ifs rest scope pos it acc}
    (h0 : codeG (model prog w) A (.compLoop (.ListComp elt (⟨target, iter, ifs, 0⟩ :: rest) scope pos) 0 it acc env) R s)
    (h : wpG (model prog w) A (pyIter it) (fun it' s' => codeG (model prog w) A (.compLoop (.ListComp elt (⟨target, iter, ifs, 0⟩ :: rest) scope pos) 0 it' acc env) R s') NoE s) :
    codeG (model prog w) A (.compStart (.ListComp elt (⟨target, iter, ifs, 0⟩ :: rest) scope pos) 0 it acc env) R s := by
  refine codeG.tree rfl ?_
  show wpG _ _ ((compStart (.ListComp elt (⟨target, iter, ifs, 0⟩ :: rest) scope pos) 0 it acc env).onRaise (fun x => do noteFrame x env; standAt theWindowsPlace)) _ _ s
  refine .never ?_
  unfold compStart
  show wpG _ _ (ask >>= _) _ _ s
  refine .bind (.of (wpAny_askSetting ?_))
  show wpG _ _ _ _ _ s
  split
  · first
      | exact .bind (.pure (.pure (And.intro rfl h0)))
      | exact .pure (And.intro rfl h0)
  · first
      | exact .bind (.rule (.bind (.standAt (.bind (h.monoQ fun it' s' h' => .pure (And.intro rfl h'))))))
      | (refine .bind (.rule ?_); show wpG _ _ (standAt iter.pos >>= _) _ _ s; exact .bind (.standAt (.bind (h.monoQ fun it' s' h' => .pure (And.intro rfl h')))))

theorem G_compLoop {elt target iter : Expr} {scope : Scope} {pos : Pos} {it acc : Value} (I : Nat → Shared → Prop)
    (turn : ∀ n s, I n s → wpG (model prog w) A (pyNext it) (fun r s₁ => match r with
      | none => R (.ok .next) s₁
      | some v => wpG (model prog w) A (assign target env v) (fun _ s₂ => wpG (model prog w) A (eval elt env) (fun x s₃ =>
          wpG (model prog w) A (call (.builtin "list.append") [acc, x]) (fun _ s₄ => ∃ m, m < n ∧ I m s₄) NoE s₃) NoE s₂) NoE s₁) NoE s)
    (n : Nat) (h : I n s) (ht : ∀ v, letOwnedTupleGo target it v = pure ()) :
    codeG (model prog w) A (.compLoop (.ListComp elt [⟨target, iter, [], 0⟩] scope pos) 0 it acc env) R s := by
  refine codeG.loop (c₂ := .block [] env) rfl rfl rfl rfl I (fun n s hI => ?_) n s h
  show wpG _ _ ((compTurn (.ListComp elt [⟨target, iter, [], 0⟩] scope pos) 0 it acc env).onRaise (fun x => do noteFrame x env; theTreesLotGoes x)) _ _ s
  refine .never ?_
  rw [compTurn_list1]
  refine .bind (.standAt (.bind ((turn n s hI).monoQ fun r s₁ h₁ => ?_)))
  cases r with
  | none => exact .pure h₁
  | some v =>
    dsimp only
    rw [ht v]
    exact .bind (.pure (.bind (wpG.monoQ h₁ fun _ s₂ h₂ => .bind (.bind (h₂.monoQ fun x s₃ h₃ => .bind (h₃.monoQ fun _ s₄ h₄ => .pure (.pure (.inl ⟨rfl, h₄⟩))))))))

def CompPost (M : Model) (A : Around) (E : Value → Shared → Prop) (use : Option (Value → Sem Unit)) (Q : Value → Shared → Prop) (acc : Value) (C : Addr) (r : Result) (s' : Shared) : Prop :=
  match r, use with
  | .ok _, none => ∃ m, s'.heap.Ns C m ∧ ∀ h', Heap.SameBut C s'.heap h' → Q acc { s' with heap := h' }
  | .ok _, some u => wpG M A (u acc) (fun _ s'' => ∃ m, s''.heap.Ns C m ∧ ∀ h', Heap.SameBut C s''.heap h' → Q .none { s'' with heap := h' }) E s'
  | .error _, _ => False

theorem G_comprehension {M : Model} {E : Value → Shared → Prop} {e : Expr} {scope : Scope} {pos : Pos} {newAcc first : Sem Value} {g : Comprehension} {gs : List Comprehension} {cl : List (Str × Addr)} {use : Option (Value → Sem Unit)}
    {Q : Value → Shared → Prop}
    (hcl : clausesOf e = g :: gs) (hs : ∀ x, foldedSetIterable g.iter env x = pure x) (hclos : closureFor scope env = pure cl)
    (hkind : scope.kind = .function) (hnames : ∀ x ∈ scope.names, x.2 = .local → scope.names.lookup x.1 = some .local)
    (h : wpG M A first (fun x s₁ => wpG M A (pyIter x) (fun it s₂ => wpG M A newAcc (fun acc s₃ =>
      wpG M A (newFunctionEnv scope env.globals cl [] env.qual none .none (some env)) (fun cenv s₄ =>
        codeG M A (.compStart e 0 it acc { cenv with scope := relabel scope env }) (CompPost M A E use Q acc cenv.locals) s₄) E s₃) E s₂) E s₁) E s) :
    wpG M A (comprehension e scope env pos newAcc false first use) Q E s := by
  unfold comprehension
  rw [hclos, hcl]
  refine .bind (h.monoQ fun x s₁ h₁ => .bind (.standAt (.bind ?_)))
  rw [hs x]
  refine .pure (.bind (.holding (h₁.monoQ fun it s₂ h₂ => .standIf (.bind (h₂.monoQ fun acc s₃ h₃ => .bind (.pure (.bind (h₃.monoQ fun cenv s₄ h₄ => ?_))))))))
  dsimp only
  have hv : ∀ x ∈ (scope.names.filter fun x => (x.2 == .local || x.2 == .cell) && x.1 != (".0" : Str)).reverse, x.2 = .local →
      Env.kindOf { cenv with scope := relabel scope env } x.1 = some .local := fun x hx hl => lookup_relabel_local (hnames x (List.mem_filter.mp (List.mem_reverse.mp hx)).1 hl)
  have hv' : ∀ x ∈ (scope.names.filter fun x => (x.2 == .local || x.2 == .cell) && x.1 != (".0" : Str)).reverse.drop 1 ++ (scope.names.filter fun x => (x.2 == .local || x.2 == .cell) && x.1 != (".0" : Str)).reverse.take 1,
      x.2 = .local → Env.kindOf { cenv with scope := relabel scope env } x.1 = some .local := fun x hx hl => by
    rcases List.mem_append.mp hx with h1 | h1
    · exact hv x (List.mem_of_mem_drop h1) hl
    · exact hv x (List.mem_of_mem_take h1) hl
  refine .holding (.bind (.attempt (.holding (.run (codeG.mono h₄ fun r s' hr => ?_)))))
  cases r with
  | ok f =>
    cases use with
    | none =>
      obtain ⟨m, hn, hr⟩ := hr
      exact .bind (.holding (.of (wpAny_comp_letGo (cenv := { cenv with scope := relabel scope env }) hkind _ s' m hv hn fun h' m' _ hs' => wpG.pure (hr h' hs'))))
    | some u =>
      refine .bind (.rule (.bind (.holding (wpG.monoQ hr fun _ s'' hr' => ?_))))
      obtain ⟨m, hn, hr'⟩ := hr'
      exact .bind (.of (wpAny_comp_letGo (cenv := { cenv with scope := relabel scope env }) hkind _ s'' m hv' hn fun h' m' _ hs' => wpG.pure (hr' h' hs')))
  | error x => exact hr.elim
end
end Mine
end
/-! part MiniJ -/
section
open PySem PySem.W PySem.Calls PyProof.Rows
namespace Mine
variable {prog : Program} {w : World} {p : Program} {loose : List Str} {mean : ExcName → Option Value} {mg mb : Str → Option Value}

/-! entries of the ledger that turn, and are no values -/
def dropL (d : Addr) (news : Led) : Led := news.filter fun p => !decide (p.1 = d)
theorem mem_dropL {d : Addr} {news : Led} {p : Addr × Obj} : p ∈ dropL d news ↔ p ∈ news ∧ p.1 ≠ d := by
  unfold dropL; rw [List.mem_filter]; simp
theorem led_inj {news : Led} {a : Addr} {o o' : Obj} (nd : (news.map (·.1)).Nodup) (h : (a, o) ∈ news) (k : (a, o') ∈ news) : o = o' := by
  induction news with
  | nil => cases h
  | cons q r ih =>
    rw [List.map_cons, List.nodup_cons] at nd
    rcases List.mem_cons.mp h with h1 | h1
    · rcases List.mem_cons.mp k with k1 | k1
      · exact (Prod.mk.inj (h1.trans k1.symm)).2
      · exact absurd (List.mem_map_of_mem (f := (·.1)) k1) (by rw [← h1] at nd; exact nd.1)
    · rcases List.mem_cons.mp k with k1 | k1
      · exact absurd (List.mem_map_of_mem (f := (·.1)) h1) (by rw [← k1] at nd; exact nd.1)
      · exact ih nd.2 h1 k1

section
variable {x : Fx} {ρ : Foot} {news : Led} {σ : PH} {m loc : Str → Option Value} {vars : Vars} {s₀ s : Shared}

theorem turn_ne {d : Addr} {o : Obj} (nd : (news.map (·.1)).Nodup) (hm : (d, o) ∈ news) (hv : isVal o = false) {q : Addr × Obj} (h1 : q ∈ news) (h3 : q.1 ∉ [d] ∨ isVal q.2 = true) : q.1 ≠ d := fun e => by
  rcases h3 with h3 | h3
  · exact h3 (by simp [e])
  · obtain ⟨a, b⟩ := q
    have e : a = d := e
    subst e
    have h3 : isVal b = true := h3
    rw [led_inj nd h1 hm, hv] at h3; cases h3
theorem Ext.turn {d : Addr} {o o' : Obj} (nd : (news.map (·.1)).Nodup) (hm : (d, o) ∈ news) (hv : isVal o = false) : Ext [d] ρ news ρ (updL d o' news) :=
  ⟨⟨[], by simp⟩, fun q h1 h2 h3 => ⟨mem_updL_ne h1 (turn_ne nd hm hv h1 h3), h2⟩⟩
theorem Ext.drop {d : Addr} {o : Obj} (nd : (news.map (·.1)).Nodup) (hm : (d, o) ∈ news) (hv : isVal o = false) : Ext [d] ρ news ρ (dropL d news) :=
  ⟨⟨[], by simp⟩, fun q h1 h2 h3 => ⟨mem_dropL.mpr ⟨h1, turn_ne nd hm hv h1 h3⟩, h2⟩⟩
/-- what came later may turn -/
theorem Ext.strip {cs : List Addr} {ρ' : Foot} {news' : Led} (e : Ext cs ρ news ρ' news') (h : ∀ p ∈ news, p.1 ∉ ρ.flatten → p.1 ∉ cs) : Ext [] ρ news ρ' news' :=
  ⟨e.pre, fun p h1 h2 _ => e.keep p h1 h2 (.inl (h p h1 h2))⟩

theorem NR.ext' {sA : Addr} {ce : Env} {ρ' : Foot} {news' : Led} {cs : List Addr} (V : NR sA ρ news ce loc vars) (x : Ext cs ρ news ρ' news') (h : ∀ c o w, (c, o) ∈ news → c ∈ cs → o.data ≠ .cell w) : NR sA ρ' news' ce loc vars := by
  have k : ∀ c o w, (c, o) ∈ news → c ∉ ρ.flatten → o.data = .cell w → (c, o) ∈ news' ∧ c ∉ ρ'.flatten := fun c o w h1 h2 h3 =>
    x.keep (c, o) h1 h2 (.inl fun hc => h c o w h1 hc h3)
  refine ⟨fun y p h => ?_, fun y c hk h => ?_, V.i⟩
  · have := V.v y p h
    split at this
    · obtain ⟨v, h1, h2⟩ := this; exact ⟨v, h1, h2.mono x⟩
    · obtain ⟨c, v, o, h1, h2, h3, h4, h5⟩ := this
      exact ⟨c, v, o, h1, (k _ _ _ h2 h3 h4).1, (k _ _ _ h2 h3 h4).2, h4, h5.mono x⟩
    · obtain ⟨c, v, o, h1, h2, h3, h4, h5⟩ := this
      exact ⟨c, v, o, h1, (k _ _ _ h2 h3 h4).1, (k _ _ _ h2 h3 h4).2, h4, h5.mono x⟩
    · trivial
  · obtain ⟨o, w, h1, h2, h3⟩ := V.c y c hk h
    exact ⟨o, w, (k _ _ _ h1 h2 h3).1, (k _ _ _ h1 h2 h3).2, h3⟩

theorem St.nextG (S : St x ρ news σ m loc vars s₀ s) {ρ' : Foot} {news' : Led} {σ' : PH} {h' : Heap} {tk : Nat} {cs : List Addr} (F : Fr x.h₀ x.fe.locals h' m) (N : News x.h₀ x.fe.locals h' news')
    (nd : (news'.map (·.1)).Nodup) (R : Rep x.sA ρ' news' σ') (e : Ext cs ρ news ρ' news') (hc : ∀ c o w, (c, o) ∈ news → c ∈ cs → o.data ≠ .cell w) (hl : x.ce = x.fe ∨ x.ce.locals ∉ cs) : St x ρ' news' σ' m loc vars s₀ { s with heap := h', toks := tk } := by
  refine ⟨F, N, nd, R, ?_, S.V.ext' e hc, ?_⟩
  · rcases S.L with h | ⟨o, h, h2, h3, h4⟩
    · exact .inl h
    · rcases hl with hl | hl
      · exact absurd (congrArg Env.locals hl) h3.2
      · exact .inr ⟨o, (e.keep _ h h2 (.inl hl)).1, (e.keep _ h h2 (.inl hl)).2, h3, h4⟩
  · obtain ⟨h, t, q⟩ := S.sh; subst q; exact ⟨h', tk, rfl⟩

theorem Rep.turn {sA : Addr} (h : Rep sA ρ news σ) {d : Addr} {o o' : Obj} (nd : (news.map (·.1)).Nodup) (hm : (d, o) ∈ news) (hv : isVal o = false) (hd : d ∉ ρ.flatten) : Rep sA ρ (updL d o' news) σ :=
  ⟨h.len, h.nd, fun α o'' fp e f => (h.obj α o'' fp e f).mono (Ext.turn nd hm hv) fun a ha _ hb => mem_updL_ne hb fun (q : a = d) => hd (q ▸ mem_foot f ha)⟩
theorem Rep.drop {sA : Addr} (h : Rep sA ρ news σ) {d : Addr} {o : Obj} (nd : (news.map (·.1)).Nodup) (hm : (d, o) ∈ news) (hv : isVal o = false) (hd : d ∉ ρ.flatten) : Rep sA ρ (dropL d news) σ :=
  ⟨h.len, h.nd, fun α o'' fp e f => (h.obj α o'' fp e f).mono (Ext.drop nd hm hv) fun a ha _ hb => mem_dropL.mpr ⟨hb, fun (q : a = d) => hd (q ▸ mem_foot f ha)⟩⟩

theorem fr_but {h₀ h h' : Heap} {L I : Addr} (F : Fr h₀ L h m) (hs : ∀ b o, b ≠ I → h.get? b = some o → h'.get? b = some o) (hI : h₀.get? I = none) (hL : I ≠ L) : Fr h₀ L h' m :=
  ⟨F.ns.at' fun o e => hs _ o (Ne.symm hL) e, fun b o e => hs b o (fun q => by rw [q, hI] at e; cases e) (F.keep b o e), F.above⟩

/-- an entry that is no value turns -/
theorem St.turn (S : St x ρ news σ m loc vars s₀ s) {h' : Heap} {tk : Nat} {d : Addr} {o o' : Obj} (hm : (d, o) ∈ news) (hv : isVal o = false) (hd : d ∉ ρ.flatten) (hc : ∀ w, o.data ≠ .cell w) (hl : x.ce = x.fe ∨ x.ce.locals ≠ d)
    (hs : ∀ b q, b ≠ d → s.heap.get? b = some q → h'.get? b = some q) (ho : h'.get? d = some o') : St x ρ (updL d o' news) σ m loc vars s₀ { s with heap := h', toks := tk } ∧ Ext [d] ρ news ρ (updL d o' news) := by
  have e : Ext [d] ρ news ρ (updL d o' news) := .turn S.nd hm hv
  have D := S.N _ hm
  refine ⟨S.nextG (fr_but S.F hs D.2.2 D.2.1) (fun q hq => ?_) (by rw [updL_addr]; exact S.nd) (S.R.turn S.nd hm hv hd) e (fun c q w hcq hcs => ?_) (hl.imp id fun h => by simpa using h), e⟩
  · rcases of_mem_updL hq with rfl | ⟨h1, h2⟩
    · exact ⟨ho, D.2⟩
    · exact ⟨hs _ _ h2 (S.N q h1).1, (S.N q h1).2⟩
  · simp at hcs; subst hcs
    rw [led_inj S.nd hcq hm]; exact hc w
/-- an entry that is no value is let go -/
theorem St.drop (S : St x ρ news σ m loc vars s₀ s) {h' : Heap} {tk : Nat} {d : Addr} {o : Obj} (hm : (d, o) ∈ news) (hv : isVal o = false) (hd : d ∉ ρ.flatten) (hc : ∀ w, o.data ≠ .cell w) (hl : x.ce = x.fe ∨ x.ce.locals ≠ d)
    (hs : ∀ b q, b ≠ d → s.heap.get? b = some q → h'.get? b = some q) : St x ρ (dropL d news) σ m loc vars s₀ { s with heap := h', toks := tk } ∧ Ext [d] ρ news ρ (dropL d news) := by
  have e : Ext [d] ρ news ρ (dropL d news) := .drop S.nd hm hv
  have D := S.N _ hm
  refine ⟨S.nextG (fr_but S.F hs D.2.2 D.2.1) (fun q hq => ?_) ?_ (S.R.drop S.nd hm hv hd) e (fun c q w hcq hcs => ?_) (hl.imp id fun h => by simpa using h), e⟩
  · obtain ⟨h1, h2⟩ := mem_dropL.mp hq
    exact ⟨hs _ _ h2 (S.N q h1).1, (S.N q h1).2⟩
  · exact List.Sublist.nodup (List.Sublist.map _ List.filter_sublist) S.nd
  · simp at hcs; subst hcs
    rw [led_inj S.nd hcq hm]; exact hc w

theorem mem_updL_iff {d : Addr} {o : Obj} {q : Addr × Obj} (h : q.1 ≠ d) : q ∈ updL d o news ↔ q ∈ news :=
  ⟨fun k => by
    rcases of_mem_updL k with rfl | ⟨h1, _⟩
    · exact absurd rfl h
    · exact h1, fun k => mem_updL_ne k h⟩

/-! iterators -/
inductive ItK where
  | lst (l : Addr) | tup (t : Addr) | rng (a c : Int) (n : Nat) | str (y : Str) (t : Tok) | byt (b : Array UInt8) (t : Tok)

def ItK.is (κ : ItK) (i : Nat) (o : Obj) : Prop := match κ with
  | .lst l => o.cls = .type "list_iterator" ∧ o.data = .fields #[.ref l, .int i 0]
  | .tup t => o.cls = .type "tuple_iterator" ∧ o.data = .fields #[.ref t, .int i 0]
  | .rng a c n => o = { cls := .type "range_iterator", dict := none, data := .fields #[rawInt (a + c * (i : Int)), rawInt ((n : Int) - i), rawInt c], slots := #[] }
  | .str y t => o.cls = .type (strIterType y) ∧ o.data = .fields #[.str y t, .int i 0]
  | .byt b t => o.cls = .type "bytes_iterator" ∧ o.data = .fields #[.bytes b t, .int i 0]


theorem notVal {o : Obj} {n : String} (h : o.cls = .type n) (k : isValT n = false) : isVal o = false := by
  unfold isVal; rw [h]; dsimp only; rw [k, Bool.and_false]
theorem ItK.val {κ : ItK} {i : Nat} {o : Obj} (h : κ.is i o) : isVal o = false := by
  cases κ
  · exact notVal h.1 (by decide +kernel)
  · exact notVal h.1 (by decide +kernel)
  · cases h; exact notVal rfl (by decide +kernel)
  · refine notVal h.1 ?_
    unfold strIterType
    split <;> decide +kernel
  · exact notVal h.1 (by decide +kernel)
theorem ItK.noCell {κ : ItK} {i : Nat} {o : Obj} (h : κ.is i o) : ∀ v, o.data ≠ .cell v := by
  intro v
  cases κ
  · rw [h.2]; intro q; cases q
  · rw [h.2]; intro q; cases q
  · cases h; intro q; cases q
  · rw [h.2]; intro q; cases q
  · rw [h.2]; intro q; cases q

/-- what an iterator gives at its place -/
def ItK.pv (x : Fx) (ρ : Foot) (news : Led) (σ : PH) (κ : ItK) (i : Nat) (q : PV) : Prop := match κ with
  | .lst l => (∃ (α : Nat) (xs : List PV), ρ[α]? = some [l] ∧ σ[α]? = some (PO.list xs) ∧ xs[i]? = some q) ∨ (l = x.sA ∧ ∃ n, x.W.ns[i]? = some n ∧ q = .int n)
  | .tup t => ∃ ps, VR x.sA ρ news (.tup ps) (.ref t) ∧ ps[i]? = some q
  | .rng a c n => i < n ∧ q = .int (a + c * (i : Int))
  | .str y _ => ∃ c, y.cps[i]? = some c ∧ q = .str ⟨#[c]⟩
  | .byt b _ => ∃ c, b[i]? = some c ∧ q = .int c.toNat
/-- where it ends -/
def ItK.fin (x : Fx) (ρ : Foot) (news : Led) (σ : PH) (κ : ItK) (i : Nat) : Prop := match κ with
  | .lst l => (∃ (α : Nat) (xs : List PV), ρ[α]? = some [l] ∧ σ[α]? = some (PO.list xs) ∧ xs.length ≤ i) ∨ (l = x.sA ∧ x.W.ns.length ≤ i)
  | .tup t => ∃ ps, VR x.sA ρ news (.tup ps) (.ref t) ∧ ps.length ≤ i
  | .rng _ _ n => n ≤ i
  | .str y _ => y.cps.size ≤ i
  | .byt b _ => b.size ≤ i

theorem obj_list (S : St x ρ news σ m loc vars s₀ s) {α : Nat} {ps : List PV} {l : Addr} (hα : σ[α]? = some (.list ps)) (hr : ρ[α]? = some [l]) :
    ∃ vs, LR x.sA ρ news ps vs ∧ s.heap.IsList l vs.toArray := by
  obtain ⟨a, vs, n, e, _, _, h1, h2⟩ := list_at S hα ⟨l, [], rfl, hr⟩
  cases e; exact ⟨vs, h1, h2⟩

theorem ints_item {vs : List Value} {ns : List Int} (h : IntsAre vs ns) : ∀ {j : Nat} {i : Int}, ns[j]? = some i → ∃ tk, vs[j]? = some (.int i tk) := by
  induction h with
  | nil => intro j i e; simp at e
  | cons n tk _ ih =>
    intro j i e
    cases j with
    | zero => simp at e; subst e; exact ⟨tk, rfl⟩
    | succ j => simp at e ⊢; exact ih e

theorem same_keeps {h h' : Heap} {I : Addr} (hs : Heap.SameBut I h h') : ∀ b o, b ≠ I → h.get? b = some o → h'.get? b = some o := fun b _ hb e => (hs.2 b hb).trans e

theorem iter_next (P : x.Pre p loose mean mg mb) (S : St x ρ news σ m loc vars s₀ s) {I : Addr} {o : Obj} {κ : ItK} {i : Nat} {pv : PV} (hm : (I, o) ∈ news) (hd : I ∉ ρ.flatten) (hl : x.ce = x.fe ∨ x.ce.locals ≠ I) (hk : κ.is i o) (hp : κ.pv x ρ news σ i pv)
    {E : Value → Shared → Prop} {Q : Option Value → Shared → Prop}
    (q : ∀ o' v h' tk, κ.is (i + 1) o' → St x ρ (updL I o' news) σ m loc vars s₀ { s with heap := h', toks := tk } → Ext [I] ρ news ρ (updL I o' news) → VR x.sA ρ (updL I o' news) pv v → Q (some v) { s with heap := h', toks := tk }) :
    wpAny (model prog w) x.A (pyNext (.ref I)) Q E s := by
  have hI := S.N.get hm
  have go : ∀ o' v h' tk, κ.is (i + 1) o' → h'.get? I = some o' → Heap.SameBut I s.heap h' → VR x.sA ρ news pv v → Q (some v) { s with heap := h', toks := tk } := fun o' v h' tk h1 h2 h3 h4 => by
    obtain ⟨S', E'⟩ := S.turn (tk := tk) hm (ItK.val hk) hd (ItK.noCell hk) hl (same_keeps h3) h2
    exact q o' v h' tk h1 S' E' (h4.mono E')
  cases κ with
  | lst l =>
    have hit : s.heap.IsListIter I l i := ⟨o, hI, hk.1, hk.2⟩
    rcases hp with ⟨α, xs, h1, h2, h3⟩ | ⟨rfl, n, h1, rfl⟩
    · obtain ⟨vs, h4, h5⟩ := obj_list S h2 h1
      obtain ⟨v, h6, h7⟩ := h4.get h3
      refine wpAny_pyNext_list_item hit h5 (x := v) (by simpa using h6) fun h' hit' hs => ?_
      obtain ⟨o', ho, k⟩ := hit'
      exact go o' v h' s.toks k ho hs h7
    · obtain ⟨vs, h4, h5⟩ := scr_at P S
      obtain ⟨tk, h6⟩ := ints_item h5 h1
      refine wpAny_pyNext_list_item hit h4 (x := .int n tk) (by simpa using h6) fun h' hit' hs => ?_
      obtain ⟨o', ho, k⟩ := hit'
      exact go o' _ h' s.toks k ho hs ⟨tk, rfl⟩
  | tup t =>
    obtain ⟨ps, h1, h2⟩ := hp
    obtain ⟨a, vs, e, h3, h4, h5⟩ := tup_at S h1
    cases e
    obtain ⟨v, h6, h7⟩ := h4.get h2
    refine next_tuple_item (it := I) (t := t) (i := i) ⟨o, hI, hk.1, hk.2⟩ h5 (x := v) (by simpa using h6) fun h' hit' hs => ?_
    obtain ⟨o', ho, k⟩ := hit'
    exact go o' v h' s.toks k ho hs h7
  | rng a c n =>
    obtain ⟨h1, rfl⟩ := hp
    cases hk
    refine wpAny_pyNext_range_item (it := I) (x := a + c * (i : Int)) (left := (n : Int) - i) (step := c) hI (by omega) fun h' hit' hs => ?_
    have e1 : a + c * (i : Int) + c = a + c * ((i + 1 : Nat) : Int) := by rw [Int.natCast_add, Int.mul_add]; simp [Int.add_assoc]
    have e2 : (n : Int) - i - 1 = (n : Int) - ((i + 1 : Nat) : Int) := by omega
    rw [e1, e2] at hit'
    exact go _ _ h' (s.toks + 1) rfl hit' hs ⟨_, rfl⟩
  | str y t =>
    obtain ⟨c, h1, rfl⟩ := hp
    obtain ⟨k1, k2⟩ := hk
    by_cases ha : y.cps.all (· < 128) = true
    · have e : strIterType y = "str_ascii_iterator" := by unfold strIterType; rw [if_pos ha]
      refine wpAny_pyNext_ascii_item (it := I) (x := y) (t := t) (i := i) ⟨o, hI, e ▸ k1, k2⟩ h1 fun h' hit' hs => ?_
      obtain ⟨o', ho, k3, k4⟩ := hit'
      exact go o' _ h' _ ⟨e ▸ k3, k4⟩ ho hs ⟨_, rfl⟩
    · have e : strIterType y = "str_iterator" := by unfold strIterType; rw [if_neg ha]
      refine wpAny_pyNext_wide_item (it := I) (x := y) (t := t) (i := i) ⟨o, hI, e ▸ k1, k2⟩ h1 fun h' hit' hs => ?_
      obtain ⟨o', ho, k3, k4⟩ := hit'
      exact go o' _ h' _ ⟨e ▸ k3, k4⟩ ho hs ⟨_, rfl⟩
  | byt b t =>
    obtain ⟨c, h1, rfl⟩ := hp
    refine KBw.next_item (it := I) (b := b) (t := t) (i := i) ⟨o, hI, hk.1, hk.2⟩ h1 fun h' hit' hs => ?_
    obtain ⟨o', ho, k⟩ := hit'
    exact go o' _ h' _ k ho hs ⟨_, rfl⟩

theorem iter_end (P : x.Pre p loose mean mg mb) (S : St x ρ news σ m loc vars s₀ s) {I : Addr} {o : Obj} {κ : ItK} {i : Nat} (hm : (I, o) ∈ news) (hd : I ∉ ρ.flatten) (hl : x.ce = x.fe ∨ x.ce.locals ≠ I) (hk : κ.is i o) (hp : κ.fin x ρ news σ i)
    {E : Value → Shared → Prop} {Q : Option Value → Shared → Prop}
    (q : ∀ h', St x ρ (dropL I news) σ m loc vars s₀ { s with heap := h' } → Ext [I] ρ news ρ (dropL I news) → Q none { s with heap := h' }) :
    wpAny (model prog w) x.A (pyNext (.ref I)) Q E s := by
  have hI := S.N.get hm
  have go : ∀ h', Heap.ExtBut I s.heap h' → Q none { s with heap := h' } := fun h' h1 => by
    obtain ⟨S', E'⟩ := S.drop (tk := s.toks) hm (ItK.val hk) hd (ItK.noCell hk) hl (h' := h') fun b o hb e => h1 b o hb e
    exact q h' S' E'
  cases κ with
  | lst l =>
    have hit : s.heap.IsListIter I l i := ⟨o, hI, hk.1, hk.2⟩
    rcases hp with ⟨α, xs, h1, h2, h3⟩ | ⟨rfl, h1⟩
    · obtain ⟨vs, h4, h5⟩ := obj_list S h2 h1
      exact wpAny_pyNext_list_end P.hh hit h5 (by simp [← h4.length, h3]) go
    · obtain ⟨vs, h4, h5⟩ := scr_at P S
      exact wpAny_pyNext_list_end P.hh hit h4 (by simp [h5.length, h1]) go
  | tup t =>
    obtain ⟨ps, h1, h2⟩ := hp
    obtain ⟨a, vs, e, h3, h4, h5⟩ := tup_at S h1
    cases e
    exact next_tuple_end (it := I) (t := t) (i := i) P.hh ⟨o, hI, hk.1, hk.2⟩ h5 (by simp [← h4.length, h2]) go
  | rng a c n =>
    have hp : n ≤ i := hp
    cases hk
    exact wpAny_pyNext_range_end (it := I) (x := a + c * (i : Int)) (left := (n : Int) - i) (step := c) P.hh hI (by omega) go
  | str y t =>
    have hp : y.cps.size ≤ i := hp
    obtain ⟨k1, k2⟩ := hk
    by_cases ha : y.cps.all (· < 128) = true
    · have e : strIterType y = "str_ascii_iterator" := by unfold strIterType; rw [if_pos ha]
      exact wpAny_pyNext_ascii_end (it := I) (x := y) (t := t) (i := i) P.hh ⟨o, hI, e ▸ k1, k2⟩ (by simp [hp]) go
    · have e : strIterType y = "str_iterator" := by unfold strIterType; rw [if_neg ha]
      exact wpAny_pyNext_wide_end (it := I) (x := y) (t := t) (i := i) P.hh ⟨o, hI, e ▸ k1, k2⟩ (by simp [hp]) go
  | byt b t =>
    have hp : b.size ≤ i := hp
    exact KBw.next_end (it := I) (b := b) (t := t) (i := i) P.hh ⟨o, hI, hk.1, hk.2⟩ (by simp [hp]) go

/-- the items that an iterator will give, where nothing can turn them -/
def ItK.all (x : Fx) (ρ : Foot) (news : Led) (κ : ItK) (is : List PV) : Prop :=
  (∀ σ i q, is[i]? = some q → κ.pv x ρ news σ i q) ∧ (∀ σ, κ.fin x ρ news σ is.length)

theorem VR.tupKeep {cs : List Addr} {ρ' : Foot} {news' : Led} (e : Ext cs ρ news ρ' news') {κ : ItK} {is : List PV} (h : κ.all x ρ news is) (hκ : ∀ l, κ = .lst l → l = x.sA ∧ is = x.W.ns.map .int) : κ.all x ρ' news' is := by
  cases κ with
  | lst l =>
    obtain ⟨rfl, rfl⟩ := hκ l rfl
    refine ⟨fun σ i q hq => .inr ⟨rfl, ?_⟩, fun σ => .inr ⟨rfl, by simp⟩⟩
    rw [List.getElem?_map] at hq
    obtain ⟨n, h1, h2⟩ := Option.map_eq_some_iff.mp hq
    exact ⟨n, h1, h2.symm⟩
  | tup t =>
    refine ⟨fun σ i q hq => ?_, fun σ => ?_⟩
    · obtain ⟨ps, h1, h2⟩ := h.1 σ i q hq
      exact ⟨ps, VR.mono e _ _ h1, h2⟩
    · obtain ⟨ps, h1, h2⟩ := h.2 σ
      exact ⟨ps, VR.mono e _ _ h1, h2⟩
  | _ => exact h
end
end Mine
end
/-! part MiniM -/
section
open PySem PySem.W PySem.Calls PyProof.Rows
namespace Mine
variable {prog : Program} {w : World} {p : Program} {loose : List Str} {mean : ExcName → Option Value} {mg mb : Str → Option Value}

def SrcOk (x : Fx) (ρ : Foot) (news : Led) (κ : ItK) : Src → Prop
  | .lst α _ => ∃ l, κ = .lst l ∧ ρ[α]? = some [l]
  | .fix is => κ.all x ρ news is ∧ ∀ l, κ = .lst l → l = x.sA ∧ is = x.W.ns.map .int

section
variable {x : Fx} {ρ : Foot} {news : Led} {σ : PH} {m loc : Str → Option Value} {vars : Vars} {s₀ s : Shared}

theorem SrcOk.mono {cs : List Addr} {ρ' : Foot} {news' : Led} {κ : ItK} {Sr : Src} (e : Ext cs ρ news ρ' news') (h : SrcOk x ρ news κ Sr) : SrcOk x ρ' news' κ Sr := by
  cases Sr with
  | lst α n => obtain ⟨l, h1, h2⟩ := h; exact ⟨l, h1, e.at h2⟩
  | fix is => exact ⟨VR.tupKeep e h.1 h.2, h.2⟩
theorem SrcOk.pv {κ : ItK} {Sr : Src} {i : Nat} {q : PV} (h : SrcOk x ρ news κ Sr) (g : Sr.get σ i = some (some q)) : κ.pv x ρ news σ i q := by
  cases Sr with
  | lst α n =>
    obtain ⟨l, rfl, h2⟩ := h
    change (match σ[α]? with | some (.list xs) => some xs[i]? | _ => Option.none) = _ at g
    split at g
    · rename_i xs h3
      exact .inl ⟨α, xs, h2, h3, Option.some.inj g⟩
    · cases g
  | fix is => exact h.1.1 σ i q (Option.some.inj g)
theorem SrcOk.fin {κ : ItK} {Sr : Src} {i : Nat} (h : SrcOk x ρ news κ Sr) (g : Sr.get σ i = some none) (hi : i ≤ Sr.len ∨ ∀ is, Sr ≠ .fix is) : κ.fin x ρ news σ i := by
  cases Sr with
  | lst α n =>
    obtain ⟨l, rfl, h2⟩ := h
    change (match σ[α]? with | some (.list xs) => some xs[i]? | _ => Option.none) = _ at g
    split at g
    · rename_i xs h3
      exact .inl ⟨α, xs, h2, h3, List.getElem?_eq_none_iff.mp (Option.some.inj g)⟩
    · cases g
  | fix is =>
    have h1 := List.getElem?_eq_none_iff.mp (Option.some.inj g)
    rcases hi with hi | hi
    · have : i = is.length := Nat.le_antisymm hi h1
      subst this
      exact h.1.2 σ
    · exact absurd rfl (hi is)

theorem iter_start (P : x.Pre p loose mean mg mb) (S : St x ρ news σ m loc vars s₀ s) {q : PV} {v : Value} {Sr : Src} (hv : VR x.sA ρ news q v) (h : srcO x.W σ q = some Sr) {E : Value → Shared → Prop} {Q : Value → Shared → Prop}
    (k : ∀ o κ h', κ.is 0 o → SrcOk x ρ ([(s.heap.objs.size, o)] ++ news) κ Sr → St x ρ ([(s.heap.objs.size, o)] ++ news) σ m loc vars s₀ { s with heap := h' } → Q (.ref s.heap.objs.size) { s with heap := h' }) :
    wpAny (model prog w) x.A (pyIter v) Q E s := by
  have go : ∀ o κ, o.isFreed = false → κ.is 0 o → (∀ (e : Ext [] ρ news ρ ([(s.heap.objs.size, o)] ++ news)), SrcOk x ρ ([(s.heap.objs.size, o)] ++ news) κ Sr) → Q (.ref s.heap.objs.size) { s with heap := s.heap.push o } := fun o κ hf h1 h2 =>
    k o κ _ h1 (h2 .junk) (S.junk (tk := s.toks) (fun b q e => Heap.get?_push_of_some _ e) (Nat.le_refl _) (Heap.get?_push_size _ hf))
  cases q with
  | obj α =>
    change (match σ[α]? with | some (.list xs) => some (Src.lst α xs.length) | _ => Option.none) = _ at h
    split at h
    · rename_i xs h1
      cases h
      obtain ⟨l, vs, n, rfl, hr, _, _, il⟩ := list_at S h1 hv
      exact wpAny_pyIter_list il (go _ (.lst l) rfl ⟨rfl, rfl⟩ fun e => ⟨l, rfl, e.at hr⟩)
    · cases h
  | rng a b c =>
    change (itemsO x.W σ (.rng a b c)).map Src.fix = _ at h
    obtain ⟨is, h1, h2⟩ := Option.map_eq_some_iff.mp h
    subst h2
    unfold itemsO at h1
    dsimp only at h1
    split at h1
    · rename_i hs
      cases h1
      obtain ⟨r, t, u, z, rfl, hm, hn⟩ := hv
      have hz : ((Builtin.Range.rangeSize a b c).toNat : Int) = Builtin.Range.rangeSize a b c := Int.toNat_of_nonneg hs.2
      refine wpAny_pyIter_range (S.N.get hm) hs.1 (go _ (.rng a c (Builtin.Range.rangeSize a b c).toNat) rfl (by simp [ItK.is, hz]) fun e => ⟨⟨fun σ i q hq => ?_, fun σ => ?_⟩, fun l e => by cases e⟩)
      · unfold rangeL at hq
        rw [List.map_map, List.getElem?_map] at hq
        obtain ⟨j, h3, h4⟩ := Option.map_eq_some_iff.mp hq
        obtain ⟨h5, h6⟩ := List.getElem?_eq_some_iff.mp h3
        rw [List.getElem_range] at h6
        subst h6
        rw [List.length_range] at h5
        exact ⟨h5, h4.symm⟩
      · show _ ≤ _
        simp [rangeL]
    · cases h1
  | tup vs =>
    change (itemsO x.W σ (.tup vs)).map Src.fix = _ at h
    cases h
    obtain ⟨t, ws, e0, _, _, ht⟩ := tup_at S hv
    subst e0
    exact PyProof.Rows.iter_tuple ht (go _ (.tup t) rfl ⟨rfl, rfl⟩ fun e => ⟨⟨fun σ i q hq => ⟨_, VR.mono e _ _ hv, hq⟩, fun σ => ⟨_, VR.mono e _ _ hv, Nat.le_refl _⟩⟩, fun l e => by cases e⟩)
  | bytes b =>
    change (itemsO x.W σ (.bytes b)).map Src.fix = _ at h
    cases h
    obtain ⟨t, rfl⟩ := hv
    refine KBw.pyIter_bytes (go _ (.byt b t) rfl ⟨rfl, rfl⟩ fun e => ⟨⟨fun σ i q hq => ?_, fun σ => ?_⟩, fun l e => by cases e⟩)
    · rw [List.getElem?_map] at hq
      obtain ⟨c, h3, h4⟩ := Option.map_eq_some_iff.mp hq
      exact ⟨c, by simpa using h3, h4.symm⟩
    · show _ ≤ _
      simp
  | str y =>
    change (itemsO x.W σ (.str y)).map Src.fix = _ at h
    cases h
    obtain ⟨t, rfl⟩ := hv
    refine wpAny_pyIter_strU (go _ (.str y t) rfl ⟨rfl, rfl⟩ fun e => ⟨⟨fun σ i q hq => ?_, fun σ => ?_⟩, fun l e => by cases e⟩)
    · rw [List.getElem?_map] at hq
      obtain ⟨c, h3, h4⟩ := Option.map_eq_some_iff.mp hq
      exact ⟨c, by simpa using h3, h4.symm⟩
    · show _ ≤ _
      simp
  | scr =>
    change (itemsO x.W σ .scr).map Src.fix = _ at h
    cases h
    cases hv
    obtain ⟨vs, h3, h4⟩ := scr_at P S
    refine wpAny_pyIter_list h3 (go _ (.lst x.sA) rfl ⟨rfl, rfl⟩ fun e => ⟨⟨fun σ i q hq => .inr ⟨rfl, ?_⟩, fun σ => .inr ⟨rfl, by simp⟩⟩, fun l e => by cases e; exact ⟨rfl, rfl⟩⟩)
    rw [List.getElem?_map] at hq
    obtain ⟨n, h5, h6⟩ := Option.map_eq_some_iff.mp hq
    exact ⟨n, h5, h6.symm⟩
  | _ => cases h
end
end Mine
end
/-! part MiniN -/
section
open PySem PySem.W PySem.Calls PyProof.Rows
namespace Mine
variable {prog : Program} {w : World} {p : Program} {loose : List Str} {mean : ExcName → Option Value} {mg mb : Str → Option Value}

/-! the frame of a comprehension -/
theorem closure_go (env : Env) : ∀ (names : List (Str × NameKind)) (acc : List (Str × Addr)), (∀ y ∈ names, y.2 = .free → ∃ c, env.cells.lookup y.1 = some c) →
    ∃ cl, (forIn names acc fun (x : Str × NameKind) (r : List (Str × Addr)) => if (x.2 == NameKind.free) = true then do let c ← cellOf env x.1; pure (ForInStep.yield ((x.1, c) :: r)) else pure (ForInStep.yield r) : Sem (List (Str × Addr))) = pure cl ∧
      (∀ y c, cl.lookup y = some c → acc.lookup y = some c ∨ ((y, NameKind.free) ∈ names ∧ env.cells.lookup y = some c)) ∧
      (∀ y, ((y, NameKind.free) ∈ names ∨ ∃ c, acc.lookup y = some c) → ∃ c, cl.lookup y = some c)
  | [], acc, _ => ⟨acc, rfl, fun y c h => .inl h, fun y h => h.elim (fun q => by cases q) id⟩
  | (z, k) :: r, acc, h => by
    rw [List.forIn_cons]
    by_cases hk : k = .free
    · subst hk
      obtain ⟨c, hc⟩ := h (z, .free) (by simp) rfl
      obtain ⟨cl, h1, h2, h3⟩ := closure_go env r ((z, c) :: acc) fun y hy => h y (by simp [hy])
      refine ⟨cl, ?_, fun y d hd => ?_, fun y hy => h3 y ?_⟩
      · simp only [beq_self_eq_true, if_true]
        rw [show cellOf env z = pure c by unfold cellOf; rw [hc]]
        simpa using h1
      · rcases h2 y d hd with q | ⟨q, q2⟩
        · rw [List.lookup_cons] at q
          split at q
          · rename_i he
            cases q
            have he := eq_of_beq he
            subst he
            exact .inr ⟨by simp, hc⟩
          · exact .inl q
        · exact .inr ⟨by simp [q], q2⟩
      · rcases hy with hy | ⟨d, hd⟩
        · rcases List.mem_cons.mp hy with e | e
          · cases e; exact .inr ⟨c, by simp⟩
          · exact .inl e
        · right
          rw [List.lookup_cons]
          split
          · exact ⟨c, rfl⟩
          · exact ⟨d, hd⟩
    · have hb : (k == NameKind.free) = false := by simpa using hk
      obtain ⟨cl, h1, h2, h3⟩ := closure_go env r acc fun y hy => h y (by simp [hy])
      refine ⟨cl, ?_, fun y d hd => (h2 y d hd).imp id fun q => ⟨by simp [q.1], q.2⟩, fun y hy => h3 y (hy.imp (fun q => ?_) id)⟩
      · simp only [hb, Bool.false_eq_true, if_false]
        simpa using h1
      · rcases List.mem_cons.mp q with e | e
        · cases e; exact absurd rfl hk
        · exact e
theorem closure_ok {scope : Scope} {env : Env} (h : ∀ y ∈ scope.names, y.2 = .free → ∃ c, env.cells.lookup y.1 = some c) :
    ∃ cl, closureFor scope env = pure cl ∧ (∀ y c, cl.lookup y = some c → (y, NameKind.free) ∈ scope.names ∧ env.cells.lookup y = some c) ∧ (∀ y, (y, NameKind.free) ∈ scope.names → ∃ c, cl.lookup y = some c) := by
  obtain ⟨cl, h1, h2, h3⟩ := closure_go env scope.names [] h
  refine ⟨cl, ?_, fun y c hc => (h2 y c hc).elim (fun q => by cases q) id, fun y hy => h3 y (.inl hy)⟩
  unfold closureFor
  refine Eq.trans ?_ h1
  rw [bind_pure]

theorem lookup_relabel {env : Env} : ∀ (names : List (Str × NameKind)) (y : Str),
    (names.map fun (n, k) => if (k == NameKind.free && env.scope.kind == .function && env.kindOf n == some .cell) then (n, NameKind.cell) else (n, k)).lookup y =
      (names.lookup y).map fun k => if (k == NameKind.free && env.scope.kind == .function && env.kindOf y == some .cell) then NameKind.cell else k
  | [], _ => rfl
  | (z, k) :: r, y => by
    have ih := lookup_relabel (env := env) r y
    rw [List.map_cons]
    dsimp only
    by_cases e : y = z
    · subst e
      split <;> simp_all
    · have hb : (y == z) = false := by simpa using e
      split <;> simp only [List.lookup_cons, hb] <;> exact ih

section
variable {x : Fx} {ρ : Foot} {news : Led} {σ : PH} {m loc : Str → Option Value} {vars : Vars} {s₀ s : Shared}

/-- the workplace of a comprehension -/
abbrev Fx.comp (x : Fx) (scope : Scope) (cl : List (Str × Addr)) (C : Addr) : Fx := { x with ce := compEnvC scope cl C x.ce, sc := fun y => scope.names.lookup y }
theorem Fx.Pre.comp (P : x.Pre p loose mean mg mb) (scope : Scope) (cl : List (Str × Addr)) (C : Addr) : (x.comp scope cl C).Pre p loose mean mg mb := ⟨P.B, P.X, P.T, P.hA, P.hf, P.hk, P.hh, P.hg, P.own, P.scr⟩
theorem Fx.Sco.comp (Cs : x.Sco) {scope : Scope} {cl : List (Str × Addr)} {C : Addr} (hk : scope.kind = .function) : (x.comp scope cl C).Sco := by
  refine ⟨hk, Cs.cg, Cs.cb, fun y k h => ?_, Cs.cf⟩
  show (relabel scope x.ce).names.lookup y = _ ∨ _ ∧ (relabel scope x.ce).names.lookup y = _
  unfold relabel
  dsimp only
  have h : scope.names.lookup y = some k := h
  rw [lookup_relabel, h]
  show some (if _ then _ else _) = _ ∨ _
  by_cases h1 : (k == NameKind.free && x.ce.scope.kind == .function && x.ce.kindOf y == some .cell) = true
  · have h2 := h1
    rw [Bool.and_eq_true, Bool.and_eq_true] at h2
    have hkf : k = .free := by simpa using h2.1.1
    refine .inr ⟨hkf, ?_⟩
    show some (if _ then _ else _) = _
    rw [if_pos h1]
  · exact .inl (by rw [if_neg h1])

theorem compOk_parts {xn : Str} {scope : Scope} {sc : Str → Option NameKind} (h : compOk sc vars xn scope = true) : scope.kind = .function ∧ scope.names.lookup xn = some .local ∧ (∀ y ∈ scope.names, y.2 ≠ .cell) ∧
    (∀ y ∈ scope.names, y.2 = .local → scope.names.lookup y.1 = some .local) ∧ (∀ y ∈ scope.names, y.2 = .free → scope.names.lookup y.1 = some .free ∧ (sc y.1 = some .cell ∨ sc y.1 = some .free) ∧ (vars y.1).isSome = true) := by
  unfold compOk at h
  rw [Bool.and_eq_true, Bool.and_eq_true] at h
  have h3 := List.all_eq_true.mp h.2
  refine ⟨by simpa using h.1.1, by simpa using h.1.2, fun y hy e => ?_, fun y hy e => ?_, fun y hy e => ?_⟩
  · have := h3 y hy; simp [e] at this
  · have := h3 y hy; simpa [e] using this
  · have := h3 y hy; simpa [e, and_assoc] using this

theorem cells_of (Cs : x.Sco) (V : NR x.sA ρ news x.ce loc vars) {y : Str} {q : PV} (hs : x.sc y = some .cell ∨ x.sc y = some .free) (hv : vars y = some q) :
    ∃ c v o, x.ce.cells.lookup y = some c ∧ (c, o) ∈ news ∧ c ∉ ρ.flatten ∧ o.data = .cell (some v) ∧ VR x.sA ρ news q v := by
  have := V.v y q hv
  rcases hs with hs | hs
  · rcases Cs.sk _ _ hs with hk | ⟨hk, _⟩
    · rw [hk] at this; exact this
    · cases hk
  · rcases Cs.sk _ _ hs with hk | ⟨_, hk⟩
    · rw [hk] at this; exact this
    · rw [hk] at this; exact this

theorem NR.comp (Cs : x.Sco) (V : NR x.sA ρ news x.ce loc vars) {scope : Scope} {cl : List (Str × Addr)} {C : Addr} {xn : Str} (hok : compOk x.sc vars xn scope = true)
    (h2 : ∀ y c, cl.lookup y = some c → (y, NameKind.free) ∈ scope.names ∧ x.ce.cells.lookup y = some c) (h3 : ∀ y, (y, NameKind.free) ∈ scope.names → ∃ c, cl.lookup y = some c) {loc' : Str → Option Value} :
    NR x.sA ρ news (compEnvC scope cl C x.ce) loc' (compVars (fun y => scope.names.lookup y) vars) := by
  obtain ⟨k1, k2, k3, k4, k5⟩ := compOk_parts hok
  have free_mem : ∀ {y}, scope.names.lookup y = some NameKind.free → (y, NameKind.free) ∈ scope.names := fun {y} h => by
    have := List.lookup_eq_some_iff.mp h
    obtain ⟨l1, l2, e, _⟩ := this
    rw [e]; simp
  refine ⟨fun y q h => ?_, fun y c hk hc => ?_, fun y z c hy hz => V.i y z c (h2 _ _ hy).2 (h2 _ _ hz).2⟩
  · unfold compVars at h
    split at h
    · rename_i hf
      have hm := free_mem hf
      have hs := (k5 _ hm rfl).2.1
      obtain ⟨c, v, o, h4, h5, h6, h7, h8⟩ := cells_of Cs V hs h
      obtain ⟨c', hc'⟩ := h3 y hm
      have : c' = c := by have := (h2 _ _ hc').2; rw [h4] at this; exact (Option.some.inj this).symm
      subst this
      have kk : (compEnvC scope cl C x.ce).kindOf y = some .cell ∨ (compEnvC scope cl C x.ce).kindOf y = some .free := by
        show (relabel scope x.ce).names.lookup y = _ ∨ (relabel scope x.ce).names.lookup y = _
        unfold relabel; dsimp only
        have hf : scope.names.lookup y = some .free := hf
        rw [lookup_relabel, hf]
        show some (if _ then _ else _) = _ ∨ some (if _ then _ else _) = _
        split
        · exact .inl rfl
        · exact .inr rfl
      rcases kk with kk | kk <;> rw [kk] <;> exact ⟨c', v, o, hc', h5, h6, h7, h8⟩
    · cases h
  · obtain ⟨h4, h5⟩ := h2 _ _ hc
    obtain ⟨_, h6, h7⟩ := k5 _ h4 rfl
    obtain ⟨q, hq⟩ := Option.isSome_iff_exists.mp h7
    obtain ⟨c', v, o, h8, h9, h10, h11, _⟩ := cells_of Cs V h6 hq
    rw [h5] at h8
    cases h8
    exact ⟨o, _, h9, h10, h11⟩

theorem St.weak (S : St x ρ news σ m loc vars s₀ s) {vars' : Vars} (h : ∀ y q, vars' y = some q → vars y = some q) : St x ρ news σ m loc vars' s₀ s :=
  ⟨S.F, S.N, S.nd, S.R, S.L, ⟨fun y q hq => S.V.v y q (h y q hq), S.V.c, S.V.i⟩, S.sh⟩

theorem ns_obj {h : Heap} {a : Addr} {f : Str → Option Value} (hn : h.Ns a f) : ∃ o, h.get? a = some o ∧ isVal o = false ∧ (∀ w, o.data ≠ .cell w) ∧ ∀ h' : Heap, h'.get? a = some o → h'.Ns a f := by
  obtain ⟨o, es, ep, h1, h2, r⟩ := hn
  refine ⟨o, h1, isVal_dict (by rw [h2]; rfl), fun w q => ?_, fun h' e => ⟨o, es, ep, e, h2, r⟩⟩
  rw [h2] at q; cases q

/-- the loop's name stored in the comprehension's frame -/
theorem store_comp (S : St x ρ news σ m loc vars s₀ s) {oC : Obj} (hm : (x.ce.locals, oC) ∈ news) (hd : x.ce.locals ∉ ρ.flatten) (hf : x.ce.locals ≠ x.fe.locals) (hv : isVal oC = false) (hc : ∀ w, oC.data ≠ .cell w) (hk : x.ce.scope.kind = .function)
    {y : Str} {q : PV} {v : Value} (hy : x.ce.kindOf y = some .local) (vr : VR x.sA ρ news q v) {M : Model} {E : Value → Shared → Prop} {Q : Unit → Shared → Prop}
    (k : ∀ o' h' tk loc', isVal o' = false → (∀ w, o'.data ≠ .cell w) → St x ρ (updL x.ce.locals o' news) σ m loc' (vars.set y q) s₀ { s with heap := h', toks := tk } → Ext [x.ce.locals] ρ news ρ (updL x.ce.locals o' news) → Q () { s with heap := h', toks := tk }) :
    wpAny M x.A (storeName x.ce y v) Q E s := by
  refine wpAny_storeName_local hy S.ns (fun h' hn hs => ?_) (by rw [hk]; rfl)
  obtain ⟨o', h1, h2, h3, h4⟩ := ns_obj hn
  have e : Ext [x.ce.locals] ρ news ρ (updL x.ce.locals o' news) := .turn S.nd hm hv
  have D := S.N _ hm
  have noC : ∀ c q w, (c, q) ∈ news → c ∈ [x.ce.locals] → q.data ≠ .cell w := fun c q w hcq hcs => by
    simp at hcs; subst hcs
    rw [led_inj S.nd hcq hm]; exact hc w
  have V := S.V.ext' e noC
  refine k o' h' _ (fun z => if z = y then some v else loc z) h2 h3 ⟨fr_but S.F (same_keeps hs) D.2.2 D.2.1, fun z hz => ?_, by rw [updL_addr]; exact S.nd, S.R.turn S.nd hm hv hd, ?_, ⟨fun z r hr => ?_, V.c, V.i⟩, ?_⟩ e
  · rcases of_mem_updL hz with rfl | ⟨h5, h6⟩
    · exact ⟨h1, D.2⟩
    · exact ⟨same_keeps hs _ _ h6 (S.N z h5).1, (S.N z h5).2⟩
  · exact .inr ⟨o', mem_updL_self hm, hd, ⟨h2, hf⟩, h4⟩
  · unfold Vars.set at hr
    by_cases hz : z = y
    · subst hz
      rw [if_pos rfl] at hr; cases hr
      rw [hy]
      exact ⟨v, by simp, vr.mono e⟩
    · rw [if_neg hz] at hr
      have := V.v z r hr
      split at this
      · obtain ⟨u, h5, h6⟩ := this
        exact ⟨u, by simp [hz, h5], h6⟩
      · exact this
      · exact this
      · trivial
  · obtain ⟨h, t, q⟩ := S.sh; subst q; exact ⟨h', _, rfl⟩

/-- a list of the ledger joins the abstract heap -/
theorem St.adopt (S : St x ρ news σ m loc vars s₀ s) {D : Addr} {vs : List Value} {n : Nat} {ps : List PV} (hm : (D, listOf vs.toArray n) ∈ news) (hd : D ∉ ρ.flatten) (hr : LR x.sA ρ news ps vs) (hl : x.ce = x.fe ∨ x.ce.locals ≠ D) :
    St x (ρ ++ [[D]]) news (σ ++ [.list ps]) m loc vars s₀ s ∧ Ext [D] ρ news (ρ ++ [[D]]) news ∧ (ρ ++ [[D]])[σ.length]? = some [D] := by
  have hv : isVal (listOf vs.toArray n) = false := notVal rfl (by decide +kernel)
  have e : Ext [D] ρ news (ρ ++ [[D]]) news := ⟨⟨[[D]], rfl⟩, fun q h1 h2 h3 => ⟨h1, fun h4 => by
    rw [flatten_snoc, List.mem_append, List.mem_singleton] at h4
    rcases h4 with h4 | h4
    · exact h2 h4
    · exact turn_ne S.nd hm hv h1 h3 h4⟩⟩
  have R : Rep x.sA (ρ ++ [[D]]) news (σ ++ [.list ps]) := by
    refine ⟨by simp [S.R.len], ?_, fun β o' fq e1 f => ?_⟩
    · rw [flatten_snoc, List.nodup_append]
      exact ⟨S.R.nd, by simp, fun a ha b hb q => by simp at hb; exact hd (hb ▸ q ▸ ha)⟩
    · by_cases hb : β < σ.length
      · rw [List.getElem?_append_left hb] at e1
        rw [List.getElem?_append_left (S.R.len ▸ hb)] at f
        exact (S.R.obj β o' fq e1 f).mono e fun a _ ob hm => hm
      · rw [List.getElem?_append_right (by omega)] at e1
        rw [List.getElem?_append_right (by rw [S.R.len]; omega)] at f
        rw [S.R.len] at f
        cases hq : β - σ.length with
        | zero => rw [hq] at e1 f; simp at e1 f; subst e1 f; exact ⟨D, vs, n, rfl, hm, hr.mono e⟩
        | succ k => rw [hq] at e1; simp at e1
  have S' := S.nextG (tk := s.toks) S.F S.N S.nd R e (fun c q w hcq hcs => by
    simp at hcs; subst hcs
    rw [led_inj S.nd hcq hm]; intro q; cases q) (hl.imp id fun h => by simpa using h)
  refine ⟨S', e, ?_⟩
  rw [← S.R.len, List.getElem?_append_right (Nat.le_refl _), Nat.sub_self]; rfl

/-- back to the frame around a comprehension -/
theorem St.back {ce : Env} {sc : Str → Option NameKind} {ρ' : Foot} {news' : Led} {σ' : PH} {loc' : Str → Option Value} {vars' : Vars} {s' : Shared} (S : St x ρ news σ m loc vars s₀ s) (S' : St { x with ce := ce, sc := sc } ρ' news' σ' m loc' vars' s₀ s') (e : Ext [] ρ news ρ' news') :
    St x ρ' news' σ' m loc vars s₀ s' := by
  refine ⟨S'.F, S'.N, S'.nd, S'.R, ?_, S.V.ext e, S'.sh⟩
  rcases S.L with h | ⟨o, h, h2, h3, h4⟩
  · exact .inl h
  · exact .inr ⟨o, (e.keep _ h h2 (.inl (by simp))).1, (e.keep _ h h2 (.inl (by simp))).2, h3, h4⟩
end
end Mine
end
/-! part MiniO -/
section
open PySem PySem.W PySem.Calls PyProof.Rows
namespace Mine
variable {prog : Program} {w : World} {p : Program} {loose : List Str} {mean : ExcName → Option Value} {mg mb : Str → Option Value}

section
variable {x : Fx} {ρ : Foot} {news : Led} {σ : PH} {m loc : Str → Option Value} {vars : Vars} {s₀ s : Shared}

theorem EF.no {β : Type} {r : R β} {e : Value} {s' : Shared} (h : EF x ρ news vars s₀ r e s') : False := by
  cases r with
  | err pe σ => exact h
  | _ => exact h

theorem iter_self {I : Addr} {o : Obj} {κ : ItK} {i : Nat} (hI : s.heap.get? I = some o) (hk : κ.is i o) {A : Around} {E : Value → Shared → Prop} {Q : Value → Shared → Prop} (q : Q (.ref I) s) : wpAny (model prog w) A (pyIter (.ref I)) Q E s := by
  cases κ with
  | lst l => exact wpAny_pyIter_listiter (l := l) (i := i) ⟨o, hI, hk.1, hk.2⟩ q
  | tup t => exact wpAny_pyIter_tupleiter (t := t) (i := i) ⟨o, hI, hk.1, hk.2⟩ q
  | rng a c n => cases hk; exact wpAny_pyIter_rangeiter hI q
  | str y t =>
    by_cases ha : y.cps.all (· < 128) = true
    · have e : strIterType y = "str_ascii_iterator" := by unfold strIterType; rw [if_pos ha]
      exact wpAny_pyIter_striter_ascii (x := y) (t := t) (i := i) ⟨o, hI, e ▸ hk.1, hk.2⟩ q
    · have e : strIterType y = "str_iterator" := by unfold strIterType; rw [if_neg ha]
      exact wpAny_pyIter_striter_wide (x := y) (t := t) (i := i) ⟨o, hI, e ▸ hk.1, hk.2⟩ q
  | byt b t => exact KBw.pyIter_self (b := b) (t := t) (i := i) ⟨o, hI, hk.1, hk.2⟩ q

theorem compG_turn {f : Vars → PH → R PV} {xn : Str} {mV : Vars} {Sr : Src} {k i : Nat} {σ : PH} (nb : compG f xn mV Sr (k + 1) i σ ≠ .bad) :
    ∃ v, Sr.get σ i = some (some v) ∧ compG f xn mV Sr (k + 1) i σ = (f (mV.set xn v) σ).bind fun w σ => (compG f xn mV Sr k (i + 1) σ).bind fun ws σ => .ok (w :: ws) σ := by
  have e : compG f xn mV Sr (k + 1) i σ = (match Sr.get σ i with
    | some (some v) => (f (mV.set xn v) σ).bind fun w σ => (compG f xn mV Sr k (i + 1) σ).bind fun ws σ => .ok (w :: ws) σ
    | _ => .bad) := rfl
  rw [e] at nb ⊢
  cases h : Sr.get σ i with
  | none => rw [h] at nb; exact absurd rfl nb
  | some o =>
    cases o with
    | none => rw [h] at nb; exact absurd rfl nb
    | some v => exact ⟨v, rfl, rfl⟩
theorem compG_end {f : Vars → PH → R PV} {xn : Str} {mV : Vars} {Sr : Src} {i : Nat} {σ : PH} (nb : compG f xn mV Sr 0 i σ ≠ .bad) : Sr.get σ i = some none ∧ compG f xn mV Sr 0 i σ = .ok [] σ := by
  have e : compG f xn mV Sr 0 i σ = (match Sr.get σ i with
    | some Option.none => .ok [] σ
    | _ => .bad) := rfl
  rw [e] at nb ⊢
  cases h : Sr.get σ i with
  | none => rw [h] at nb; exact absurd rfl nb
  | some o =>
    cases o with
    | none => exact ⟨rfl, rfl⟩
    | some v => rw [h] at nb; exact absurd rfl nb
theorem R.bind_nb {α β : Type} {r : R α} {f : α → PH → R β} (h : r.bind f ≠ .bad) : r ≠ .bad := fun q => h (by rw [q]; rfl)
theorem R.bind_assoc {α β γ : Type} {r : R α} {f : α → PH → R β} {g : β → PH → R γ} : (r.bind f).bind g = r.bind fun a σ => (f a σ).bind g := by cases r <;> rfl

theorem upd_keep {cs : List Addr} {ρ' : Foot} {news' : Led} {d : Addr} {o : Obj} (e : Ext cs ρ news ρ' news') (hm : (d, o) ∈ news) (hd : d ∉ ρ.flatten) (hc : d ∉ cs) : (d, o) ∈ news' ∧ d ∉ ρ'.flatten := e.keep (d, o) hm hd (.inl hc)

/-- the invariant of a comprehension -/
structure CInv (x x' : Fx) (f : Vars → PH → R PV) (xn : Str) (mV : Vars) (Sr : Src) (κ : ItK) (I D C : Addr) (ρ : Foot) (news : Led) (m : Str → Option Value) (s₀ : Shared) (r : R (List PV)) (k : Nat) (s' : Shared)
    (i : Nat) (ρ' : Foot) (news' : Led) (σ' : PH) (loc' : Str → Option Value) (vs : List Value) (nD : Nat) (oI oC : Obj) (done : List PV) : Prop where
  S : St x' ρ' news' σ' m loc' mV s₀ s'
  E : Ext [I, D, C] ρ news ρ' news'
  mI : (I, oI) ∈ news'
  fI : I ∉ ρ'.flatten
  kI : κ.is i oI
  src : SrcOk x' ρ' news' κ Sr
  mD : (D, listOf vs.toArray nD) ∈ news'
  fD : D ∉ ρ'.flatten
  lr : LR x.sA ρ' news' done vs
  mC : (C, oC) ∈ news'
  fC : C ∉ ρ'.flatten
  vC : isVal oC = false
  cC : ∀ w, oC.data ≠ .cell w
  len : done.length = i
  cnt : i + k = Sr.len
  eq : (compG f xn mV Sr k i σ').bind (fun ws σ => .ok (done ++ ws) σ) = r

theorem comp_loop {f : Vars → PH → R PV} {elt iter : Expr} {xn : Str} {px pos : Pos} {scope : Scope} {mV : Vars} {Sr : Src} {κ : ItK} {I D C : Addr} {cl : List (Str × Addr)} {r : R (List PV)} {RC : Result → Shared → Prop}
    (P : (x.comp scope cl C).Pre p loose mean mg mb) (hk : scope.kind = .function) (hx : scope.names.lookup xn = some .local) (hmV : mV xn = none) (hz : sizeOk Sr.len = true) (hID : I ≠ D) (hIC : I ≠ C) (hDC : D ≠ C) (hCf : C ≠ x.fe.locals)
    (hf : ∀ vars' σ', RunV prog w (x.comp scope cl C) vars' s₀ (eval elt (x.comp scope cl C).ce) σ' (f vars' σ')) (nb : r ≠ .bad)
    (fin : ∀ s' i ρ' news' σ' loc' vs nD oI oC done, CInv x (x.comp scope cl C) f xn mV Sr κ I D C ρ news m s₀ r 0 s' i ρ' news' σ' loc' vs nD oI oC done → r = .ok done σ' →
      ∀ h', St (x.comp scope cl C) ρ' (dropL I news') σ' m loc' mV s₀ { s' with heap := h' } → Ext [I] ρ' news' ρ' (dropL I news') → RC (.ok .next) { s' with heap := h' }) :
    ∀ n s, (∃ i ρ' news' σ' loc' vs nD oI oC done, CInv x (x.comp scope cl C) f xn mV Sr κ I D C ρ news m s₀ r n s i ρ' news' σ' loc' vs nD oI oC done) →
      codeG (model prog w) x.A (.compLoop (.ListComp elt [⟨.Name xn px, iter, [], 0⟩] scope pos) 0 (.ref I) (.ref D) (compEnvC scope cl C x.ce)) RC s := by
  intro n s hI
  refine G_compLoop (fun n s => ∃ i ρ' news' σ' loc' vs nD oI oC done, CInv x (x.comp scope cl C) f xn mV Sr κ I D C ρ news m s₀ r n s i ρ' news' σ' loc' vs nD oI oC done) ?_ n hI (fun _ => rfl)
  clear hI s n
  rintro n s ⟨i, ρ', news', σ', loc', vs, nD, oI, oC, done, v⟩
  have hl : (x.comp scope cl C).ce.locals ≠ I := Ne.symm hIC
  have wI : ∀ c ∈ [I], c ∈ [I, D, C] := fun c h => by rw [List.mem_singleton] at h; subst h; simp
  have wD : ∀ c ∈ [D], c ∈ [I, D, C] := fun c h => by rw [List.mem_singleton] at h; subst h; simp
  have wC : ∀ c ∈ [C], c ∈ [I, D, C] := fun c h => by rw [List.mem_singleton] at h; subst h; simp
  have nbk : compG f xn mV Sr n i σ' ≠ .bad := fun q => nb (by rw [← v.eq, q]; rfl)
  cases n with
  | zero =>
    obtain ⟨hg, he⟩ := compG_end nbk
    refine .of (iter_end P v.S v.mI v.fI (.inr hl) v.kI (v.src.fin hg (.inl (by have := v.cnt; omega))) fun h' S' E' => ?_)
    refine fin _ _ _ _ _ _ _ _ _ _ _ v ?_ h' S' E'
    rw [← v.eq, he]
    show R.ok (done ++ []) σ' = _
    rw [List.append_nil]
  | succ k =>
    obtain ⟨u, hg, he⟩ := compG_turn nbk
    have e0 := v.eq
    rw [he] at e0
    refine .of (iter_next P v.S v.mI v.fI (.inr hl) v.kI (v.src.pv hg) fun oI' vv h' tk kI' S1 E1 vr1 => ?_)
    have mC1 : (C, oC) ∈ updL I oI' news' := mem_updL_ne v.mC (Ne.symm hIC)
    have mD1 : (D, listOf vs.toArray nD) ∈ updL I oI' news' := mem_updL_ne v.mD (Ne.symm hID)
    have mI1 : (I, oI') ∈ updL I oI' news' := mem_updL_self v.mI
    have hxl : (x.comp scope cl C).ce.kindOf xn = some .local := lookup_relabel_local hx
    refine .of (wpAny_assign_Name (store_comp S1 mC1 v.fC hCf v.vC v.cC hk hxl vr1 fun oC' h2 tk2 loc2 vC' cC' S2 E2 => ?_))
    have mI2 : (I, oI') ∈ updL C oC' (updL I oI' news') := mem_updL_ne mI1 hIC
    have mD2 : (D, listOf vs.toArray nD) ∈ updL C oC' (updL I oI' news') := mem_updL_ne mD1 hDC
    have mC2 : (C, oC') ∈ updL C oC' (updL I oI' news') := mem_updL_self mC1
    have nbf : (f (mV.set xn u) σ').bind (fun w σ => ((compG f xn mV Sr k (i + 1) σ).bind fun ws σ => .ok (w :: ws) σ).bind fun ws σ => .ok (done ++ ws) σ) ≠ .bad := by
      rw [R.bind_assoc] at e0; rw [e0]; exact nb
    refine ((hf (mV.set xn u) σ').seq S2 .refl nbf fun wv σ2 wval s2 ρ2 news2 S3 E3 vr3 e3 nb3 => ?_).mono (fun _ _ q => q) fun _ _ q => EF.no q
    obtain ⟨mI3, fI3⟩ := upd_keep E3 mI2 v.fI (by simp)
    obtain ⟨mD3, fD3⟩ := upd_keep E3 mD2 v.fD (by simp)
    obtain ⟨mC3, fC3⟩ := upd_keep E3 mC2 v.fC (by simp)
    have E12 : Ext [I, D, C] ρ' news' ρ' (updL C oC' (updL I oI' news')) := (E1.weak wI).trans (E2.weak wC)
    have E13 : Ext [I, D, C] ρ' news' ρ2 news2 := E12.trans E3.nil
    have lr3 : LR x.sA ρ2 news2 done vs := LR.mono E13 _ _ v.lr
    have hsz : vs.toArray.size ≤ sizeLine := by
      have h1 := of_decide_eq_true hz
      have h2 := v.cnt
      have h3 := v.len
      rw [List.size_toArray, ← v.lr.length, h3]; omega
    refine .of (wpAny_list_append_plain (hsz := hsz) ⟨nD, S3.N.get mD3⟩ fun h4 hl4 hs4 => ?_)
    obtain ⟨nD', hg4⟩ := hl4
    have hvs : vs.toArray.push wval = (vs ++ [wval]).toArray := by simp
    rw [hvs] at hg4
    have hvD : isVal (listOf vs.toArray nD) = false := notVal rfl (by decide +kernel)
    obtain ⟨S4, E4⟩ := S3.turn (tk := s2.toks) mD3 hvD fD3 (fun w q => by cases q) (.inr (Ne.symm hDC)) (same_keeps hs4) hg4
    refine ⟨k, Nat.lt_succ_self _, i + 1, ρ2, updL D (listOf (vs ++ [wval]).toArray nD') news2, σ2, loc2, vs ++ [wval], nD', oI', oC', done ++ [wv], ?_⟩
    have E5 : Ext [I, D, C] ρ' news' ρ2 (updL D (listOf (vs ++ [wval]).toArray nD') news2) := E13.trans (E4.weak wD)
    refine ⟨S4.weak fun y q hq => ?_, v.E.trans E5, mem_updL_ne mI3 hID, fI3, kI', v.src.mono E5, mem_updL_self mD3, fD3, (LR.mono E4 _ _ lr3).append ⟨_, [], rfl, VR.mono E4 _ _ vr3, rfl⟩, mem_updL_ne mC3 (Ne.symm hDC), fC3, vC', cC', by rw [List.length_append, v.len]; rfl, by have := v.cnt; omega, ?_⟩
    · unfold Vars.set
      by_cases hy : y = xn
      · subst hy; rw [hmV] at hq; cases hq
      · rw [if_neg hy]; exact hq
    · rw [R.bind_assoc, e3, R.bind_assoc] at e0
      rw [← e0]
      congr 1
      funext ws σ
      show R.ok _ _ = R.ok _ _
      rw [List.append_assoc]; rfl

theorem comp_ok {f : Vars → PH → R PV} {elt iter : Expr} {xn : Str} {px pos : Pos} {scope : Scope}
    (P : x.Pre p loose mean mg mb) (Cs : x.Sco) (hok : compOk x.sc vars xn scope = true)
    (hf : ∀ x' : Fx, x'.W = x.W → x'.A = x.A → x'.Pre p loose mean mg mb → x'.Sco → x'.sc = (fun y => scope.names.lookup y) → ∀ vars' σ', RunV prog w x' vars' s₀ (eval elt x'.ce) σ' (f vars' σ'))
    (S : St x ρ news σ m loc vars s₀ s) {q : PV} {v : Value} {Sr : Src} (hv : VR x.sA ρ news q v) (hs : srcO x.W σ q = some Sr) (hz : sizeOk Sr.len = true)
    (nb : compG f xn (compVars (fun y => scope.names.lookup y) vars) Sr Sr.len 0 σ ≠ .bad) {E : Value → Shared → Prop} {RR : Value → Addr → Result → Shared → Prop}
    (k : ∀ ps σ' D C oC ρ' news' s', compG f xn (compVars (fun y => scope.names.lookup y) vars) Sr Sr.len 0 σ = .ok ps σ' → St x (ρ' ++ [[D]]) news' (σ' ++ [.list ps]) m loc vars s₀ s' → Ext [] ρ news (ρ' ++ [[D]]) news' → (ρ' ++ [[D]])[σ'.length]? = some [D] →
      (C, oC) ∈ news' → C ∉ (ρ' ++ [[D]]).flatten → isVal oC = false → (∀ w, oC.data ≠ .cell w) → x.ce.locals ≠ C → (∀ a ∈ news, a.1 ≠ C) → (∃ mC, s'.heap.Ns C mC) → RR (.ref D) C (.ok .next) s') :
    ∃ cl, closureFor scope x.ce = pure cl ∧ wpG (model prog w) x.A (pyIter v) (fun it s₂ => wpG (model prog w) x.A (newList []) (fun acc s₃ => wpG (model prog w) x.A (newFunctionEnv scope x.ce.globals cl [] x.ce.qual none .none (some x.ce)) (fun cenv s₄ =>
      codeG (model prog w) x.A (.compStart (.ListComp elt [⟨.Name xn px, iter, [], 0⟩] scope pos) 0 it acc { cenv with scope := relabel scope x.ce }) (RR acc cenv.locals) s₄) E s₃) E s₂) E s := by
  obtain ⟨k1, k2, k3, k4, k5⟩ := compOk_parts hok
  obtain ⟨cl, hcl, c2, c3⟩ := closure_ok (scope := scope) (env := x.ce) fun y hy e => by
    obtain ⟨_, h6, h7⟩ := k5 y hy e
    obtain ⟨q, hq⟩ := Option.isSome_iff_exists.mp h7
    obtain ⟨c, _, _, h8, _⟩ := cells_of Cs S.V h6 hq
    exact ⟨c, h8⟩
  refine ⟨cl, hcl, .of (iter_start P S hv hs fun oI κ h1 kI src S1 => ?_)⟩
  have hI0 : h1.get? s.heap.objs.size = some oI := S1.N.get (List.mem_cons_self ..)
  have low1 : @LT.lt Nat _ s.heap.objs.size h1.objs.size := Heap.lt_size hI0
  refine .of (wpAny_newObj_type ?_ (by size_fits))
  let oD : Obj := { cls := .type "list", dict := none, data := .seq ([] : List Value).toArray }
  have S2 := S1.junk (tk := s.toks) (h' := h1.push oD) (a := h1.objs.size) (o := oD) (fun b q e => Heap.get?_push_of_some _ e) (Nat.le_refl _) (Heap.get?_push_size _ rfl)
  have low2 : @LT.lt Nat _ h1.objs.size (h1.push oD).objs.size := by rw [Heap.size_push]; exact Nat.lt_succ_self _
  refine .of (wpAny_newFunctionEnv k3 (by intro y hy; cases hy) (fun h2 hns hsb => ?_) k1)
  obtain ⟨oC, c4, vC, cC, nC⟩ := ns_obj hns
  have S3 := S2.junk (tk := s.toks) (h' := h2) (a := (h1.push oD).objs.size) (o := oC) (fun b q e => hsb.extBut b q (Nat.ne_of_lt (Heap.lt_size e)) (Heap.get?_push_of_some _ e)) (Nat.le_refl _) c4
  generalize hI : s.heap.objs.size = I at *
  generalize hD : h1.objs.size = D at *
  generalize hC : (h1.push oD).objs.size = C at *
  have hID : (I : Nat) ≠ D := Nat.ne_of_lt low1
  have hDC : (D : Nat) ≠ C := Nat.ne_of_lt low2
  have hIC : (I : Nat) ≠ C := Nat.ne_of_lt (Nat.lt_trans low1 low2)
  have old : ∀ b : Nat, b < I → b ∉ ([I, D, C] : List Nat) := fun b hb hm => by
    simp only [List.mem_cons, List.not_mem_nil, or_false] at hm
    rcases hm with e | e | e
    · exact absurd hb (by rw [e]; exact Nat.lt_irrefl _)
    · exact absurd hb (by rw [e]; exact Nat.not_lt.mpr (Nat.le_of_lt low1))
    · exact absurd hb (by rw [e]; exact Nat.not_lt.mpr (Nat.le_of_lt (Nat.lt_trans low1 low2)))
  have lowN : ∀ a ∈ news, @LT.lt Nat _ a.1 I := fun a ha => hI ▸ S.low ha
  have lowL : @LT.lt Nat _ x.ce.locals I := hI ▸ S.ns.lt
  have lowF : @LT.lt Nat _ x.fe.locals I := hI ▸ S.F.ns.lt
  have lowR : ∀ a ∈ ρ.flatten, @LT.lt Nat _ a I := fun a ha => hI ▸ S.lowR ha
  have hCf : C ≠ x.fe.locals := fun q => old _ lowF (by rw [← q]; simp)
  let news3 : Led := [(C, oC)] ++ ([(D, oD)] ++ ([(I, oI)] ++ news))
  have P' := P.comp scope cl C
  have Cs' : (x.comp scope cl C).Sco := Cs.comp k1
  have mC3 : (C, oC) ∈ news3 := List.mem_cons_self ..
  have mD3 : (D, oD) ∈ news3 := .tail _ (List.mem_cons_self ..)
  have mI3 : (I, oI) ∈ news3 := .tail _ (.tail _ (List.mem_cons_self ..))
  have nm : ∀ {a : Nat}, a ∈ ([I, D, C] : List Nat) → a ∉ ρ.flatten := fun ha q => old _ (lowR _ q) ha
  have Sx : St (x.comp scope cl C) ρ news3 σ m (fun y => ([] : List (Str × Value)).reverse.lookup y) (compVars (fun y => scope.names.lookup y) vars) s₀ { s with heap := h2, toks := s.toks } :=
    ⟨S3.F, S3.N, S3.nd, S3.R, .inr ⟨oC, mC3, nm (a := C) (by simp), ⟨vC, hCf⟩, nC⟩, NR.comp Cs S3.V hok c2 c3, S3.sh⟩
  have e3 : Ext [] ρ news ρ news3 := (Ext.junk (new := [(I, oI)])).trans ((Ext.junk (new := [(D, oD)])).trans (Ext.junk (new := [(C, oC)])))
  have e13 : Ext [] ρ ([(I, oI)] ++ news) ρ news3 := (Ext.junk (new := [(D, oD)])).trans (Ext.junk (new := [(C, oC)]))
  have hmV : compVars (fun y => scope.names.lookup y) vars xn = none := by
    unfold compVars
    rw [if_neg]
    show ¬ scope.names.lookup xn = _
    rw [k2]; intro q; cases q
  have loop : codeG (model prog w) x.A (.compLoop (.ListComp elt [⟨.Name xn px, iter, [], 0⟩] scope pos) 0 (.ref I) (.ref D) (compEnvC scope cl C x.ce)) (RR (.ref D) C) { s with heap := h2, toks := s.toks } := by
    refine comp_loop (x := x) (ρ := ρ) (news := news3) (m := m) (s₀ := s₀) (Sr := Sr) (κ := κ) (mV := compVars (fun y => scope.names.lookup y) vars) P' k1 k2 hmV hz hID hIC hDC hCf (fun vars' σ' => hf (x.comp scope cl C) rfl rfl P' Cs' rfl vars' σ') nb ?_ Sr.len _
      ⟨0, ρ, news3, σ, _, [], 0, oI, oC, [], ⟨Sx, .refl, mI3, nm (by simp), kI, (src.mono e13 : SrcOk x ρ news3 κ Sr), mD3, nm (by simp), rfl, mC3, nm (by simp), vC, cC, rfl, by simp, ?_⟩⟩
    · intro s' i ρ' news' σ' loc' vs nD oI' oC' done v hr h' S' E'
      have wI : ∀ c ∈ [I], c ∈ [I, D, C] := fun c h => by rw [List.mem_singleton] at h; subst h; simp
      have wD : ∀ c ∈ [D], c ∈ [I, D, C] := fun c h => by rw [List.mem_singleton] at h; subst h; simp
      have eT : Ext [I, D, C] ρ news ρ' (dropL I news') := (e3.nil.trans v.E).trans (E'.weak wI)
      have Sb : St x ρ' (dropL I news') σ' m loc vars s₀ { s' with heap := h' } := S.back S' (eT.strip fun a ha _ => old _ (lowN a ha))
      have hxD : x.ce.locals ≠ D := fun q => old _ lowL (by rw [q]; simp)
      obtain ⟨S5, E5, hg⟩ := Sb.adopt (mem_dropL.mpr ⟨v.mD, Ne.symm hID⟩) v.fD (LR.mono E' _ _ v.lr) (.inr hxD)
      refine k done σ' D C oC' ρ' (dropL I news') _ hr S5 ((eT.trans (E5.weak wD)).strip fun a ha _ => old _ (lowN a ha)) hg (mem_dropL.mpr ⟨v.mC, Ne.symm hIC⟩) ?_ v.vC v.cC (fun q => old _ lowL (by rw [q]; simp)) (fun a ha q => old _ (lowN a ha) (by rw [q]; simp)) ?_
      · rw [flatten_snoc, List.mem_append, List.mem_singleton]
        exact fun q => q.elim v.fC (Ne.symm hDC)
      · exact ⟨_, S'.ns⟩
    · cases compG f xn (compVars (fun y => scope.names.lookup y) vars) Sr Sr.len 0 σ <;> rfl
  exact G_compStart loop (.of (iter_self (S3.N.get mI3) kI loop))
end
end Mine
end
/-! part MiniP -/
section
open PySem PySem.W PySem.Calls PyProof.Rows Builtin
open Sem (wp)
namespace Mine
namespace BA
theorem owner_ba : Manifest.owners.lookup (String.ofList ['y', 'a', 'r', 'r', 'a', 'e', 't', 'y', 'b'].reverse) = some Manifest.sig_bytearray := by kernel_rfl
theorem slot_len : Slot "bytearray" "__len__" "bytearray.__len__" :=
  .of (owner := "bytearray") (n := "__len__") (by rw [typeLookup_type, builtinLookup_eq_fast]; kernel_rfl) (by decide +kernel) (by decide +kernel) (by decide +kernel)
    (by first | exact .inl (by decide +kernel) | exact .inr (by decide +kernel)) (by rw [isSubtype_type]; kernel_rfl)
theorem entry_len : entryFor table "bytearray.__len__" = some Builtin.«bytearray.__len__» := entryFor_of_tree (by kernel_rfl)
theorem args_len (a : Value) : argsOk "bytearray.__len__" ⟨[a], []⟩ := by
  unfold argsOk; rw [signature?_of (id := "bytearray.__len__") (n := ['_', '_', 'n', 'e', 'l', '_', '_']) (o := ['y', 'a', 'r', 'r', 'a', 'e', 't', 'y', 'b']) (by kernel_rfl) owner_ba]; kernel_rfl
theorem slot_getitem : Slot "bytearray" "__getitem__" "bytearray.__getitem__" :=
  .of (owner := "bytearray") (n := "__getitem__") (by rw [typeLookup_type, builtinLookup_eq_fast]; kernel_rfl) (by decide +kernel) (by decide +kernel) (by decide +kernel)
    (by first | exact .inl (by decide +kernel) | exact .inr (by decide +kernel)) (by rw [isSubtype_type]; kernel_rfl)
theorem entry_getitem : entryFor table "bytearray.__getitem__" = some Builtin.«bytearray.__getitem__» := entryFor_of_tree (by kernel_rfl)
theorem args_getitem (a b : Value) : argsOk "bytearray.__getitem__" ⟨[a, b], []⟩ := by
  unfold argsOk; rw [signature?_of (id := "bytearray.__getitem__") (n := ['_', '_', 'm', 'e', 't', 'i', 't', 'e', 'g', '_', '_']) (o := ['y', 'a', 'r', 'r', 'a', 'e', 't', 'y', 'b']) (by kernel_rfl) owner_ba]; kernel_rfl
theorem slot_setitem : Slot "bytearray" "__setitem__" "bytearray.__setitem__" :=
  .of (owner := "bytearray") (n := "__setitem__") (by rw [typeLookup_type, builtinLookup_eq_fast]; kernel_rfl) (by decide +kernel) (by decide +kernel) (by decide +kernel)
    (by first | exact .inl (by decide +kernel) | exact .inr (by decide +kernel)) (by rw [isSubtype_type]; kernel_rfl)
theorem entry_setitem : entryFor table "bytearray.__setitem__" = some Builtin.«bytearray.__setitem__» := entryFor_of_tree (by kernel_rfl)
theorem args_setitem (a b c : Value) : argsOk "bytearray.__setitem__" ⟨[a, b, c], []⟩ := by
  unfold argsOk; rw [signature?_of (id := "bytearray.__setitem__") (n := ['_', '_', 'm', 'e', 't', 'i', 't', 'e', 's', '_', '_']) (o := ['y', 'a', 'r', 'r', 'a', 'e', 't', 'y', 'b']) (by kernel_rfl) owner_ba]; kernel_rfl
theorem slot_init : Slot "bytearray" "__init__" "bytearray.__init__" :=
  .of (owner := "bytearray") (n := "__init__") (by rw [typeLookup_type, builtinLookup_eq_fast]; kernel_rfl) (by decide +kernel) (by decide +kernel) (by decide +kernel)
    (by first | exact .inl (by decide +kernel) | exact .inr (by decide +kernel)) (by rw [isSubtype_type]; kernel_rfl)
theorem entry_init : entryFor table "bytearray.__init__" = some Builtin.«bytearray.__init__» := entryFor_of_tree (by kernel_rfl)
theorem args_init (a b : Value) : argsOk "bytearray.__init__" ⟨[a, b], []⟩ := by
  unfold argsOk; rw [signature?_of (id := "bytearray.__init__") (n := ['_', '_', 't', 'i', 'n', 'i', '_', '_']) (o := ['y', 'a', 'r', 'r', 'a', 'e', 't', 'y', 'b']) (by kernel_rfl) owner_ba]; kernel_rfl
theorem mro : mroOf (.type "bytearray") = pure [.type "bytearray", .type "object"] := by rw [mroOf_type]; kernel_rfl
theorem lookup_new : typeLookup (.type "bytearray") "__new__" = pure (some (.builtin "bytearray.__new__")) := by rw [typeLookup_type, builtinLookup_eq_fast]; kernel_rfl
theorem called : TypeCalled "bytearray" "bytearray.__new__" "bytearray.__init__" :=
  ⟨by decide +kernel, by decide +kernel, ⟨_, _, mro⟩, madeBy_type mro lookup_new (by decide +kernel), by decide +kernel, by rw [isSubtype_type]; kernel_rfl, slot_init⟩
theorem typeCall (a : Value) : checkTypeCall "bytearray" ⟨[a], []⟩ = pure () := by kernel_rfl
theorem newCall (a : Value) : checkBuiltinCall "bytearray.__new__" ⟨[.type "bytearray", a], []⟩ = pure () := by kernel_rfl
theorem plain_new : plainId "bytearray.__new__" = true := by decide +kernel
theorem entry_new : entryFor table "bytearray.__new__" = some Builtin.«list.__new__» :=
  entryFor_alias (id' := "list.__new__") (by kernel_rfl) (by first | rfl | decide +kernel) (by decide +kernel) (by kernel_rfl)
theorem sub_self : isSubtype (.type "bytearray") (.type "bytearray") = pure true := by rw [isSubtype_type]; kernel_rfl
set_option maxRecDepth 1000000 in
set_option maxHeartbeats 4000000 in
theorem owner_new : ("bytearray.__new__".splitOn ".__new__").headD "" = "bytearray" := by simp +decide [String.splitOn, String.splitOnAux]
theorem bind1 (v : Value) : Builtin.Bytes.bindOptional "bytearray.__init__" "bytearray" ["source", "encoding", "errors"] [v] [] = pure [some v, none, none] := by kernel_rfl

section
variable {prog : Program} {w : World} {A : Around} {E : Value → Shared → Prop} {s : Shared}

theorem code_new (a : Value) {Q₁ : Value → Shared → Prop}
    (h : Q₁ (.ref s.heap.objs.size) { s with heap := s.heap.push (barrObj #[]) }) :
    codeAny (model prog w) A (.call (.builtin "bytearray.__new__") ⟨[.type "bytearray", a], []⟩) (wants Q₁ E) s := by
  refine codeAny_of_tree ?_
  show wpAny _ A.in1 (do checkBuiltinCall "bytearray.__new__" ⟨[.type "bytearray", a], []⟩; again (.builtin "bytearray.__new__" ⟨[.type "bytearray", a], []⟩)) _ _ s
  refine wpAny_bind (wpAny_of_eq (newCall a) (wpAny_pure ⟨plainId_quiet plain_new _, codeAny_builtin_stack entry_new rfl fun p st => ?_⟩))
  rw [Around.under_plainId plain_new _]
  have hsub := sub_self
  have hown := owner_new
  obtain ⟨hp, g, d, tk, os⟩ := s
  simp only [hown]
  wp_walk
  exact h

theorem G_callType {T newId initId : String} {Bi : Builtin} {args : List Value} {Q Q₁ : Value → Shared → Prop} (ft : TypeCalled T newId initId) (hn : noDec (.builtin "type.__call__" ⟨.type T :: args, []⟩) = true)
    (hni : ∀ a, noDec (.builtin initId a) = true) (hct : checkTypeCall T ⟨args, []⟩ = pure ()) (entryI : entryFor table initId = some Bi)
    (hnew : codeAny (model prog w) A.in1 (.call (.builtin newId) ⟨.type T :: args, []⟩) (wants Q₁ E) s)
    (hnext : ∀ obj s₁, Q₁ obj s₁ → s₁.TypeIs obj T ∧ argsOk initId ⟨obj :: args, []⟩ ∧
      wpG (model prog w) A.in1.in1 (Bi ⟨obj :: args, []⟩) (fun fin s' => fin = .done (.ret .none) ∧ Q obj s') E s₁) :
    wpG (model prog w) A (call (.type T) args) Q E s := by
  obtain ⟨c, tl, hmro⟩ := ft.mro
  have hmade := ft.made
  have hsub := ft.sub
  refine .call (codeG.tree rfl ?_)
  show wpG _ _ (callAny (.type T) _) _ _ _
  refine wpG.pure (a := Fin.again (.builtin "type.__call__" ⟨.type T :: args, []⟩)) ⟨Code.quiet_builtin _ (by decide +kernel), G_builtin hn F.entry_type_call ?_⟩
  rw [Around.under_plain (weight_type_call_type T args []) rfl]
  have h1 := ft.notType
  have h2 := ft.canCreate
  unfold Builtin.«type.__call__»
  dsimp only
  simp only [h1, Bool.false_eq_true, if_false]
  simp only [h2, Bool.false_eq_true, if_false]
  simp only [hct, hmro, hmade, pure_bind, List.isEmpty_cons, Bool.false_eq_true, if_false]
  refine .bind (.holding (.call (.of (codeAny_mono hnew fun r s₁ hr => ?_))))
  cases r with
  | error e => exact hr
  | ok fl =>
    cases fl with
    | ret obj =>
      obtain ⟨hT, hok, hsi⟩ := hnext _ _ hr
      refine .bind (.of (wpAny_isInstance hT hsub ?_))
      simp only [Bool.not_true, Bool.false_eq_true, if_false]
      refine .bind (.holding ?_)
      simp only [callSpecial?]
      refine .bind (.of (wpAny_specialOf hT ft.init.lookup ?_))
      dsimp only
      refine .holding ?_
      rw [ft.init.bind obj]
      refine .bind (.pure (.bind (.call (codeG.tree rfl ?_))))
      show wpG _ _ (checkBuiltinCall initId ⟨obj :: args, []⟩ >>= fun _ => again (.builtin initId ⟨obj :: args, []⟩)) _ _ _
      refine .bind (.of (ft.init.check _ _ _ _ _ _ _ _ hT hok ?_))
      refine wpG.pure (a := Fin.again (.builtin initId ⟨obj :: args, []⟩)) ⟨plainId_quiet ft.init.plain _, G_builtin (hni _) entryI ?_⟩
      rw [Around.under_plainId ft.init.plain _]
      refine wpG.mono hsi (fun fin s' h => ?_) fun _ _ e => e
      obtain ⟨rfl, hq⟩ := h
      exact .pure (.pure hq)
    | _ => exact hr.elim

theorem not_exported {q : Addr} (hg : A.guards = some []) {Q : Bool → Shared → Prop} (h : Q false s) : wpG (model prog w) A (Bytes.exported (.ref q)) Q E s := fun Γ p hΓ hc hb => by
  show Q (((Γ.code, p) :: Γ.below).any _) s
  have fin : ∀ (f : Code × Pos → Bool) (l : List (Code × Pos)), (∀ x ∈ l, f x = false) → Q (l.any f) s := fun f l hf => by
    rw [show l.any f = false from List.any_eq_false.mpr fun x hx => by rw [hf x hx]; exact Bool.false_ne_true]
    exact h
  refine fin _ _ ?_
  have hl : guardsOf ((Γ.code, p) :: Γ.below) = [] := by rw [guardsOf_cons]; exact hΓ.2.2.2.1 [] hg
  rintro ⟨c, pos⟩ hm
  have hng : c.isGuard = false := by
    cases e : c.isGuard with
    | false => rfl
    | true =>
      have : c ∈ guardsOf ((Γ.code, p) :: Γ.below) := List.mem_filter.mpr ⟨List.mem_map.mpr ⟨_, hm, rfl⟩, e⟩
      rw [hl] at this; cases this
  have hnd : noDec c = true := by
    rcases List.mem_cons.mp hm with e | hx
    · cases e; exact hc
    · exact hb _ hx
  have gd : ∀ i a, c = .builtin i a → guardIds.contains i = true → False := fun i a e k => by
    rw [e] at hng
    exact Bool.false_ne_true (hng.symm.trans k)
  split
  · rename_i e; cases e; exact (gd _ _ rfl (by decide +kernel)).elim
  · rename_i e; cases e; exact (gd _ _ rfl (by decide +kernel)).elim
  · rename_i e; cases e; exact (gd _ _ rfl (by decide +kernel)).elim
  · rename_i e; cases e; exact (gd _ _ rfl (by decide +kernel)).elim
  · rename_i e; cases e; exact (gd _ _ rfl (by decide +kernel)).elim
  · rename_i bid v _ _ _ _ _ _ _ _ e
    cases e
    have h1 : (!(Bytes.decodersThatHold.contains bid)) = true := hnd
    simp only [Bool.not_eq_true'] at h1
    rw [h1, Bool.and_false]
  · rfl

theorem look_release : typeLookup (.type "bytearray") "__release_buffer__" = pure (some (.builtin "bytearray.__release_buffer__")) := by rw [typeLookup_type, builtinLookup_eq_fast]; kernel_rfl
theorem look_index_bytes : typeLookup (.type "bytes") "__index__" = pure none := by rw [typeLookup_type, builtinLookup_eq_fast]; kernel_rfl
theorem own_release {v : Value} (hT : s.TypeIs v "bytearray") {Q : Bool → Shared → Prop} (h : Q false s) : wpAny (model prog w) A (Bytes.ownRelease v) Q E s := by
  unfold Bytes.ownRelease Bytes.slotIsOwn
  refine wpAny_bind (wpAny_bind (wpAny_specialOf hT look_release ?_))
  have key : ∀ x : String, x = "bytearray" → wpAny (model prog w) A (isInstance v (.type x)) (fun b s' => wpAny (model prog w) A (pure (!b)) Q E s') E s := fun x hx => by
    rw [hx]; exact wpAny_isInstance hT sub_self (wpAny_pure h)
  dsimp only
  split
  · rename_i hx
    exact absurd hx (by decide +kernel)
  · exact key _ (by decide +kernel)

theorem write_ok {q : Addr} {b : Array UInt8} {f : Array UInt8 → Array UInt8} {Q : Unit → Shared → Prop} (ho : s.heap.get? q = some (barrObj b)) (hz : (f b).size ≤ sizeLine)
    (h : ∀ h', Heap.SameBut q s.heap h' → h'.get? q = some (barrObj (f b)) → Q () { s with heap := h' }) : wpAny (model prog w) A (Bytes.write (.ref q) f) Q E s := by
  show wpAny _ _ (updateBytearray q f) _ _ _
  unfold updateBytearray
  refine wpAny_bind (wpAny_load ho ?_)
  show wpAny _ _ (update q (Obj.mapBytearray f) >>= fun _ => lookBehind q) _ _ _
  refine wpAny_bind (wpAny_update ho ?_)
  have h2 : (s.heap.update q (Obj.mapBytearray f)).get? q = some (barrObj (f b)) := Heap.get?_update_self (Obj.mapBytearray f) ho rfl
  refine wpAny_lookBehind h2 ?_ (h _ (Heap.SameBut.update ..) h2)
  show (if (f b).size > sizeLine then some "bytearray:memory" else none) = none
  rw [if_neg (Nat.not_lt.mpr hz)]

theorem payload_ba {q : Addr} {b : Array UInt8} {Q : Array UInt8 → Shared → Prop} (ho : s.heap.get? q = some (barrObj b)) (h : Q b s) : wpAny (model prog w) A (Bytes.payload (.ref q)) Q E s := by
  unfold Bytes.payload Bytes.payload?
  exact wpAny_bind (wpAny_bind (wpAny_load ho (wpAny_pure (wpAny_pure h))))

theorem G_if_false {α : Type} {M : Model} {c : Bool} {a b : Sem α} {Q : α → Shared → Prop} (hc : c = false) (h : wpG M A b Q E s) : wpG M A (if c = true then a else b) Q E s := by
  subst hc
  exact h
theorem G_if_true {α : Type} {M : Model} {c : Bool} {a b : Sem α} {Q : α → Shared → Prop} (hc : c = true) (h : wpG M A a Q E s) : wpG M A (if c = true then a else b) Q E s := by
  subst hc
  exact h

theorem init_bytes {q : Addr} {b : Array UInt8} {t : Tok} {Q : Shared → Prop} (hg : A.guards = some []) (ho : s.heap.get? q = some (barrObj #[])) (hz : b.size ≤ sizeLine) (h : ∀ h', Heap.SameBut q s.heap h' → h'.get? q = some (barrObj b) → Q { s with heap := h' }) :
    wpG (model prog w) A (Builtin.«bytearray.__init__» ⟨[.ref q, .bytes b t], []⟩) (fun fin s' => fin = .done (.ret .none) ∧ Q s') E s := by
  unfold Builtin.«bytearray.__init__»
  have hT : s.TypeIs (.ref q) "bytearray" := ⟨_, ho, rfl⟩
  refine .bind (.of (own_release hT ?_))
  refine G_if_false rfl ?_
  refine .bind (.of (wpAny_of_eq (bind1 _) ?_))
  refine .bind (.of (wpAny_of_eq (a := ()) rfl ?_))
  refine .bind (.of (wpAny_of_eq (a := ()) rfl ?_))
  refine .bind (.bind (not_exported hg ?_))
  show wpG _ _ (do return decide ((← Bytes.exportsOf (.ref q)) > 0)) _ _ _
  unfold Bytes.exportsOf
  refine .bind (.bind (.of (wpAny_load ho (wpG.pure (wpG.pure ?_)))))
  refine G_if_false (by decide) ?_
  refine .bind (.of (write_ok ho (Nat.zero_le _) fun h1 hs1 g1 => ?_))
  refine .bind (.of (wpAny_of_eq (a := none) rfl ?_))
  refine G_if_false rfl ?_
  refine .bind (.of (wpAny_of_eq (a := ()) rfl ?_))
  refine .bind (.of (wpAny_specialOf (typeIs_bytes _ b t) look_index_bytes ?_))
  refine G_if_false rfl ?_
  refine .bind (.of (wpAny_of_eq KBy.buffer_eq ?_))
  refine .bind (.rule (.bind (.of (write_ok g1 hz fun h2 hs2 g2 => ?_))))
  refine .of (wpAny_pure ⟨rfl, h h2 ⟨hs2.1.trans hs1.1, fun x hx => (hs2.2 x hx).trans (hs1.2 x hx)⟩ g2⟩)

theorem init_int {q : Addr} {n : Int} {t : Tok} {Q : Shared → Prop} (hg : A.guards = some []) (ho : s.heap.get? q = some (barrObj #[])) (h0 : 0 ≤ n) (hz : n.toNat ≤ sizeLine) (h : ∀ h', Heap.SameBut q s.heap h' → h'.get? q = some (barrObj (Array.replicate n.toNat 0)) → Q { s with heap := h' }) :
    wpG (model prog w) A (Builtin.«bytearray.__init__» ⟨[.ref q, .int n t], []⟩) (fun fin s' => fin = .done (.ret .none) ∧ Q s') E s := by
  unfold Builtin.«bytearray.__init__»
  have hT : s.TypeIs (.ref q) "bytearray" := ⟨_, ho, rfl⟩
  have hsl := sizeLine_eq
  refine .bind (.of (own_release hT ?_))
  refine G_if_false rfl ?_
  refine .bind (.of (wpAny_of_eq (bind1 _) ?_))
  refine .bind (.of (wpAny_of_eq (a := ()) rfl ?_))
  refine .bind (.of (wpAny_of_eq (a := ()) rfl ?_))
  refine .bind (.bind (not_exported hg ?_))
  show wpG _ _ (do return decide ((← Bytes.exportsOf (.ref q)) > 0)) _ _ _
  unfold Bytes.exportsOf
  refine .bind (.bind (.of (wpAny_load ho (wpG.pure (wpG.pure ?_)))))
  refine G_if_false (by decide) ?_
  refine .bind (.of (write_ok ho (Nat.zero_le _) fun h1 hs1 g1 => ?_))
  refine .bind (.of (wpAny_of_eq (a := none) rfl ?_))
  refine G_if_false rfl ?_
  refine .bind (.of (wpAny_of_eq (a := ()) rfl ?_))
  refine .bind (.of (wpAny_specialOf (T := "int") (typeIs_int _ _ _) F.slot_int_index.lookup ?_))
  refine G_if_true rfl ?_
  refine .bind (.attempt (.of (wpAny_of_eq (a := n) rfl ?_)))
  refine G_if_false ?_ ?_
  · simp only [Bytes.fitsIndex, Bool.not_eq_false', Bool.and_eq_true, decide_eq_true_eq]; omega
  show wpG _ _ (if n < 0 then _ else _) _ _ _
  rw [if_neg (by omega)]
  show wpG _ _ (if (n == 2 ^ 63 - 1) = true then _ else _) _ _ _
  refine G_if_false (by simp only [beq_eq_false_iff_ne]; omega) ?_
  refine G_if_false (by simp only [Bytes.tooLong, decide_eq_false_iff_not]; omega) ?_
  refine .bind (.rule ?_)
  show wpG _ _ (if n > 0 then _ else _) _ _ _
  by_cases hp : n > 0
  · rw [if_pos hp]
    refine .bind (.of (write_ok g1 (by rw [Array.size_replicate]; exact hz) fun h2 hs2 g2 => ?_))
    exact .of (wpAny_pure ⟨rfl, h h2 ⟨hs2.1.trans hs1.1, fun x hx => (hs2.2 x hx).trans (hs1.2 x hx)⟩ g2⟩)
  · rw [if_neg hp]
    have e : n.toNat = 0 := by omega
    refine .of (wpAny_pure ⟨rfl, h h1 hs1 ?_⟩)
    rw [e]; exact g1
end
end BA
end Mine
end
/-! part MiniQ -/
section
open PySem PySem.W PySem.Calls PyProof.Rows Builtin
open Sem (wp)
namespace Mine
namespace BA
theorem look_bytes_ba : typeLookup (.type "bytearray") "__bytes__" = pure none := by rw [typeLookup_type, builtinLookup_eq_fast]; kernel_rfl
theorem look_index_ba : typeLookup (.type "bytearray") "__index__" = pure none := by rw [typeLookup_type, builtinLookup_eq_fast]; kernel_rfl
theorem look_buffer_ba : typeLookup (.type "bytearray") "__buffer__" = pure (some (.builtin "bytearray.__buffer__")) := by rw [typeLookup_type, builtinLookup_eq_fast]; kernel_rfl
theorem look_bytes_int : typeLookup (.type "int") "__bytes__" = pure none := by rw [typeLookup_type, builtinLookup_eq_fast]; kernel_rfl
theorem look_bytes_tup : typeLookup (.type "tuple") "__bytes__" = pure none := by rw [typeLookup_type, builtinLookup_eq_fast]; kernel_rfl
theorem look_index_tup : typeLookup (.type "tuple") "__index__" = pure none := by rw [typeLookup_type, builtinLookup_eq_fast]; kernel_rfl
theorem look_buffer_tup : typeLookup (.type "tuple") "__buffer__" = pure none := by rw [typeLookup_type, builtinLookup_eq_fast]; kernel_rfl
theorem split_tup : splitId "tuple.__len__" = some ("tuple", "__len__") := by decide +kernel
theorem sub_tup : isSubtype (.type "tuple") (.type "tuple") = pure true := by rw [isSubtype_type]; kernel_rfl
section
variable {prog : Program} {w : World} {A : Around} {E : Value → Shared → Prop} {s : Shared}

theorem call_ba {v : Value} {b : Array UInt8} {Q : Value → Shared → Prop}
    (hi : ∀ s₁, s₁.heap.get? s.heap.objs.size = some (barrObj #[]) → ∀ Q' : Shared → Prop, (∀ h', Heap.SameBut s.heap.objs.size s₁.heap h' → h'.get? s.heap.objs.size = some (barrObj b) → Q' { s₁ with heap := h' }) →
      wpG (model prog w) A.in1.in1 (Builtin.«bytearray.__init__» ⟨[.ref s.heap.objs.size, v], []⟩) (fun fin s' => fin = .done (.ret .none) ∧ Q' s') E s₁)
    (h : ∀ h', (∀ x o, s.heap.get? x = some o → h'.get? x = some o) → h'.get? s.heap.objs.size = some (barrObj b) → Q (.ref s.heap.objs.size) { s with heap := h' }) : wpG (model prog w) A (call (.type "bytearray") [v]) Q E s := by
  refine G_callType (Q₁ := fun obj s₁ => obj = .ref s.heap.objs.size ∧ s₁ = { s with heap := s.heap.push (barrObj #[]) }) called (show (!(Bytes.decodersThatHold.contains "type.__call__")) = true by decide +kernel)
    (fun _ => show (!(Bytes.decodersThatHold.contains "bytearray.__init__")) = true by decide +kernel) (typeCall v) entry_init (code_new v ⟨rfl, rfl⟩) fun obj s₁ h₁ => ?_
  obtain ⟨rfl, rfl⟩ := h₁
  have g : (s.heap.push (barrObj #[])).get? s.heap.objs.size = some (barrObj #[]) := Heap.get?_push_size _ rfl
  have hT : ({ s with heap := s.heap.push (barrObj #[]) } : Shared).TypeIs (.ref s.heap.objs.size) "bytearray" := ⟨_, g, rfl⟩
  refine ⟨hT, args_init _ _, hi _ g _ fun h' hs h1 => h h' (fun x o e => ?_) h1⟩
  exact (hs.2 x (Nat.ne_of_lt (Heap.lt_size e))).trans (Heap.get?_push_of_some _ e)

theorem call_ba_bytes {b : Array UInt8} {t : Tok} {Q : Value → Shared → Prop} (hg : A.guards = some []) (hz : b.size ≤ sizeLine)
    (h : ∀ h', (∀ x o, s.heap.get? x = some o → h'.get? x = some o) → h'.get? s.heap.objs.size = some (barrObj b) → Q (.ref s.heap.objs.size) { s with heap := h' }) : wpG (model prog w) A (call (.type "bytearray") [.bytes b t]) Q E s :=
  call_ba (fun _ g _ k => init_bytes hg g hz k) h
theorem call_ba_int {n : Int} {t : Tok} {Q : Value → Shared → Prop} (hg : A.guards = some []) (h0 : 0 ≤ n) (hz : n.toNat ≤ sizeLine)
    (h : ∀ h', (∀ x o, s.heap.get? x = some o → h'.get? x = some o) → h'.get? s.heap.objs.size = some (barrObj (Array.replicate n.toNat 0)) → Q (.ref s.heap.objs.size) { s with heap := h' }) : wpG (model prog w) A (call (.type "bytearray") [.int n t]) Q E s :=
  call_ba (fun _ g _ k => init_int hg g h0 hz k) h

theorem len_ba {q : Addr} {b : Array UInt8} {Q : Value → Shared → Prop} (ho : s.heap.get? q = some (barrObj b)) (hz : b.size ≤ sizeLine) (h : ∀ k, Q (.int b.size k) { s with toks := s.toks + 1 + 1 }) : wpAny (model prog w) A (call (.builtin "len") [.ref q]) Q E s := by
  have hsl := sizeLine_eq
  have hT : s.TypeIs (.ref q) "bytearray" := ⟨_, ho, rfl⟩
  refine Calls.call_function_entry kind_len plain_len PySem.entry_len (args_len1 _) ?_
  unfold Builtin.«len»
  refine wpAny_bind (m := oneArg "len" _) (wpAny_pure ?_)
  refine wpAny_bind (m := callSpecial? (.ref q) (Str.ofString "__len__")) (wpAny_callSpecial?_slot (name := Str.ofString "__len__") hT slot_len (wpAny_call_entry slot_len hT BA.entry_len ?_ (BA.args_len _)))
  show wpAny _ _ (Bytes.payload (.ref q) >>= fun b => retInt b.size) _ _ s
  refine wpAny_bind (payload_ba ho ?_)
  refine wpAny_bind (wpAny_mkInt (wpAny_pure ⟨_, rfl, ?_⟩))
  refine wpAny_bind (wpAny_holding (wpAny_pure ?_))
  refine wpAny_bind (wpAny_letGo ?_)
  show wpAny _ _ (if (b.size : Int) < 0 then _ else _) _ _ _
  rw [if_neg (by omega)]
  show wpAny _ _ (if (b.size : Int) ≥ 2 ^ 63 then _ else _) _ _ _
  rw [if_neg (by omega)]
  exact wpAny_bind (wpAny_mkInt (wpAny_pure ⟨_, rfl, h _⟩))


theorem new_bytes_of {v : Value} {Q : Value → Shared → Prop} {s : Shared}
    (hn : wpAny (model prog w) A.in1.in1 (Builtin.«bytes.__new__» ⟨[.type "bytes", v], []⟩) (fun fin s' => match fin with | .done f => wants Q E (.ok f) s' | .again c' => c'.quiet = true ∧ codeAny (model prog w) A.in1 c' (wants Q E) s') (fun e s' => wants Q E (.error e) s') s) :
    codeAny (model prog w) A.in1 (.call (.builtin "bytes.__new__") ⟨[.type "bytes", v], []⟩) (wants Q E) s := by
  refine codeAny_of_tree ?_
  show wpAny _ _ (do checkBuiltinCall "bytes.__new__" ⟨[.type "bytes", v], []⟩; again (.builtin "bytes.__new__" ⟨[.type "bytes", v], []⟩)) _ _ s
  refine wpAny_bind (wpAny_of_eq (F.bm_newCall _) (wpAny_pure ⟨plainId_quiet F.bm_plain _, codeAny_builtin F.bm_entry ?_⟩))
  rw [Around.under_plainId F.bm_plain _]
  exact hn
theorem call_bytes_of {v : Value} {Q : Value → Shared → Prop}
    (hn : wpAny (model prog w) A.in1.in1 (Builtin.«bytes.__new__» ⟨[.type "bytes", v], []⟩) (fun fin s' => match fin with | .done f => wants (fun obj s₁ => s₁.TypeIs obj "bytes" ∧ Q obj s₁) E (.ok f) s' | .again c' => c'.quiet = true ∧ codeAny (model prog w) A.in1 c' (wants (fun obj s₁ => s₁.TypeIs obj "bytes" ∧ Q obj s₁) E) s')
      (fun e s' => wants (fun obj s₁ => s₁.TypeIs obj "bytes" ∧ Q obj s₁) E (.error e) s') s) : wpAny (model prog w) A (call (.type "bytes") [v]) Q E s := by
  refine callType_codes (Q₁ := fun obj s₁ => s₁.TypeIs obj "bytes" ∧ Q obj s₁) F.bm_called (F.bm_typeCall _) F.entry_object_init (new_bytes_of hn) fun obj s₁ h₁ => ?_
  exact ⟨h₁.1, F.args_object_init_2 obj _, object_init_meets F.bm_called.init.lookup F.bm_called.made (by decide) prog w A.in1 _ s₁ ⟨h₁.1, rfl, h₁.2⟩⟩

theorem call_bytes_int {n : Int} {t : Tok} {Q : Value → Shared → Prop} (h0 : 0 ≤ n) (hz : n.toNat ≤ sizeLine) (h : ∀ t' k, Q (.bytes (Array.replicate n.toNat 0) t') { s with toks := k }) :
    wpAny (model prog w) A (call (.type "bytes") [.int n t]) Q E s := by
  have hsl := sizeLine_eq
  refine call_bytes_of ?_
  unfold Builtin.«bytes.__new__»
  refine wpAny_bind (wpAny_of_eq (a := true) rfl ?_)
  refine PySem.bm_if_false rfl ?_
  refine wpAny_bind (wpAny_of_eq F.bm_sub ?_)
  refine PySem.bm_if_false rfl ?_
  refine wpAny_bind (wpAny_of_eq (F.bm_bind _) ?_)
  refine wpAny_bind (wpAny_of_eq (a := ()) rfl ?_)
  refine wpAny_bind (wpAny_of_eq (a := ()) rfl ?_)
  refine PySem.bm_if_false rfl ?_
  refine wpAny_bind (wpAny_specialOf (T := "int") (typeIs_int _ _ _) look_bytes_int ?_)
  refine wpAny_bind (wpAny_bind (wpAny_of_eq (a := none) rfl ?_))
  refine wpAny_pure ?_
  refine PySem.bm_if_false rfl ?_
  refine wpAny_bind (wpAny_specialOf (T := "int") (typeIs_int _ _ _) F.slot_int_index.lookup ?_)
  refine PySem.bm_if_false rfl ?_
  refine wpAny_bind (wpAny_attempt (wpAny_of_eq (a := n) rfl ?_))
  refine PySem.bm_if_false ?_ ?_
  · simp only [Bytes.fitsIndex, Bool.not_eq_false', Bool.and_eq_true, decide_eq_true_eq]; omega
  show wpAny _ _ (if n < 0 then _ else _) _ _ _
  rw [if_neg (by omega)]
  show wpAny _ _ (if n > 2 ^ 63 - 34 then _ else _) _ _ _
  rw [if_neg (by omega)]
  refine PySem.bm_if_false (by simp only [Bytes.tooLong, decide_eq_false_iff_not]; omega) ?_
  refine wpAny_bind (wpAny_rule (wpAny_bind (wpAny_mkBytes ?_ (by rw [Array.size_replicate]; exact hz))))
  show wpAny _ _ (if (Value.type "bytes" == Value.type "bytes") = true then _ else _) _ _ _
  refine PySem.bm_if_true (by decide) ?_
  have fin := And.intro (PySem.W.typeIs_bytes { s with toks := s.toks + 1 } (Array.replicate n.toNat 0) s.toks) (h s.toks (s.toks + 1))
  first
    | exact wpAny_pure fin
    | exact wpAny_bind (wpAny_pure (wpAny_pure fin))


theorem own_buffer_ba {v : Value} (hT : s.TypeIs v "bytearray") {Q : Bool → Shared → Prop} (h : Q true s) : wpAny (model prog w) A (Bytes.slotIsOwn v "__buffer__") Q E s := by
  unfold Bytes.slotIsOwn
  refine wpAny_bind (wpAny_specialOf hT look_buffer_ba ?_)
  have key : ∀ x : String, x = "bytearray" → wpAny (model prog w) A (isInstance v (.type x)) Q E s := fun x hx => by
    rw [hx]; exact wpAny_isInstance hT sub_self h
  dsimp only
  split
  · rename_i hx
    exact absurd hx (by decide +kernel)
  · exact key _ (by decide +kernel)
theorem buffer_ba {q : Addr} {b : Array UInt8} {i : String} {f : Bool} {Q : Option (Array UInt8) → Shared → Prop} (ho : s.heap.get? q = some (barrObj b)) (h : Q (some b) s) : wpAny (model prog w) A (Bytes.buffer? i (.ref q) f) Q E s := by
  have hT : s.TypeIs (.ref q) "bytearray" := ⟨_, ho, rfl⟩
  unfold Bytes.buffer?
  refine wpAny_bind (wpAny_specialOf hT look_buffer_ba ?_)
  refine wpAny_bind (own_buffer_ba hT ?_)
  refine PySem.bm_if_false rfl ?_
  refine wpAny_bind (wpAny_specialOf hT look_buffer_ba ?_)
  refine wpAny_bind (own_release hT ?_)
  refine PySem.bm_if_false rfl ?_
  exact wpAny_bind (payload_ba ho (wpAny_pure h))

theorem call_bytes_ba {q : Addr} {b : Array UInt8} {Q : Value → Shared → Prop} (ho : s.heap.get? q = some (barrObj b)) (hz : b.size ≤ sizeLine) (h : ∀ t' k, Q (.bytes b t') { s with toks := k }) :
    wpAny (model prog w) A (call (.type "bytes") [.ref q]) Q E s := by
  have hT : s.TypeIs (.ref q) "bytearray" := ⟨_, ho, rfl⟩
  refine call_bytes_of ?_
  unfold Builtin.«bytes.__new__»
  refine wpAny_bind (wpAny_of_eq (a := true) rfl ?_)
  refine PySem.bm_if_false rfl ?_
  refine wpAny_bind (wpAny_of_eq F.bm_sub ?_)
  refine PySem.bm_if_false rfl ?_
  refine wpAny_bind (wpAny_of_eq (F.bm_bind _) ?_)
  refine wpAny_bind (wpAny_of_eq (a := ()) rfl ?_)
  refine wpAny_bind (wpAny_of_eq (a := ()) rfl ?_)
  refine PySem.bm_if_false rfl ?_
  refine wpAny_bind (wpAny_specialOf hT look_bytes_ba ?_)
  refine wpAny_bind (wpAny_bind ?_)
  show wpAny _ _ (load q >>= _) _ _ _
  refine wpAny_bind (wpAny_load ho ?_)
  refine wpAny_pure (wpAny_pure ?_)
  refine PySem.bm_if_false rfl ?_
  refine wpAny_bind (wpAny_specialOf hT look_index_ba ?_)
  refine PySem.bm_if_true rfl ?_
  have fin := And.intro (PySem.W.typeIs_bytes { s with toks := s.toks + 1 } b s.toks) (h s.toks (s.toks + 1))
  first
    | show wpAny _ _ (Bytes.buffer? "bytes.__new__" (.ref q) true >>= _) _ _ _
    | (refine wpAny_bind ?_; show wpAny _ _ (Bytes.buffer? "bytes.__new__" (.ref q) true >>= _) _ _ _)
  refine wpAny_bind (buffer_ba ho ?_)
  refine wpAny_bind (wpAny_rule (wpAny_bind (wpAny_mkBytes ?_ hz)))
  show wpAny _ _ (if (Value.type "bytes" == Value.type "bytes") = true then _ else _) _ _ _
  refine PySem.bm_if_true (by decide) ?_
  first
    | exact wpAny_pure fin
    | exact wpAny_pure (wpAny_pure fin)
    | exact wpAny_bind (wpAny_pure (wpAny_pure fin))
    | exact wpAny_bind (wpAny_pure (wpAny_pure (wpAny_pure fin)))
    | exact wpAny_bind (wpAny_pure (wpAny_pure (wpAny_pure (wpAny_pure fin))))

/-- bytes((i,)) -/
theorem call_bytes_one {a : Addr} {n : Int} {t : Tok} {Q : Value → Shared → Prop} (hh : A.handled = none) (ho : s.heap.get? a = some (tupObj [.int n t])) (h0 : 0 ≤ n) (h1 : n < 256)
    (h : ∀ h' t' k, (∀ b o, s.heap.get? b = some o → h'.get? b = some o) → Q (.bytes #[n.toNat.toUInt8] t') { s with heap := h', toks := k }) : wpAny (model prog w) A (call (.type "bytes") [.ref a]) Q E s := by
  have hT : s.TypeIs (.ref a) "tuple" := ⟨_, ho, rfl⟩
  have hsl := sizeLine_eq
  refine call_bytes_of ?_
  unfold Builtin.«bytes.__new__»
  refine wpAny_bind (wpAny_of_eq (a := true) rfl ?_)
  refine PySem.bm_if_false rfl ?_
  refine wpAny_bind (wpAny_of_eq F.bm_sub ?_)
  refine PySem.bm_if_false rfl ?_
  refine wpAny_bind (wpAny_of_eq (F.bm_bind _) ?_)
  refine wpAny_bind (wpAny_of_eq (a := ()) rfl ?_)
  refine wpAny_bind (wpAny_of_eq (a := ()) rfl ?_)
  refine PySem.bm_if_false rfl ?_
  refine wpAny_bind (wpAny_specialOf hT look_bytes_tup ?_)
  refine wpAny_bind (wpAny_bind ?_)
  show wpAny _ _ (load a >>= _) _ _ _
  refine wpAny_bind (wpAny_load ho ?_)
  refine wpAny_pure (wpAny_pure ?_)
  refine PySem.bm_if_false rfl ?_
  refine wpAny_bind (wpAny_specialOf hT look_index_tup ?_)
  refine PySem.bm_if_true rfl ?_
  first
    | show wpAny _ _ (Bytes.buffer? "bytes.__new__" (.ref a) true >>= _) _ _ _
    | (refine wpAny_bind ?_; show wpAny _ _ (Bytes.buffer? "bytes.__new__" (.ref a) true >>= _) _ _ _)
  refine wpAny_bind ?_
  unfold Bytes.buffer?
  refine wpAny_bind (wpAny_specialOf hT look_buffer_tup ?_)
  refine wpAny_bind (wpAny_specialOf hT look_buffer_tup ?_)
  refine wpAny_pure ?_
  have ht : IsTup s.heap a #[Value.int n t] := ⟨_, ho, rfl, 0, rfl⟩
  refine wpAny_bind (wpAny_tryCatch (PyProof.Rows.iter_tuple ht ?_))
  have kp : ∀ b o, s.heap.get? b = some o → (s.heap.push { cls := .type "tuple_iterator", data := .fields #[.ref a, .int 0 0] }).get? b = some o := fun b o e => Heap.get?_push_of_some _ e
  have hT₁ : ({ s with heap := s.heap.push { cls := .type "tuple_iterator", data := .fields #[.ref a, .int 0 0] } } : Shared).TypeIs (.ref a) "tuple" := ⟨_, kp _ _ ho, rfl⟩
  refine wpAny_bind (wpAny_holding ?_)
  unfold Bytes.lengthHint
  refine wpAny_bind (wpAny_specialOf hT₁ slot_tuple_len.lookup ?_)
  dsimp only
  rw [split_tup]
  dsimp only
  refine wpAny_bind (wpAny_isInstance hT₁ sub_tup ?_)
  refine PySem.bm_if_false rfl ?_
  refine PySem.bm_if_true (by decide +kernel) ?_
  refine wpAny_pure ?_
  refine wpAny_bind ?_
  unfold Bytes.newBytearray
  refine wpAny_newObj_type ?_ (Nat.zero_le _)
  generalize hI : s.heap.objs.size = I
  have hh1 : (s.heap.push { cls := .type "tuple_iterator", data := .fields #[.ref a, .int 0 0] }).objs.size = I + 1 := by rw [Heap.size_push, hI]
  generalize hP : s.heap.push { cls := .type "tuple_iterator", data := .fields #[.ref a, .int 0 0] } = P at *
  have gI : P.get? I = some { cls := .type "tuple_iterator", data := .fields #[.ref a, .int 0 0] } := by rw [← hP, ← hI]; exact Heap.get?_push_size _ rfl
  rw [hh1]
  have main : codeAny (model prog w) A.in1 (.builtin "bytes.__new__.loop" ⟨[.type "bytes", .ref I, .ref (I + 1)], []⟩) (wants (fun obj s₁ => s₁.TypeIs obj "bytes" ∧ Q obj s₁) E) { s with heap := P.push (barrObj #[]) } := by
    have gS : (P.push (barrObj #[])).get? (I + 1) = some (barrObj #[]) := by rw [← hh1]; exact Heap.get?_push_size _ rfl
    have la : a < I := hI ▸ Heap.lt_size ho
    have nIS : I ≠ I + 1 := Nat.ne_of_lt (Nat.lt_succ_self I)
    have naI : a ≠ I := Nat.ne_of_lt la
    have naS : a ≠ I + 1 := Nat.ne_of_lt (Nat.lt_succ_of_lt la)
    have kp2 : ∀ b o, s.heap.get? b = some o → (P.push (barrObj #[])).get? b = some o := fun b o e => Heap.get?_push_of_some _ (kp b o e)
    have lo : ∀ b o, s.heap.get? b = some o → b ≠ I ∧ b ≠ I + 1 := fun b o e => ⟨Nat.ne_of_lt (hI ▸ Heap.lt_size e), Nat.ne_of_lt (Nat.lt_succ_of_lt (hI ▸ Heap.lt_size e))⟩
    refine codeAny_builtin F.bm_entry_loop ?_
    rw [Around.under_plainId F.bm_plain_loop _]
    show wpAny _ _ (pyNext (.ref I) >>= _) _ _ _
    have it0 : IsTupIter (P.push (barrObj #[])) I a 0 := ⟨_, Heap.get?_push_of_some _ gI, rfl, rfl⟩
    have tp0 : IsTup (P.push (barrObj #[])) a #[Value.int n t] := ⟨_, kp2 _ _ ho, rfl, 0, rfl⟩
    refine wpAny_bind (next_tuple_item (x := .int n t) it0 tp0 rfl fun h1' it1 hs1 => ?_)
    have gS1 : h1'.get? (I + 1) = some (barrObj #[]) := (hs1.2 _ (Ne.symm nIS)).trans gS
    refine wpAny_bind (wpAny_holding (wpAny_of_eq (rfl : asIndex (.int n t) = pure n) ?_))
    refine wpAny_bind (wpAny_letGo ?_)
    refine PySem.bm_if_false (by simp only [Bool.or_eq_false_iff, decide_eq_false_iff_not]; omega) ?_
    refine wpAny_bind (write_ok (f := (·.push n.toNat.toUInt8)) gS1 (by rw [hsl]; simp) fun h2' hs2 gS2 => ?_)
    refine wpAny_pure ⟨plainId_quiet F.bm_plain_loop _, codeAny_builtin F.bm_entry_loop ?_⟩
    rw [Around.under_plainId F.bm_plain_loop _]
    show wpAny _ _ (pyNext (.ref I) >>= _) _ _ _
    have it2 : IsTupIter h2' I a 1 := by
      obtain ⟨o, ho', hr⟩ := it1
      exact ⟨o, (hs2.2 _ nIS).trans ho', hr⟩
    have tp2 : IsTup h2' a #[Value.int n t] := ⟨_, (hs2.2 _ naS).trans ((hs1.2 _ naI).trans (kp2 _ _ ho)), rfl, 0, rfl⟩
    refine wpAny_bind (next_tuple_end hh it2 tp2 rfl fun h3' he3 => ?_)
    have gS3 : h3'.get? (I + 1) = some (barrObj #[n.toNat.toUInt8]) := he3 _ _ (Ne.symm nIS) gS2
    refine wpAny_bind (payload_ba gS3 ?_)
    refine wpAny_bind (wpAny_mkBytes ?_ (by rw [hsl]; simp))
    show wpAny _ _ (if (Value.type "bytes" == Value.type "bytes") = true then _ else _) _ _ _
    refine PySem.bm_if_true (by decide) ?_
    have fin := And.intro (PySem.W.typeIs_bytes { s with heap := h3', toks := s.toks + 1 } #[n.toNat.toUInt8] s.toks) (h h3' s.toks (s.toks + 1) fun b o e => he3 _ _ (lo b o e).1 ((hs2.2 _ (lo b o e).2).trans ((hs1.2 _ (lo b o e).1).trans (kp2 b o e))))
    first
      | exact wpAny_pure fin
      | exact wpAny_bind (wpAny_pure (wpAny_pure fin))
  first
    | exact wpAny_pure ⟨plainId_quiet F.bm_plain_loop _, main⟩
    | exact wpAny_pure (wpAny_pure ⟨plainId_quiet F.bm_plain_loop _, main⟩)
end
end BA
end Mine
end
/-! part MiniR -/
section
open PySem PySem.W PySem.Calls PyProof.Rows Builtin
open Sem (wp)
namespace Mine
namespace BA
theorem look_int_bytes : typeLookup (.type "bytes") "__int__" = pure none := by rw [typeLookup_type, builtinLookup_eq_fast]; kernel_rfl
theorem look_float_bytes : typeLookup (.type "bytes") "__float__" = pure none := by rw [typeLookup_type, builtinLookup_eq_fast]; kernel_rfl
theorem sub_bytes_complex : isSubtype (.type "bytes") (.type "complex") = pure false := by rw [isSubtype_type]; kernel_rfl
theorem sub_bytes_ba : isSubtype (.type "bytes") (.type "bytearray") = pure false := by rw [isSubtype_type]; kernel_rfl
section
variable {prog : Program} {w : World} {A : Around} {E : Value → Shared → Prop} {s : Shared}

theorem parts_ok {a : Addr} {l u : Value} {lo hi : Option Int} {Q : Value × Value × Value → Shared → Prop} (hs : s.heap.IsSliceOf a l u .none) (hl : IsPart l lo) (hu : IsPart u hi) (h : Q (rawPart lo, rawPart hi, rawPart none) s) :
    wpAny (model prog w) A (Bytes.sliceParts (.ref a)) Q E s := by
  obtain ⟨o, ho, hc, hd⟩ := hs
  unfold Bytes.sliceParts
  refine wpAny_bind (wpAny_field (x := .none) ho hd rfl ?_)
  kby_none
  refine wpAny_ite (KBy.ite_no (show ¬ ((Value.none == rawInt 0) = true) from Bool.false_ne_true) ?_)
  refine wpAny_bind (wpAny_field (x := l) ho hd rfl ?_)
  cases hl <;> cases hu <;> (first
    | (kby_none; (refine wpAny_bind (wpAny_field (x := .none) ho hd rfl ?_)); kby_none)
    | (kby_none; (refine wpAny_bind (wpAny_field (x := .int _ _) ho hd rfl ?_)); kby_int)
    | (kby_int; (refine wpAny_bind (wpAny_field (x := .none) ho hd rfl ?_)); kby_none)
    | (kby_int; (refine wpAny_bind (wpAny_field (x := .int _ _) ho hd rfl ?_)); kby_int)) <;> exact wpAny_pure h

theorem no_sub {a : Addr} {l u v : Value} {Q : Option Int → Shared → Prop} (hs : s.heap.IsSliceOf a l u v) (h : Q none s) : wpAny (model prog w) A (Bytes.subscript? (.ref a)) Q E s := by
  obtain ⟨o, ho, hc, hd⟩ := hs
  have hT : s.TypeIs (.ref a) "slice" := ⟨o, ho, hc⟩
  unfold Bytes.subscript?
  exact wpAny_bind (wpAny_specialOf hT slice_no_index (wpAny_pure h))

theorem indices_ok {lo hi : Option Int} {n : Nat} {Q : Int × Int × Int → Shared → Prop} (h : Q (sliceBounds lo hi none n) s) : wpAny (model prog w) A (sliceIndices (rawPart lo) (rawPart hi) (rawPart none) n) Q E s :=
  wpAny_of_eq (sliceIndices_raw lo hi none n (fun e => nomatch e)) h

theorem get_slice {q a : Addr} {b : Array UInt8} {l u : Value} {lo hi : Option Int} {Q : Value → Shared → Prop} (ho : s.heap.get? q = some (barrObj b)) (hs : s.heap.IsSliceOf a l u .none) (hl : IsPart l lo) (hu : IsPart u hi) (hz : b.size ≤ sizeLine)
    (h : Q (.ref s.heap.objs.size) { s with heap := s.heap.push (barrObj (KBy.picked b lo hi)) }) : wpAny (model prog w) A (getItem (.ref q) (.ref a)) Q E s := by
  have hT : s.TypeIs (.ref q) "bytearray" := ⟨_, ho, rfl⟩
  have hTs : s.TypeIs (.ref a) "slice" := let ⟨o, h1, h2, _⟩ := hs; ⟨o, h1, h2⟩
  refine wpAny_getItem_slot hT (by decide) slot_getitem (wpAny_call_entry slot_getitem hT entry_getitem ?_ (args_getitem _ _))
  unfold Builtin.«bytearray.__getitem__»
  refine wpAny_bind (wpAny_of_eq (a := (Value.ref q, [Value.ref a])) rfl ?_)
  refine wpAny_bind (no_sub hs ?_)
  refine wpAny_bind (wpAny_typeOf hTs ?_)
  refine PySem.bm_if_false rfl ?_
  refine wpAny_bind (parts_ok hs hl hu ?_)
  refine wpAny_bind (payload_ba ho ?_)
  refine wpAny_bind (indices_ok ?_)
  refine wpAny_bind ?_
  unfold Bytes.newBytearray
  refine wpAny_newObj_type ?_ (Nat.le_trans (KBc.size_picked_le b lo hi) hz)
  exact wpAny_pure ⟨_, rfl, h⟩

theorem resize_ok {q : Addr} {b : Array UInt8} {Q : Unit → Shared → Prop} (hg : A.guards = some []) (ho : s.heap.get? q = some (barrObj b)) (h : Q () s) : wpG (model prog w) A (Bytes.checkResize (.ref q)) Q E s := by
  unfold Bytes.checkResize
  refine .bind (.bind (not_exported hg ?_))
  show wpG _ _ (do return decide ((← Bytes.exportsOf (.ref q)) > 0)) _ _ _
  unfold Bytes.exportsOf
  refine .bind (.bind (.of (wpAny_load ho (wpG.pure (wpG.pure ?_)))))
  exact G_if_false (by decide) (.pure h)

theorem G_setItem {T i : String} {B : Builtin} {o k v : Value} {Q : Unit → Shared → Prop} (hT : s.TypeIs o T) (hn : seqItemTypes.contains T = false) (slot : Slot T "__setitem__" i) (hnd : ∀ a, noDec (.builtin i a) = true) (entry : entryFor table i = some B) (args : argsOk i ⟨[o, k, v], []⟩)
    (h : wpG (model prog w) A.in1 (B ⟨[o, k, v], []⟩) (fun fin s' => fin = .done (.ret .none) ∧ Q () s') E s) : wpG (model prog w) A (setItem o k v) Q E s := by
  unfold setItem
  refine .holding (.bind (.of (wpAny_sequenceKey hT hn ?_)))
  refine .bind ?_
  simp only [callSpecial?]
  refine .bind (.of (wpAny_specialOf hT slot.lookup ?_))
  dsimp only
  refine .holding ?_
  rw [slot.bind o]
  refine .bind (.pure (.bind (.call (codeG.tree rfl ?_))))
  show wpG _ _ (checkBuiltinCall i ⟨[o, k, v], []⟩ >>= fun _ => again (.builtin i ⟨[o, k, v], []⟩)) _ _ _
  refine .bind (.of (slot.check _ _ _ _ _ _ _ _ hT args ?_))
  refine wpG.pure (a := Fin.again (.builtin i ⟨[o, k, v], []⟩)) ⟨plainId_quiet slot.plain _, G_builtin (hnd _) entry ?_⟩
  rw [Around.under_plainId slot.plain _]
  refine wpG.mono h (fun fin s' h => ?_) fun _ _ e => e
  obtain ⟨rfl, hq⟩ := h
  exact .pure (.pure hq)

theorem hnd_setitem (a : Args) : noDec (.builtin "bytearray.__setitem__" a) = true := show (!(Bytes.decodersThatHold.contains "bytearray.__setitem__")) = true by decide +kernel

theorem set_index {q : Addr} {b : Array UInt8} {k n : Int} {t u : Tok} {Q : Unit → Shared → Prop} (ho : s.heap.get? q = some (barrObj b)) (h0 : 0 ≤ k) (hk : k < 2 ^ 63) (hl : k.toNat < b.size) (n0 : 0 ≤ n) (n1 : n < 256) (hz : b.size ≤ sizeLine)
    (h : ∀ h', Heap.SameBut q s.heap h' → h'.get? q = some (barrObj (b.setIfInBounds k.toNat n.toNat.toUInt8)) → Q () { s with heap := h' }) : wpG (model prog w) A (setItem (.ref q) (.int k t) (.int n u)) Q E s := by
  have hT : s.TypeIs (.ref q) "bytearray" := ⟨_, ho, rfl⟩
  refine G_setItem hT (by decide) slot_setitem hnd_setitem entry_setitem (args_setitem _ _ _) (.of ?_)
  unfold Builtin.«bytearray.__setitem__»
  refine PySem.bm_if_false rfl ?_
  refine wpAny_bind ?_
  unfold Bytes.subscript?
  refine wpAny_bind (wpAny_specialOf (T := "int") (typeIs_int _ _ _) F.slot_int_index.lookup ?_)
  refine PySem.bm_if_false rfl ?_
  refine wpAny_bind (wpAny_of_eq (rfl : asIndex (.int k t) = pure k) ?_)
  refine PySem.bm_if_false ?_ ?_
  · simp only [Bytes.fitsIndex, Bool.not_eq_false', Bool.and_eq_true, decide_eq_true_eq]; omega
  refine wpAny_pure ?_
  refine wpAny_bind ?_
  unfold Bytes.byteValue
  refine wpAny_bind (wpAny_of_eq (rfl : asIndex (.int n u) = pure n) ?_)
  refine PySem.bm_if_false (by simp only [Bool.or_eq_false_iff, decide_eq_false_iff_not]; omega) ?_
  refine wpAny_pure ?_
  refine wpAny_bind (payload_ba ho ?_)
  rw [seqIdx h0 hl]
  refine wpAny_bind (write_ok ho (by rw [Array.size_setIfInBounds]; exact hz) fun h' hs g => ?_)
  exact wpAny_pure ⟨rfl, h h' hs g⟩

theorem set_slice_end {q : Addr} {b c : Array UInt8} {lo hi : Int} {Q : Shared → Prop} (hg : A.guards = some []) (ho : s.heap.get? q = some (barrObj b)) (h0 : 0 ≤ lo) (h1 : 0 ≤ hi) (hz : (splicedB b c lo hi).size ≤ sizeLine)
    (h : ∀ h', Heap.SameBut q s.heap h' → h'.get? q = some (barrObj (splicedB b c lo hi)) → Q { s with heap := h' })
    {t : Int × Int × Int → Sem Fin} (ht : ∀ x y, t (x, y, 1) = (do
      rule "bytearray.__setitem__.slice"
      if (c.size : Int) != max x y - x then Bytes.checkResize (.ref q)
      Bytes.write (.ref q) fun b => b.extract 0 x.toNat ++ c ++ b.extract (max x y).toNat b.size
      ret .none)) :
    wpG (model prog w) A (sliceIndices (rawPart (some lo)) (rawPart (some hi)) (rawPart none) b.size >>= t) (fun fin s' => fin = .done (.ret .none) ∧ Q s') E s := by
  refine .bind (.of (indices_ok ?_))
  rw [sliceBounds_plain]
  show wpG _ _ (t (((clipAt b.size lo : Nat) : Int), ((clipAt b.size hi : Nat) : Int), 1)) _ _ _
  obtain ⟨l, rfl⟩ := Int.eq_ofNat_of_zero_le h0
  obtain ⟨u, rfl⟩ := Int.eq_ofNat_of_zero_le h1
  rw [clipAt_nat, clipAt_nat, ht]
  have e1 : ((min l b.size : Nat) : Int).toNat = min (l : Int).toNat b.size := by omega
  have e2 : (max ((min l b.size : Nat) : Int) ((min u b.size : Nat) : Int)).toNat = max (min (l : Int).toNat b.size) (min (u : Int).toNat b.size) := by omega
  have key : wpG (model prog w) A (do
      Bytes.write (.ref q) fun z => z.extract 0 ((min l b.size : Nat) : Int).toNat ++ c ++ z.extract (max ((min l b.size : Nat) : Int) ((min u b.size : Nat) : Int)).toNat z.size
      ret .none) (fun fin s' => fin = .done (.ret .none) ∧ Q s') E s := by
    have ef : b.extract 0 ((min l b.size : Nat) : Int).toNat ++ c ++ b.extract (max ((min l b.size : Nat) : Int) ((min u b.size : Nat) : Int)).toNat b.size = splicedB b c l u := by
      unfold splicedB; rw [e1, e2]
    refine .bind (.of (write_ok ho (by rw [ef]; exact hz) fun h' hs g => ?_))
    rw [ef] at g
    exact .of (wpAny_pure ⟨rfl, h h' hs g⟩)
  refine .bind (.rule ?_)
  show wpG _ _ (if ((c.size : Int) != max ((min l b.size : Nat) : Int) ((min u b.size : Nat) : Int) - ((min l b.size : Nat) : Int)) = true then _ else _) _ _ _
  split
  · exact .bind (resize_ok hg ho key)
  · exact key

/-- the slice of a bytearray set to a bytearray's octets -/
theorem set_slice_ba {q a r : Addr} {b c : Array UInt8} {lo hi : Int} {l u : Value} {Q : Unit → Shared → Prop} (hg : A.guards = some []) (ho : s.heap.get? q = some (barrObj b)) (hr : s.heap.get? r = some (barrObj c)) (hne : q ≠ r) (hs : s.heap.IsSliceOf a l u .none) (pl : IsPart l (some lo)) (pu : IsPart u (some hi))
    (h0 : 0 ≤ lo) (h1 : 0 ≤ hi) (hz : (splicedB b c lo hi).size ≤ sizeLine)
    (h : ∀ h', Heap.SameBut q s.heap h' → h'.get? q = some (barrObj (splicedB b c lo hi)) → Q () { s with heap := h' }) : wpG (model prog w) A (setItem (.ref q) (.ref a) (.ref r)) Q E s := by
  have hT : s.TypeIs (.ref q) "bytearray" := ⟨_, ho, rfl⟩
  have hTr : s.TypeIs (.ref r) "bytearray" := ⟨_, hr, rfl⟩
  have hTs : s.TypeIs (.ref a) "slice" := let ⟨o, h1, h2, _⟩ := hs; ⟨o, h1, h2⟩
  refine G_setItem hT (by decide) slot_setitem hnd_setitem entry_setitem (args_setitem _ _ _) ?_
  unfold Builtin.«bytearray.__setitem__»
  refine G_if_false rfl ?_
  refine .bind (.of (no_sub hs ?_))
  refine .bind (.of (wpAny_typeOf hTs ?_))
  refine G_if_false rfl ?_
  refine .bind (.of (parts_ok hs pl pu ?_))
  have hb : (q == r) = false := by simpa using hne
  refine G_if_false hb ?_
  refine .bind (.of (wpAny_isInstance hTr sub_self ?_))
  refine G_if_false rfl ?_
  refine .bind (.of (payload_ba hr ?_))
  refine .bind (.of (payload_ba ho ?_))
  refine set_slice_end (A := A.in1) (Q := Q ()) hg ho h0 h1 hz h ?_
  intro x y; rfl

theorem set_slice_bytes {q a : Addr} {b c : Array UInt8} {t : Tok} {lo hi : Int} {l u : Value} {Q : Unit → Shared → Prop} (hg : A.guards = some []) (ho : s.heap.get? q = some (barrObj b)) (hs : s.heap.IsSliceOf a l u .none) (pl : IsPart l (some lo)) (pu : IsPart u (some hi))
    (h0 : 0 ≤ lo) (h1 : 0 ≤ hi) (hc : c.size ≤ sizeLine) (hz : (splicedB b c lo hi).size ≤ sizeLine)
    (h : ∀ h' o, (∀ x o, x ≠ q → s.heap.get? x = some o → h'.get? x = some o) → h'.get? q = some (barrObj (splicedB b c lo hi)) → h'.get? s.heap.objs.size = some o → Q () { s with heap := h' }) : wpG (model prog w) A (setItem (.ref q) (.ref a) (.bytes c t)) Q E s := by
  have hT : s.TypeIs (.ref q) "bytearray" := ⟨_, ho, rfl⟩
  have hTs : s.TypeIs (.ref a) "slice" := let ⟨o, h1, h2, _⟩ := hs; ⟨o, h1, h2⟩
  refine G_setItem hT (by decide) slot_setitem hnd_setitem entry_setitem (args_setitem _ _ _) ?_
  unfold Builtin.«bytearray.__setitem__»
  refine G_if_false rfl ?_
  refine .bind (.of (no_sub hs ?_))
  refine .bind (.of (wpAny_typeOf hTs ?_))
  refine G_if_false rfl ?_
  refine .bind (.of (parts_ok hs pl pu ?_))
  refine G_if_false rfl ?_
  refine .bind (.of (wpAny_isInstance (T := "bytes") (typeIs_bytes _ c t) sub_bytes_ba ?_))
  refine G_if_true rfl ?_
  refine .bind ?_
  refine .bind (.bind (.of (wpAny_specialOf (typeIs_bytes _ c t) look_index_bytes (wpG.pure ?_))))
  refine .bind (.bind (.of (wpAny_specialOf (typeIs_bytes _ c t) look_int_bytes (wpG.pure ?_))))
  refine .bind (.bind (.of (wpAny_specialOf (typeIs_bytes _ c t) look_float_bytes (wpG.pure ?_))))
  refine .of (wpAny_isInstance (T := "bytes") (typeIs_bytes _ c t) sub_bytes_complex ?_)
  refine .bind (.of (wpAny_of_eq (a := none) rfl ?_))
  refine G_if_false rfl ?_
  refine .bind (.rule (.bind (call_ba_bytes hg hc fun h2 k2 g2 => ?_)))
  have hs2 : h2.IsSliceOf a l u .none := let ⟨o, h1, h3⟩ := hs; ⟨o, k2 _ _ h1, h3⟩
  refine .bind (.holding (.of (parts_ok (s := { s with heap := h2 }) hs2 pl pu ?_)))
  refine .bind (.of (payload_ba (s := { s with heap := h2 }) g2 ?_))
  refine .bind (.of (payload_ba (s := { s with heap := h2 }) (k2 _ _ ho) ?_))
  refine set_slice_end (A := A.in1) (s := { s with heap := h2 }) (Q := Q ()) hg (k2 _ _ ho) h0 h1 hz (fun h3 hs3 g3 => ?_) ?hk
  case hk => intro x y; rfl
  have nq : s.heap.objs.size ≠ q := Ne.symm (Nat.ne_of_lt (Heap.lt_size ho))
  exact h h3 _ (fun x o hx e => (hs3.2 x hx).trans (k2 _ _ e)) g3 ((hs3.2 _ nq).trans g2)
end
end BA
end Mine
end
/-! part MiniS -/
section
open PySem PySem.W PySem.Calls PyProof.Rows
namespace Mine
variable {prog : Program} {w : World} {p : Program} {loose : List Str} {mean : ExcName → Option Value} {mg mb : Str → Option Value}
section
variable {x : Fx} {ρ : Foot} {news : Led} {σ : PH} {m loc : Str → Option Value} {vars : Vars} {s₀ s : Shared}

abbrev sliceObj (l u t : Value) : Obj := { cls := .type "slice", data := .fields #[l, u, t] }

theorem subS_ok (P : x.Pre p loose mean mg mb) (S : St x ρ news σ m loc vars s₀ s) {a : PV} {va l u t : Value} {lo hi st : Option Int} (ha : VR x.sA ρ news a va) (hl : IsPart l lo) (hu : IsPart u hi) (ht : IsPart t st) (nb : subS x.W σ a lo hi st ≠ .bad)
    {value : Expr} {le he se : Option Expr} {pos : Pos} : wpAny (model prog w) x.A (subscriptTail value (.Slice le he se pos) va (.ref s.heap.objs.size)) (QF x (VRel x.sA) ρ news m loc vars s₀ (subS x.W σ a lo hi st)) (EF x ρ news vars s₀ (subS x.W σ a lo hi st)) { s with heap := s.heap.push (sliceObj l u t) } := by
  have k1 : ∀ b o, s.heap.get? b = some o → (s.heap.push (sliceObj l u t)).get? b = some o := fun b o e => Heap.get?_push_of_some _ e
  have S1 := S.junk (tk := s.toks) k1 (Nat.le_refl _) (Heap.get?_push_size _ rfl)
  have e1 : Ext [] ρ news ρ ([(s.heap.objs.size, sliceObj l u t)] ++ news) := .junk
  have isl : (s.heap.push (sliceObj l u t)).IsSliceOf s.heap.objs.size l u t := Heap.IsSliceOf.new _ _ _ _
  have ops : ∃ ops, subscripted (.Slice le he se pos) false va (.ref s.heap.objs.size) = operate ops (getItem va (.ref s.heap.objs.size)) := by
    cases se with
    | none => exact ⟨[.ref s.heap.objs.size, va], rfl⟩
    | some e => exact ⟨[va, .ref s.heap.objs.size], rfl⟩
  obtain ⟨ops, hops⟩ := ops
  have lists : ∀ {lst : Addr} {ps : List PV} {vs : List Value}, va = .ref lst → s.heap.IsList lst vs.toArray → LR x.sA ρ news ps vs → st ≠ some 0 → sizeOk ps.length = true →
      wpAny (model prog w) x.A (subscriptTail value (.Slice le he se pos) va (.ref s.heap.objs.size)) (QF x (VRel x.sA) ρ news m loc vars s₀ (.ok (.obj σ.length) (σ ++ [.list (pick ps lo hi st)]))) (EF x ρ news vars s₀ (subS x.W σ a lo hi st)) { s with heap := s.heap.push (sliceObj l u t) } := by
    intro lst ps vs hva il lr h0 hz
    subst hva
    have hz := of_decide_eq_true hz
    refine tail_any (T := "list") (il.push _).typeIs slot_list_getitem.lookup (wpAny_getItem_list_slice (il.push _) isl hl hu ht h0 ?_ (by rw [List.size_toArray, ← lr.length]; exact hz)) hops
    have lr2 := pick_lr (LR.mono e1 _ _ lr) lo hi st
    have hn : ∀ q ∈ ([(s.heap.objs.size, sliceObj l u t)] ++ news : Led), q.1 ∉ [(s.heap.push (sliceObj l u t)).objs.size] := fun q hq hm => by
      rw [List.mem_singleton] at hm
      exact absurd (hm ▸ S1.low hq) (Nat.lt_irrefl _)
    obtain ⟨S2, e2, r2⟩ := S1.alloc (tk := s.toks) (a := (s.heap.push (sliceObj l u t)).objs.size) (o := listOf (slicePick vs.toArray lo hi st) 0) (po := .list (pick ps lo hi st)) (fun b o e => Heap.get?_push_of_some _ e) (Nat.le_refl _) (Heap.get?_push_size _ rfl)
      ⟨_, (slicePick vs.toArray lo hi st).toList, 0, rfl, by simp, LR.mono (.alloc (cs := []) (new := [_]) hn) _ _ lr2⟩
    exact .of S2 (e1.trans e2) ⟨_, [], rfl, r2⟩
  unfold subS at nb ⊢
  split at nb
  · split at nb
    · rename_i xs h1
      obtain ⟨hz, he⟩ := if_bad nb
      rw [he]
      obtain ⟨lst, vs, n, rfl, _, _, lr, il⟩ := list_at S h1 ha
      exact wpAny_mono (lists rfl il lr hz.1 hz.2) (fun _ _ q => q) fun _ _ q => (EF.no q).elim
    · rename_i b h1
      obtain ⟨hz, he⟩ := if_bad nb
      rw [he]
      obtain ⟨q, rfl, hr, hm, hg⟩ := barr_at S h1 ha
      have hst : st = none := hz.1
      subst hst
      cases ht
      have hz := of_decide_eq_true hz.2
      have hT : ({ s with heap := s.heap.push (sliceObj l u .none) } : Shared).TypeIs (.ref q) "bytearray" := ⟨_, k1 _ _ hg, rfl⟩
      refine tail_any (T := "bytearray") hT BA.slot_getitem.lookup (BA.get_slice (k1 _ _ hg) isl hl hu hz ?_) hops
      obtain ⟨S2, e2, r2⟩ := S1.alloc (tk := s.toks) (a := (s.heap.push (sliceObj l u .none)).objs.size) (o := barrObj (KBy.picked b lo hi)) (po := .barr (KBy.picked b lo hi)) (fun b o e => Heap.get?_push_of_some _ e) (Nat.le_refl _) (Heap.get?_push_size _ rfl) ⟨_, rfl, by simp⟩
      exact .of S2 (e1.trans e2) ⟨_, [], rfl, r2⟩
    · exact absurd rfl nb
  · obtain ⟨hz, he⟩ := if_bad nb
    rw [he]
    obtain ⟨vs, h1, h2⟩ := scr_at P S
    rw [← pick_map]
    cases ha
    exact wpAny_mono (lists rfl h1 (ints_lr h2) hz.1 (by rw [List.length_map]; exact hz.2)) (fun _ _ q => q) fun _ _ q => (EF.no q).elim
  · rename_i b
    obtain ⟨hz, he⟩ := if_bad nb
    rw [he]
    obtain ⟨tk, rfl⟩ := ha
    have hst : st = none := hz.1
    subst hst
    cases ht
    have hz := of_decide_eq_true hz.2
    have hT : ({ s with heap := s.heap.push (sliceObj l u .none) } : Shared).TypeIs (.bytes b tk) "bytes" := typeIs_bytes _ _ _
    refine tail_any (T := "bytes") hT FB.slot_bytes_getitem.lookup (getItem_meets hT (by decide) FB.slot_bytes_getitem FB.entry_bytes_getitem (FB.args_bytes_getitem_2 _ _) (KBc.meets_slice2 b tk _ hl hu)
      ⟨isl, Nat.le_trans (KBc.size_picked_le b lo hi) hz, fun t' k => ?_⟩) hops
    have S2 := S1.tok (tk := k)
    exact .of S2 e1 ⟨t', rfl⟩
  · exact absurd rfl nb

theorem mapSeq_list (f : Array Value → Array Value) (its : Array Value) (n : Nat) : ∃ n', Obj.mapSeq f (listOf its n) = listOf (f its) n' := by
  unfold Obj.mapSeq
  exact ⟨_, rfl⟩
theorem LR.set {sA : Addr} {v : PV} {vv : Value} (hv : VR sA ρ news v vv) : ∀ {ps : List PV} {vs : List Value} {i : Nat}, LR sA ρ news ps vs → LR sA ρ news (ps.set i v) (vs.set i vv)
  | [], _, _, h => by cases h; exact rfl
  | q :: r, _, 0, ⟨u, us, e, h1, h2⟩ => by subst e; exact ⟨vv, us, rfl, hv, h2⟩
  | q :: r, _, i + 1, ⟨u, us, e, h1, h2⟩ => by subst e; exact ⟨u, us.set i vv, rfl, h1, LR.set hv h2⟩

theorem setI_ok (P : x.Pre p loose mean mg mb) (S : St x ρ news σ m loc vars s₀ s) {a v : PV} {va vv : Value} {i : Int} {t : Tok} {σ' : PH} (ha : VR x.sA ρ news a va) (hv : VR x.sA ρ news v vv) (h : setI σ a i v = some σ') {E : Value → Shared → Prop} {Q : Unit → Shared → Prop}
    (q : ∀ ρ' news' h', St x ρ' news' σ' m loc vars s₀ { s with heap := h' } → Ext [] ρ news ρ' news' → Q () { s with heap := h' }) : wpG (model prog w) x.A (setItem va (.int i t) vv) Q E s := by
  unfold setI at h
  split at h
  · split at h
    · rename_i xs h1
      split at h
      · rename_i hc
        cases h
        obtain ⟨l, vs, n, rfl, hr, hm, lr, il⟩ := list_at S h1 ha
        have hlt : i < (vs.toArray.size : Int) := by rw [List.size_toArray, ← lr.length]; omega
        have hset : vs.toArray.setIfInBounds i.toNat vv = (vs.set i.toNat vv).toArray := by simp
        obtain ⟨n', ob⟩ := mapSeq_list (·.setIfInBounds i.toNat vv) vs.toArray n
        rw [hset] at ob
        refine .of (ki_setAt (S.N.get hm) hc.1 hc.2.1 hlt ?_)
        have g : (s.heap.update l (Obj.mapSeq (·.setIfInBounds i.toNat vv))).get? l = some (listOf (vs.set i.toNat vv).toArray n') := by
          rw [← ob]; exact Heap.get?_update_self _ (S.N.get hm) (by rw [ob]; rfl)
        have e : Ext [] ρ news ρ (updL l (listOf (vs.set i.toNat vv).toArray n') news) := .upd (mem_foot hr (by simp))
        obtain ⟨S', e'⟩ := S.upd (tk := s.toks) (po := .list (xs.set i.toNat v)) hr (by simp) hm (fun b hb => (Heap.SameBut.update ..).2 b hb) g ⟨l, _, n', rfl, mem_updL_self hm, LR.mono e _ _ (LR.set hv lr)⟩
        exact q _ _ _ S' e'
      · cases h
    · rename_i b h1
      split at h
      · rename_i k
        split at h
        · rename_i hc
          cases h
          obtain ⟨r, rfl, hr, hm, hg⟩ := barr_at S h1 ha
          obtain ⟨u, rfl⟩ := hv
          refine BA.set_index hg hc.1 hc.2.1 hc.2.2.1 hc.2.2.2.1 hc.2.2.2.2.1 (of_decide_eq_true hc.2.2.2.2.2) fun h' hs g => ?_
          obtain ⟨S', e⟩ := S.upd (tk := s.toks) (α := _) (po := .barr (b.setIfInBounds i.toNat (UInt8.ofNat k.toNat))) hr (by simp) hm (fun b hb => hs.2 b hb) g ⟨r, rfl, mem_updL_self hm⟩
          exact q _ _ h' S' e
        · cases h
      · cases h
    · cases h
  · cases h

theorem setS_ok (P : x.Pre p loose mean mg mb) (S : St x ρ news σ m loc vars s₀ s) {a v : PV} {va vv l u : Value} {lo hi : Int} {σ' : PH} (ha : VR x.sA ρ news a va) (hv : VR x.sA ρ news v vv) (hl : IsPart l (some lo)) (hu : IsPart u (some hi)) (h : setS σ a lo hi v = some σ')
    {E : Value → Shared → Prop} {Q : Unit → Shared → Prop} (q : ∀ ρ' news' h', St x ρ' news' σ' m loc vars s₀ { s with heap := h' } → Ext [] ρ news ρ' news' → Q () { s with heap := h' }) :
    wpG (model prog w) x.A (setItem va (.ref s.heap.objs.size) vv) Q E { s with heap := s.heap.push (sliceObj l u .none) } := by
  have k1 : ∀ b o, s.heap.get? b = some o → (s.heap.push (sliceObj l u .none)).get? b = some o := fun b o e => Heap.get?_push_of_some _ e
  have S1 := S.junk (tk := s.toks) k1 (Nat.le_refl _) (Heap.get?_push_size _ rfl)
  have e1 : Ext [] ρ news ρ ([(s.heap.objs.size, sliceObj l u .none)] ++ news) := .junk
  have isl : (s.heap.push (sliceObj l u .none)).IsSliceOf s.heap.objs.size l u .none := Heap.IsSliceOf.new _ _ _ _
  unfold setS at h
  split at h
  · rename_i α
    split at h
    · rename_i b h1
      obtain ⟨c, hc, h2⟩ := Option.bind_eq_some_iff.mp h
      split at h2
      · rename_i hz
        cases h2
        obtain ⟨r, rfl, hr, hm, hg⟩ := barr_at S h1 ha
        have hm1 : (r, barrObj b) ∈ ([(s.heap.objs.size, sliceObj l u .none)] ++ news : Led) := List.mem_append_right _ hm
        unfold octetsOf at hc
        split at hc
        · cases hc
          obtain ⟨tk, rfl⟩ := hv
          refine BA.set_slice_bytes (s := { s with heap := s.heap.push (sliceObj l u .none) }) P.hg (k1 _ _ hg) isl hl hu hz.1 hz.2.1 (of_decide_eq_true hz.2.2.2.1) (of_decide_eq_true hz.2.2.2.2) fun h' o hk g go => ?_
          have D := S1.N _ hm1
          have e2 : Ext [] ρ ([(s.heap.objs.size, sliceObj l u .none)] ++ news) ρ (updL r (barrObj (splicedB b c lo hi)) ([(s.heap.objs.size, sliceObj l u .none)] ++ news)) := .upd (mem_foot hr (by simp))
          have S2 := S1.next (tk := s.toks) (fr_but S1.F hk D.2.2 D.2.1) (fun z hz => ?_) (by rw [updL_addr]; exact S1.nd) (S1.R.upd (o' := .barr (splicedB b c lo hi)) (ob := barrObj (splicedB b c lo hi)) hr (by simp) ⟨r, rfl, mem_updL_self hm1⟩) e2
          · exact q _ _ h' S2 (e1.trans e2)
          · rcases of_mem_updL hz with rfl | ⟨h5, h6⟩
            · exact ⟨g, D.2⟩
            · exact ⟨hk _ _ h6 (S1.N z h5).1, (S1.N z h5).2⟩
        · rename_i β
          split at hc
          · rename_i c' h3
            have hc : c' = c := Option.some.inj hc
            subst hc
            obtain ⟨r2, rfl, hr2, hm2, hg2⟩ := barr_at S h3 hv
            have hne : r ≠ r2 := fun e => by
              subst e
              have : α = β := foot_same (a := r) S.R.nd hr hr2 (by simp) (by simp)
              have hs := hz.2.2.1
              simp [sameObj, this] at hs
            refine BA.set_slice_ba (s := { s with heap := s.heap.push (sliceObj l u .none) }) P.hg (k1 _ _ hg) (k1 _ _ hg2) hne isl hl hu hz.1 hz.2.1 (of_decide_eq_true hz.2.2.2.2) fun h' hs g => ?_
            obtain ⟨S2, e2⟩ := S1.upd (tk := s.toks) (po := .barr (splicedB b c' lo hi)) hr (by simp) hm1 (fun b hb => hs.2 b hb) g ⟨r, rfl, mem_updL_self hm1⟩
            exact q _ _ h' S2 (e1.trans e2)
          · cases hc
        · cases hc
      · cases h2
    · cases h
  · cases h
end
end Mine
end
/-! part MiniT -/
section
open PySem PySem.W PySem.Calls PyProof.Rows
namespace Mine
variable {prog : Program} {w : World} {p : Program} {loose : List Str} {mean : ExcName → Option Value} {mg mb : Str → Option Value}
section
variable {x : Fx} {ρ : Foot} {news : Led} {σ : PH} {m loc : Str → Option Value} {vars : Vars} {s₀ s : Shared}

theorem LR.one {sA : Addr} {q : PV} {vs : List Value} (h : LR sA ρ news [q] vs) : ∃ v, vs = [v] ∧ VR sA ρ news q v := by
  obtain ⟨v, r, e, h1, h2⟩ := h; cases h2; exact ⟨v, e, h1⟩
theorem LR.two {sA : Addr} {q r : PV} {vs : List Value} (h : LR sA ρ news [q, r] vs) : ∃ v u, vs = [v, u] ∧ VR sA ρ news q v ∧ VR sA ρ news r u := by
  obtain ⟨v, _, e, h1, h2⟩ := h; obtain ⟨u, rfl, h3⟩ := h2.one; exact ⟨v, u, e, h1, h3⟩
theorem LR.three {sA : Addr} {q r t : PV} {vs : List Value} (h : LR sA ρ news [q, r, t] vs) : ∃ v u z, vs = [v, u, z] ∧ VR sA ρ news q v ∧ VR sA ρ news r u ∧ VR sA ρ news t z := by
  obtain ⟨v, _, e, h1, h2⟩ := h; obtain ⟨u, z, rfl, h3, h4⟩ := h2.two; exact ⟨v, u, z, e, h1, h3, h4⟩

theorem len_ok (P : x.Pre p loose mean mg mb) (S : St x ρ news σ m loc vars s₀ s) {a : PV} {va : Value} {n : Nat} (ha : VR x.sA ρ news a va) (h : lenP x.W σ a = some n) (hz : sizeOk n = true) {E : Value → Shared → Prop} :
    wpAny (model prog w) x.A (call (.builtin "len") [va]) (QF x (VRel x.sA) ρ news m loc vars s₀ (.ok (.int n) σ)) E s := by
  have hz := of_decide_eq_true hz
  have hsl := sizeLine_eq
  unfold lenP at h
  split at h
  · cases h; obtain ⟨t, rfl⟩ := ha; exact W.len_bytes (by omega) (.pure S.tok ⟨_, rfl⟩)
  · cases h; obtain ⟨t, rfl⟩ := ha; exact PyProof.Rows.len_str (by omega) (.pure S.tok ⟨_, rfl⟩)
  · cases h; cases ha
    obtain ⟨vs, h1, h2⟩ := scr_at P S
    refine call_len_list h1 (by rw [List.size_toArray, h2.length]; omega) (.pure S.tok ?_)
    rw [List.size_toArray, h2.length]; exact ⟨_, rfl⟩
  · cases h
    obtain ⟨t, vs, rfl, _, lr, ht⟩ := tup_at S ha
    refine PyProof.Rows.len_tuple ht (by rw [List.size_toArray, ← lr.length]; omega) (.pure S.tok ?_)
    rw [List.size_toArray, ← lr.length]; exact ⟨_, rfl⟩
  · split at h
    · rename_i h1
      cases h
      obtain ⟨l, vs, k, rfl, _, _, lr, il⟩ := list_at S h1 ha
      refine call_len_list il (by rw [List.size_toArray, ← lr.length]; omega) (.pure S.tok ?_)
      rw [List.size_toArray, ← lr.length]; exact ⟨_, rfl⟩
    · rename_i h1
      cases h
      obtain ⟨r, rfl, _, _, hg⟩ := barr_at S h1 ha
      exact BA.len_ba hg hz fun k => .pure S.tok ⟨_, rfl⟩
    · cases h
  · cases h

theorem type_ok (S : St x ρ news σ m loc vars s₀ s) {a t : PV} {va : Value} (ha : VR x.sA ρ news a va) (h : typeOfP σ a = some t) {E : Value → Shared → Prop} :
    wpAny (model prog w) x.A (call (.type "type") [va]) (QF x (VRel x.sA) ρ news m loc vars s₀ (.ok t σ)) E s := by
  unfold typeOfP at h
  split at h
  · cases h; obtain ⟨t, rfl⟩ := ha; exact call_type_of (Tx := "int") rfl (by decide +kernel) (.pure S rfl)
  · cases h; cases ha; exact call_type_of (Tx := "bool") rfl (by decide +kernel) (.pure S rfl)
  · cases h; obtain ⟨t, rfl⟩ := ha; exact call_type_of (Tx := "bytes") rfl (by decide +kernel) (.pure S rfl)
  · cases h; obtain ⟨t, rfl⟩ := ha; exact call_type_of (Tx := "str") rfl (by decide +kernel) (.pure S rfl)
  · cases h; cases ha; exact call_type_of (Tx := "NoneType") rfl (by decide +kernel) (.pure S rfl)
  · split at h
    · rename_i h1
      cases h
      obtain ⟨l, vs, k, rfl, _, _, lr, il⟩ := list_at S h1 ha
      exact call_type_of (Tx := "list") il.typeIs (by decide +kernel) (.pure S rfl)
    · rename_i h1
      cases h
      obtain ⟨r, rfl, _, _, hg⟩ := barr_at S h1 ha
      have hT : s.TypeIs (.ref r) "bytearray" := ⟨_, hg, rfl⟩
      exact call_type_of (Tx := "bytearray") hT (by decide +kernel) (.pure S rfl)
    · rename_i C fs h1
      cases h
      obtain ⟨r, dx, es, k, rfl, _, hm, _⟩ := inst_at S h1 ha
      obtain ⟨hh, g, d, tk, os⟩ := s
      exact call_type_obj (S.N.get hm) rfl (.pure S rfl)
    · cases h
  · cases h

theorem octets_ok : ∀ {ps : List PV} {bs : List UInt8}, octets ps = some bs → ∃ ns, intsO ps = some ns ∧ (∀ n ∈ ns, 0 ≤ n ∧ n < 256) ∧ byteArr ns = bs.toArray
  | [], _, h => by cases h; exact ⟨[], rfl, fun n h => (List.not_mem_nil h).elim, rfl⟩
  | .int k :: r, bs, h => by
    simp only [octets] at h
    split at h
    · rename_i hk
      obtain ⟨b2, h1, h2⟩ := Option.map_eq_some_iff.mp h
      subst h2
      obtain ⟨ns, h3, h4, h5⟩ := octets_ok h1
      refine ⟨k :: ns, by simp [intsO, h3], fun n hn => ?_, ?_⟩
      · rcases List.mem_cons.mp hn with rfl | hn
        · exact hk
        · exact h4 n hn
      · have h5 : ns.map (fun n => n.toNat.toUInt8) = b2 := by
          have := congrArg Array.toList h5
          simpa [byteArr] using this
        unfold byteArr
        rw [List.map_cons, h5]
    · cases h
  | .none :: _, _, h | .bool _ :: _, _, h | .str _ :: _, _, h | .bytes _ :: _, _, h | .type _ :: _, _, h | .blt _ :: _, _, h | .top _ :: _, _, h | .scr :: _, _, h
  | .tup _ :: _, _, h | .meth _ _ :: _, _, h | .obj _ :: _, _, h | .rng _ _ _ :: _, _, h | .opq :: _, _, h => by cases h

theorem bc_ok (W : Wd) (d : Nat) : BcOk prog w p loose mean mg mb W d := by
  intro x hW P bd ρ news σ m loc vars s₀ s S f args fv vals hf ha nb
  subst hW
  unfold bcall at nb ⊢
  split at nb
  · rename_i bid args
    cases hf
    split at nb
    · rename_i hi; subst hi
      try rw [if_pos rfl]
      split at nb
      · rename_i v
        obtain ⟨va, rfl, hv⟩ := ha.one
        obtain ⟨n, h1, h2⟩ := ofO_some nb
        rw [h2] at nb ⊢
        obtain ⟨hz, he⟩ := if_bad nb
        rw [he]
        exact .of (len_ok P S hv h1 hz)
      · exact absurd rfl nb
    split at nb
    · rename_i hi; subst hi
      try rw [if_pos rfl]
      split at nb
      · rename_i y
        obtain ⟨va, rfl, hv⟩ := ha.one
        obtain ⟨hz, he⟩ := if_bad nb
        rw [he]
        obtain ⟨t, rfl⟩ := hv
        exact .of (PyProof.Rows.ord_of_one hz (.pure S.tok ⟨_, rfl⟩))
      · exact absurd rfl nb
    split at nb
    · rename_i hi; subst hi
      try rw [if_pos rfl]
      split at nb
      · rename_i α v
        obtain ⟨va, vb, rfl, hv, hb⟩ := ha.two
        split at nb
        · rename_i xs h1
          obtain ⟨hz, he⟩ := if_bad nb
          rw [he]
          obtain ⟨l, vs, n, rfl, hr, hm, lr, il⟩ := list_at S h1 hv
          have hz := of_decide_eq_true hz
          refine .of (wpAny_list_append_plain (hsz := by rw [List.size_toArray, ← lr.length]; omega) ⟨n, S.N.get hm⟩ fun h' hl hs => ?_)
          obtain ⟨n', g⟩ := hl
          rw [show vs.toArray.push vb = (vs ++ [vb]).toArray by simp] at g
          have e : Ext [] ρ news ρ (updL l (listOf (vs ++ [vb]).toArray n') news) := .upd (mem_foot hr (by simp))
          obtain ⟨S', e'⟩ := S.upd (tk := s.toks) (po := .list (xs ++ [v])) hr (by simp) hm (fun b hb => hs.2 b hb) g ⟨l, _, n', rfl, mem_updL_self hm, LR.mono e _ _ (lr.append ⟨_, [], rfl, hb, rfl⟩)⟩
          exact .of S' e' rfl
        · exact absurd rfl nb
      · exact absurd rfl nb
    split at nb
    · rename_i hi; subst hi
      try rw [if_pos rfl]
      split at nb
      · rename_i y z
        obtain ⟨va, vb, rfl, hv, hb⟩ := ha.two
        obtain ⟨hz, he⟩ := if_bad nb
        rw [he]
        obtain ⟨t, rfl⟩ := hv
        obtain ⟨u, rfl⟩ := hb
        exact .of (PyProof.Rows.index_or P.hh (fun h0 => by rw [h0] at hz; exact absurd hz (by decide)) fun _ _ => .pure S.tok ⟨_, rfl⟩)
      · exact absurd rfl nb
    split at nb
    · rename_i hi; subst hi
      try rw [if_pos rfl]
      split at nb
      · rename_i C
        obtain ⟨va, rfl, hv⟩ := ha.one
        obtain ⟨hz, he⟩ := if_bad nb
        rw [he]
        cases hv
        unfold ownNewIn at hz
        rw [Bool.and_eq_true] at hz
        have h2 := hz.2
        split at h2
        · rename_i oc od cd sl hl
          simp only [Bool.and_eq_true, Bool.not_eq_true'] at h2
          obtain ⟨⟨⟨e1, e2⟩, e3⟩, e4⟩ := h2
          have XK : x.W.K.In s.heap := P.X.keeps S.F.keep
          have base := P.own C (by simpa using hz.1) (model prog w) s.heap XK
          have top : Looks (model prog w) s.heap (isSubtype (.ref C) (.type "object")) true := looks_mroIn XK (by unfold mroIn clsIn; rw [hl]; dsimp only; rw [Option.bind_some, if_neg (by rw [e3]; decide), e4])
          obtain ⟨h, g, dd, tk, os⟩ := s
          refine .of (wpAny_call (new_own (XK _ _ hl) e1 e2 base top ?_))
          have N2 := (S.N.push S.F emptyDict).push (S.F.push _) (instObj C h.objs.size)
          rw [Heap.size_push] at N2
          obtain ⟨S', E', r'⟩ := S.alloc2 (tk := tk) (po := .inst C []) ((S.F.push emptyDict).push (instObj C h.objs.size)) N2 (fun q hq => Heap.lt_size (S.N q hq).1) (Nat.lt_succ_self _) ⟨_, h.objs.size, [], 0, rfl, by simp, by simp, rfl⟩
          exact QF.of S' E' ⟨_, [h.objs.size], rfl, r'⟩
        · cases h2
      · exact absurd rfl nb
    · exact absurd rfl nb
  · rename_i tn args
    cases hf
    split at nb
    · rename_i hi; subst hi
      try rw [if_pos rfl]
      split at nb
      · rename_i v
        obtain ⟨va, rfl, hv⟩ := ha.one
        obtain ⟨n, h1, h2⟩ := ofO_some nb
        rw [h2]
        exact .of (type_ok S hv h1)
      · exact absurd rfl nb
    split at nb
    · rename_i hi; subst hi
      try rw [if_pos rfl]
      split at nb
      · rename_i i
        obtain ⟨va, rfl, hv⟩ := ha.one
        obtain ⟨t, rfl⟩ := hv
        exact .of (call_int_int (.pure S ⟨_, rfl⟩))
      · exact absurd rfl nb
    split at nb
    · rename_i hi; subst hi
      try rw [if_pos rfl]
      split at nb
      · obtain ⟨va, rfl, hv⟩ := ha.one
        obtain ⟨hz, he⟩ := if_bad nb
        rw [he]
        obtain ⟨t, rfl⟩ := hv
        exact .of (BA.call_bytes_int hz.1 (of_decide_eq_true hz.2) fun t' k => .pure S.tok ⟨_, rfl⟩)
      · obtain ⟨va, rfl, hv⟩ := ha.one
        obtain ⟨hz, he⟩ := if_bad nb
        rw [he]
        obtain ⟨a, vs, rfl, hm, lr, ht⟩ := tup_at S hv
        obtain ⟨u, rfl, t, rfl⟩ := lr.one
        refine .of (BA.call_bytes_one P.hh (S.N.get hm) hz.1 hz.2 fun h' t' k kp => ?_)
        exact .pure (S.still kp) ⟨_, rfl⟩
      · obtain ⟨va, rfl, hv⟩ := ha.one
        split at nb
        · rename_i vs h1
          obtain ⟨b, h2, h3⟩ := ofO_some nb
          rw [h3] at nb ⊢
          obtain ⟨hz, he⟩ := if_bad nb
          rw [he]
          obtain ⟨l, us, n, rfl, _, _, lr, il⟩ := list_at S h1 hv
          obtain ⟨ns, h4, h5, h6⟩ := octets_ok h2
          have hz := of_decide_eq_true hz
          have hb : us.length = b.length := by
            have := congrArg Array.size h6
            rw [byteArr_size, List.size_toArray] at this
            rw [← this, ← (lr.ints h4).length]
          refine .of (call_bytes_ints il (lr.ints h4) h5 (by rw [hb]; exact hz) P.hh fun h' t k kp => ?_)
          rw [h6]
          exact .pure (S.still kp) ⟨_, rfl⟩
        · rename_i b h1
          obtain ⟨hz, he⟩ := if_bad nb
          rw [he]
          obtain ⟨r, rfl, _, _, hg⟩ := barr_at S h1 hv
          exact .of (BA.call_bytes_ba hg (of_decide_eq_true hz) fun t' k => .pure S.tok ⟨_, rfl⟩)
        · exact absurd rfl nb
      · exact absurd rfl nb
    split at nb
    · rename_i hi; subst hi
      try rw [if_pos rfl]
      have fresh : ∀ {h' : Heap} {b : Array UInt8}, (∀ y o, s.heap.get? y = some o → h'.get? y = some o) → h'.get? s.heap.objs.size = some (barrObj b) →
          QF x (VRel x.sA) ρ news m loc vars s₀ (.ok (.obj σ.length) (σ ++ [.barr b])) (.ref s.heap.objs.size) { s with heap := h' } := fun {h' b} kp g => by
        obtain ⟨S2, e2, r2⟩ := S.alloc (tk := s.toks) (o := barrObj b) (po := .barr b) kp (Nat.le_refl _) g ⟨_, rfl, by simp⟩
        exact .of S2 e2 ⟨_, [], rfl, r2⟩
      split at nb
      · obtain ⟨va, rfl, hv⟩ := ha.one
        obtain ⟨hz, he⟩ := if_bad nb
        rw [he]
        obtain ⟨t, rfl⟩ := hv
        exact BA.call_ba_int P.hg hz.1 (of_decide_eq_true hz.2) fun h' kp g => fresh kp g
      · obtain ⟨va, rfl, hv⟩ := ha.one
        obtain ⟨hz, he⟩ := if_bad nb
        rw [he]
        obtain ⟨t, rfl⟩ := hv
        exact BA.call_ba_bytes P.hg (of_decide_eq_true hz) fun h' kp g => fresh kp g
      · exact absurd rfl nb
    split at nb
    · rename_i hi; subst hi
      try rw [if_pos rfl]
      have fresh : ∀ {a b c : Int} {t u z : Tok} {tk : Nat}, QF x (VRel x.sA) ρ news m loc vars s₀ (.ok (.rng a b c) σ) (.ref s.heap.objs.size) { s with heap := s.heap.push (rngObj a b c t u z), toks := tk } := fun {a b c t u z tk} => by
        have S2 := S.junk (tk := tk) (a := s.heap.objs.size) (o := rngObj a b c t u z) (fun y o e => Heap.get?_push_of_some _ e) (Nat.le_refl _) (Heap.get?_push_size _ rfl)
        exact .of S2 .junk ⟨_, t, u, z, rfl, by simp, fun q => absurd (S.lowR q) (Nat.lt_irrefl _)⟩
      split at nb
      · obtain ⟨va, rfl, hv⟩ := ha.one
        obtain ⟨hz, he⟩ := if_bad nb
        rw [he]
        obtain ⟨t, rfl⟩ := hv
        exact .of (call_range_1 fresh)
      · obtain ⟨va, vb, rfl, hv, hb⟩ := ha.two
        obtain ⟨hz, he⟩ := if_bad nb
        rw [he]
        obtain ⟨t, rfl⟩ := hv
        obtain ⟨u, rfl⟩ := hb
        exact .of (call_range_2 fresh)
      · obtain ⟨va, vb, vc, rfl, hv, hb, hc⟩ := ha.three
        obtain ⟨hz, he⟩ := if_bad nb
        rw [he]
        obtain ⟨t, rfl⟩ := hv
        obtain ⟨u, rfl⟩ := hb
        obtain ⟨z, rfl⟩ := hc
        exact .of (call_range_3 hz.1 fresh (.inl (by simpa [divOk] using hz.2.2)))
      · exact absurd rfl nb
    · exact absurd rfl nb
  · exact absurd rfl nb
end
end Mine
end
/-! part MiniU -/
section
open PySem PySem.W PySem.Calls PyProof.Rows
namespace Mine
variable {prog : Program} {w : World} {p : Program} {loose : List Str} {mean : ExcName → Option Value} {mg mb : Str → Option Value}

theorem folded_plain {it : Expr} (h : plainIter it = true) (env : Env) (v : Value) : foldedSetIterable it env v = pure v := by
  unfold foldedSetIterable
  split
  · cases h
  · rfl

structure EvOk (prog : Program) (w : World) (p : Program) (loose : List Str) (mean : ExcName → Option Value) (mg mb : Str → Option Value) (W : Wd) (cb : CB) (d n : Nat) : Prop where
  e : ∀ (x : Fx), x.W = W → x.Pre p loose mean mg mb → x.Sco → Bud x.A d 52 → ∀ vars s₀ e σ, RunV prog w x vars s₀ (eval e x.ce) σ (ev W cb x.sc n vars e σ)
  o : ∀ (x : Fx), x.W = W → x.Pre p loose mean mg mb → x.Sco → Bud x.A d 52 → ∀ vars s₀ e σ, RunV prog w x vars s₀ (valueOrNone (evalOpt e x.ce)) σ (evO W cb x.sc n vars e σ)
  t : ∀ (x : Fx), x.W = W → x.Pre p loose mean mg mb → x.Sco → Bud x.A d 52 → ∀ vars s₀ e σ, Run prog w x BRel vars s₀ (isTrue e x.ce (eval e x.ce)) σ (ts W cb x.sc n vars e σ)
  l : ∀ (x : Fx), x.W = W → x.Pre p loose mean mg mb → x.Sco → Bud x.A d 52 → ∀ vars s₀ op es σ, Run prog w x BRel vars s₀ (allTrue op es x.ce) σ (tsL W cb x.sc n op vars es σ)

theorem G_if_t {α : Type} {M : Model} {A : Around} {E : Value → Shared → Prop} {s : Shared} {a b : Sem α} {Q : α → Shared → Prop} (h : wpG M A a Q E s) : wpG M A (if true = true then a else b) Q E s := h
theorem pure_inj {α : Type} {a b : α} (h : (pure a : Sem α) = pure b) : a = b := by
  injection h

section
variable {x : Fx} {ρ : Foot} {news : Led} {σ : PH} {m loc : Str → Option Value} {vars : Vars} {s₀ s : Shared}

theorem Bud.hu {A : Around} {d : Nat} (h : Bud A d 52) : A.units + 64 < cLine := by have := h.2; omega
theorem Bud.less {A : Around} {d k k' : Nat} (h : Bud A d k) (hk : k' ≤ k) : Bud A d k' := ⟨by have := h.1; omega, by have := h.2; omega⟩

theorem ofO_run {α : Type} {o : Option α} {f : α → R PV} {t : Sem Value} (h : ∀ a, o = some a → ofO o f = f a → f a ≠ .bad → wpG (model prog w) x.A t (QF x (VRel x.sA) ρ news m loc vars s₀ (f a)) (EF x ρ news vars s₀ (f a)) s) (nb : ofO o f ≠ .bad) :
    wpG (model prog w) x.A t (QF x (VRel x.sA) ρ news m loc vars s₀ (ofO o f)) (EF x ρ news vars s₀ (ofO o f)) s := by
  obtain ⟨a, h1, h2⟩ := ofO_some nb
  rw [h2] at nb ⊢
  exact h a h1 h2 nb

theorem ev_starred {W : Wd} {cb : CB} {sc : Str → Option NameKind} : ∀ {n : Nat} {vars : Vars} (e : Expr) (σ : PH), ev W cb sc n vars e σ ≠ .bad → isStarredE e = false := by
  intro n vars e σ h
  cases n with
  | zero => exact absurd rfl h
  | succ n => cases e <;> first | rfl | exact absurd rfl h

/-- the arguments of a call, and the call -/
theorem args_call {n d : Nat} {cb : CB} (ih : EvOk prog w p loose mean mg mb x.W cb d n) (hcb : CbOk prog w p loose mean mg mb x.W cb d) (hbc : BcOk prog w p loose mean mg mb x.W d) (P : x.Pre p loose mean mg mb) (C : x.Sco) (bd : Bud x.A d 52)
    (S : St x ρ news σ m loc vars s₀ s) {f : PV} {first : List PV} {fv : Value} {fvs : List Value} {as : List Expr} {pos : Pos} (hf : VR x.sA ρ news f fv) (hfs : LR x.sA ρ news first fvs) (hk : callable x.W.K f = true) (hst : as.any isStarredE = false)
    (nb : ((evL (ev x.W cb x.sc n vars) as σ).bind fun vs σ => callV x.W cb f (first ++ vs) σ) ≠ .bad) :
    wpG (model prog w) x.A (callWith pos fv fvs (backTo pos (starEach as x.ce)) []) (QF x (VRel x.sA) ρ news m loc vars s₀ ((evL (ev x.W cb x.sc n vars) as σ).bind fun vs σ => callV x.W cb f (first ++ vs) σ))
      (EF x ρ news vars s₀ ((evL (ev x.W cb x.sc n vars) as σ).bind fun vs σ => callV x.W cb f (first ++ vs) σ)) s := by
  have keep : ∃ Pr : Heap → Prop, (∀ h, Pr h → ∃ k, (k = Keeper.frame ∨ k = Keeper.machine ∨ k = Keeper.boundFrame) ∧ Looks (model prog w) h (keeperOf fv) k) ∧
      ∀ ρ' news' σ' s', St x ρ' news' σ' m loc vars s₀ s' → Ext [] ρ news ρ' news' → Pr s'.heap := by
    cases f with
    | top a => cases hf; exact ⟨fun h => x.W.K.In h, fun h X => keeps_K (show keepIn x.W.K (.ref a) = true from hk) h X, fun _ _ _ _ S' _ => P.X.keeps S'.F.keep⟩
    | meth g q =>
      obtain ⟨a, u, rfl, hm, hn, _⟩ := hf
      exact ⟨fun h => MethP x.W.K a g u h, fun h X => keeps_M (show fnIn x.W.K g = true from hk) h X, fun _ _ _ _ S' e => ⟨S'.N.get (e.keep _ hm hn (.inr (isVal_meth _ _))).1, P.X.keeps S'.F.keep⟩⟩
    | blt i => cases hf; exact ⟨fun _ => True, fun h _ => ⟨.machine, .inr (.inl rfl), .now⟩, fun _ _ _ _ _ _ => trivial⟩
    | type i => cases hf; exact ⟨fun _ => True, fun h _ => ⟨.machine, .inr (.inl rfl), .now⟩, fun _ _ _ _ _ _ => trivial⟩
    | _ => cases hk
  obtain ⟨Pr, k1, k2⟩ := keep
  have hp : (backTo pos (starEach as x.ce)).any (·.1) = false := evL_plain fun e he => by
    have := List.any_eq_false.mp hst e he
    simpa using this
  refine G_callWith hp k1 ?_
  refine (evL_ok (fun e σ h => ev_starred e σ h) (fun e σ => ih.e x rfl P C bd vars s₀ e σ) as σ).seq S .refl nb fun vs σ' us s' ρ' news' S' E' V' e' nb' => ?_
  refine ⟨k2 _ _ _ _ S' E', ?_⟩
  rw [e']
  exact wpG.mono (callV_ok hcb hbc P (bd.less (by decide)) S' (VR.mono E' _ _ hf) ((LR.mono E' _ _ hfs).append V') nb') (fun _ _ q => q.mono E') fun _ _ q => q.mono E'

theorem eval_const {n : Nat} {cb : CB} {c : Const} {k : Nat} {pos : Pos} (S : St x ρ news σ m loc vars s₀ s) (nb : ev x.W cb x.sc (n + 1) vars (.Constant c k pos) σ ≠ .bad) :
    wpG (model prog w) x.A (eval (.Constant c k pos) x.ce) (QF x (VRel x.sA) ρ news m loc vars s₀ (ev x.W cb x.sc (n + 1) vars (.Constant c k pos) σ)) (EF x ρ news vars s₀ (ev x.W cb x.sc (n + 1) vars (.Constant c k pos) σ)) s := by
  cases c with
  | none => exact .of (const_ok S rfl)
  | bool b => exact .of (const_ok S rfl)
  | int i => exact .of (const_ok S rfl)
  | str y => exact .of (const_ok S rfl)
  | bytes b => exact .of (const_ok S rfl)
  | _ => exact absurd rfl nb

theorem run_eq {α β : Type} {Rel : Foot → Led → β → α → Prop} {t : Sem α} {r r' : R β} (e : r = r') (h : Run prog w x Rel vars s₀ t σ r') : Run prog w x Rel vars s₀ t σ r := e ▸ h

section
variable {n d : Nat} {cb : CB} (ih : EvOk prog w p loose mean mg mb x.W cb d n) (P : x.Pre p loose mean mg mb) (C : x.Sco) (bd : Bud x.A d 52)
include ih P C bd

theorem e_bin (l r : Expr) (op : Operator) (pos : Pos) : RunV prog w x vars s₀ (eval (.BinOp l op r pos) x.ce) σ ((ev x.W cb x.sc n vars l σ).bind fun a σ => (ev x.W cb x.sc n vars r σ).bind fun b σ => binop op a b σ) := by
  intro ρ news m loc s S nb
  refine G_BinOp ?_
  refine (ih.e x rfl P C bd vars s₀ l σ).seq S .refl nb fun a σ₁ va s₁ ρ₁ news₁ S₁ E₁ V₁ e₁ nb₁ => ?_
  rw [e₁]
  refine (ih.e x rfl P C bd vars s₀ r σ₁).seq S₁ E₁ nb₁ fun b σ₂ vb s₂ ρ₂ news₂ S₂ E₂ V₂ e₂ nb₂ => ?_
  rw [e₂]
  exact wpG.mono (.of (binop_ok S₂ (VR.mono E₂ _ _ V₁) V₂ nb₂)) (fun _ _ q => QF.mono (E₁.trans E₂) q) fun _ _ q => EF.mono (E₁.trans E₂) q

theorem e_neg (e : Expr) (pos : Pos) : RunV prog w x vars s₀ (eval (.UnaryOp .USub e pos) x.ce) σ ((ev x.W cb x.sc n vars e σ).bind fun v σ => (match v with
      | .int i => .ok (.int (-i)) σ
      | _ => .bad)) := by
  intro ρ news m loc s S nb
  refine G_UnaryOp ?_
  refine (ih.e x rfl P C bd vars s₀ e σ).seq S .refl nb fun a σ₁ va s₁ ρ₁ news₁ S₁ E₁ V₁ e₁ nb₁ => ?_
  rw [e₁]
  split at nb₁
  · obtain ⟨t, rfl⟩ := V₁
    exact .of (PyProof.Rows.neg_int (.of S₁.tok E₁ ⟨_, rfl⟩))
  · exact absurd rfl nb₁
theorem e_not (e : Expr) (pos : Pos) : RunV prog w x vars s₀ (eval (.UnaryOp .Not e pos) x.ce) σ ((ev x.W cb x.sc n vars e σ).bind fun v σ => ofO (truthO x.W σ v) fun b => .ok (.bool (!b)) σ) := by
  intro ρ news m loc s S nb
  refine G_UnaryOp ?_
  refine (ih.e x rfl P C bd vars s₀ e σ).seq S .refl nb fun a σ₁ va s₁ ρ₁ news₁ S₁ E₁ V₁ e₁ nb₁ => ?_
  rw [e₁]
  obtain ⟨b, h1, h2⟩ := ofO_some nb₁
  rw [h2]
  exact .of (PyProof.Rows.not_of (truth_ok P S₁ V₁ h1 fun tk => .of S₁.tok E₁ rfl))

theorem e_if (t a b : Expr) (pos : Pos) : RunV prog w x vars s₀ (eval (.IfExp t a b pos) x.ce) σ ((ts x.W cb x.sc n vars t σ).bind fun c σ => if c then ev x.W cb x.sc n vars a σ else ev x.W cb x.sc n vars b σ) := by
  intro ρ news m loc s S nb
  refine G_IfExp ?_
  refine (ih.t x rfl P C bd vars s₀ t σ).seq S .refl nb fun c σ₁ vc s₁ ρ₁ news₁ S₁ E₁ V₁ e₁ nb₁ => ?_
  rw [e₁]
  have V₁ : vc = c := V₁
  subst V₁
  cases vc with
  | true => exact (ih.e x rfl P C bd vars s₀ a σ₁).at S₁ E₁ nb₁
  | false => exact (ih.e x rfl P C bd vars s₀ b σ₁).at S₁ E₁ nb₁

theorem e_and (a b : Expr) (pos : Pos) : RunV prog w x vars s₀ (eval (.BoolOp .And [a, b] pos) x.ce) σ ((ev x.W cb x.sc n vars a σ).bind fun v σ => ofO (truthO x.W σ v) fun c => if c then ev x.W cb x.sc n vars b σ else .ok v σ) := by
  intro ρ news m loc s S nb
  refine G_And2 ?_
  refine (ih.e x rfl P C bd vars s₀ a σ).seq S .refl nb fun v σ₁ va s₁ ρ₁ news₁ S₁ E₁ V₁ e₁ nb₁ => ?_
  rw [e₁]
  obtain ⟨c, h1, h2⟩ := ofO_some nb₁
  rw [h2] at nb₁ ⊢
  refine .of (truth_ok P S₁ V₁ h1 fun tk => ?_)
  have S2 := S₁.tok (tk := tk)
  cases c with
  | true => exact (ih.e x rfl P C bd vars s₀ b σ₁).at S2 E₁ nb₁
  | false => exact .of S2 E₁ V₁
theorem e_or (a b : Expr) (pos : Pos) : RunV prog w x vars s₀ (eval (.BoolOp .Or [a, b] pos) x.ce) σ ((ev x.W cb x.sc n vars a σ).bind fun v σ => ofO (truthO x.W σ v) fun c => if c then .ok v σ else ev x.W cb x.sc n vars b σ) := by
  intro ρ news m loc s S nb
  refine G_Or2 ?_
  refine (ih.e x rfl P C bd vars s₀ a σ).seq S .refl nb fun v σ₁ va s₁ ρ₁ news₁ S₁ E₁ V₁ e₁ nb₁ => ?_
  rw [e₁]
  obtain ⟨c, h1, h2⟩ := ofO_some nb₁
  rw [h2] at nb₁ ⊢
  refine .of (truth_ok P S₁ V₁ h1 fun tk => ?_)
  have S2 := S₁.tok (tk := tk)
  cases c with
  | true => exact .of S2 E₁ V₁
  | false => exact (ih.e x rfl P C bd vars s₀ b σ₁).at S2 E₁ nb₁

theorem e_cmp (l r : Expr) (op : CmpOp) (pos : Pos) : RunV prog w x vars s₀ (eval (.Compare l [op] [r] pos) x.ce) σ (if behindInMarks op r then .bad else (ev x.W cb x.sc n vars l σ).bind fun a σ => (ev x.W cb x.sc n vars r σ).bind fun b σ => ofO (cmpop op a b σ) fun c => .ok (.bool c) σ) := by
  intro ρ news m loc s S nb
  cases hm : behindInMarks op r with
  | true => rw [hm] at nb; exact absurd rfl nb
  | false =>
    rw [hm] at nb
    simp only [Bool.false_eq_true, if_false] at nb ⊢
    refine G_Compare1 hm ?_
    refine (ih.e x rfl P C bd vars s₀ l σ).seq S .refl nb fun a σ₁ va s₁ ρ₁ news₁ S₁ E₁ V₁ e₁ nb₁ => ?_
    rw [e₁]
    refine (ih.e x rfl P C bd vars s₀ r σ₁).seq S₁ E₁ nb₁ fun b σ₂ vb s₂ ρ₂ news₂ S₂ E₂ V₂ e₂ nb₂ => ?_
    rw [e₂]
    obtain ⟨c, h1, h2⟩ := ofO_some nb₂
    rw [h2]
    exact .of (cmp_ok bd.hu S₂ (VR.mono E₂ _ _ V₁) V₂ h1 (.of S₂ (E₁.trans E₂) rfl))

theorem e_list (es : List Expr) (pos : Pos) : RunV prog w x vars s₀ (eval (.List es pos) x.ce) σ ((evL (ev x.W cb x.sc n vars) es σ).bind fun vs σ => if sizeOk vs.length then .ok (.obj σ.length) (σ ++ [.list vs]) else .bad) := by
  intro ρ news m loc s S nb
  refine G_List ?_
  refine (evL_ok (fun e σ h => ev_starred e σ h) (fun e σ => ih.e x rfl P C bd vars s₀ e σ) es σ).seq S .refl nb fun vs σ₁ us s₁ ρ₁ news₁ S₁ E₁ V₁ e₁ nb₁ => ?_
  rw [e₁]
  obtain ⟨hz, he⟩ := if_bad nb₁
  rw [he]
  have V₁ : LR x.sA ρ₁ news₁ vs us := V₁
  refine .of (wpAny_newList ?_ (by rw [← V₁.length]; exact of_decide_eq_true hz))
  have hn : ∀ q ∈ news₁, q.1 ∉ [s₁.heap.objs.size] := fun q hq hm => by
    rw [List.mem_singleton] at hm
    exact absurd (hm ▸ S₁.low hq) (Nat.lt_irrefl _)
  obtain ⟨S2, e2, r2⟩ := S₁.alloc (tk := s₁.toks) (o := listOf us.toArray 0) (po := .list vs) (fun y o e => Heap.get?_push_of_some _ e) (Nat.le_refl _) (Heap.get?_push_size _ rfl) ⟨_, us, 0, rfl, by simp, LR.mono (.alloc (cs := []) (new := [_]) hn) _ _ V₁⟩
  exact .of S2 (E₁.trans e2) ⟨_, [], rfl, r2⟩
theorem e_tuple (es : List Expr) (k : Nat) (pos : Pos) : RunV prog w x vars s₀ (eval (.Tuple es k pos) x.ce) σ ((evL (ev x.W cb x.sc n vars) es σ).bind fun vs σ => if sizeOk vs.length then .ok (.tup vs) σ else .bad) := by
  intro ρ news m loc s S nb
  refine G_Tuple ?_
  refine (evL_ok (fun e σ h => ev_starred e σ h) (fun e σ => ih.e x rfl P C bd vars s₀ e σ) es σ).seq S .refl nb fun vs σ₁ us s₁ ρ₁ news₁ S₁ E₁ V₁ e₁ nb₁ => ?_
  rw [e₁]
  obtain ⟨hz, he⟩ := if_bad nb₁
  rw [he]
  have V₁ : LR x.sA ρ₁ news₁ vs us := V₁
  refine .of (wpAny_newTuple ?_ (by rw [← V₁.length]; exact of_decide_eq_true hz))
  have S2 := S₁.junk (tk := s₁.toks) (a := s₁.heap.objs.size) (o := tupObj us) (fun y o e => Heap.get?_push_of_some _ e) (Nat.le_refl _) (Heap.get?_push_size _ rfl)
  have e2 : Ext [] ρ₁ news₁ ρ₁ ([(s₁.heap.objs.size, tupObj us)] ++ news₁) := .junk
  exact .of S2 (E₁.trans e2) ⟨_, us, rfl, by simp, fun q => absurd (S₁.lowR q) (Nat.lt_irrefl _), LR.mono e2 _ _ V₁⟩

theorem e_attr (v : Expr) (a : Str) (pos : Pos) : RunV prog w x vars s₀ (eval (.Attribute v a pos) x.ce) σ (if isCallE v then .bad else (ev x.W cb x.sc n vars v σ).bind fun o σ => ofO (getA x.W σ o a) fun r => .ok r σ) := by
  intro ρ news m loc s S nb
  cases hm : isCallE v with
  | true => rw [hm] at nb; exact absurd rfl nb
  | false =>
    rw [hm] at nb
    simp only [Bool.false_eq_true, if_false] at nb ⊢
    refine G_Attribute hm ?_
    refine (ih.e x rfl P C bd vars s₀ v σ).seq S .refl nb fun o σ₁ vo s₁ ρ₁ news₁ S₁ E₁ V₁ e₁ nb₁ => ?_
    rw [e₁]
    obtain ⟨r, h1, h2⟩ := ofO_some nb₁
    rw [h2]
    exact .of (getA_ok P S₁ V₁ h1 fun u tk hu => .of S₁.tok E₁ hu)

theorem e_subI (v i : Expr) (pos : Pos) (hi : ∀ lo hi st p, i ≠ .Slice lo hi st p) : RunV prog w x vars s₀ (eval (.Subscript v i pos) x.ce) σ ((ev x.W cb x.sc n vars v σ).bind fun o σ => (ev x.W cb x.sc n vars i σ).bind fun k σ => (match k with
      | .int k => ofO (subI x.W σ o k) fun r => .ok r σ
      | _ => .bad)) := by
  intro ρ news m loc s S nb
  refine G_Subscript ?_
  refine (ih.e x rfl P C bd vars s₀ v σ).seq S .refl nb fun o σ₁ vo s₁ ρ₁ news₁ S₁ E₁ V₁ e₁ nb₁ => ?_
  rw [e₁]
  refine (ih.e x rfl P C bd vars s₀ i σ₁).seq S₁ E₁ nb₁ fun k σ₂ vk s₂ ρ₂ news₂ S₂ E₂ V₂ e₂ nb₂ => ?_
  rw [e₂]
  split at nb₂
  · rename_i k
    obtain ⟨r, h1, h2⟩ := ofO_some nb₂
    rw [h2]
    obtain ⟨t, rfl⟩ := V₂
    exact wpG.mono (.of (subI_ok P S₂ (VR.mono E₂ _ _ V₁) h1 hi)) (fun _ _ q => QF.mono (E₁.trans E₂) q) fun _ _ q => q
  · exact absurd rfl nb₂

theorem e_subS (v : Expr) (lo hi st : Option Expr) (p1 pos : Pos) : RunV prog w x vars s₀ (eval (.Subscript v (.Slice lo hi st p1) pos) x.ce) σ ((ev x.W cb x.sc n vars v σ).bind fun o σ => (evO x.W cb x.sc n vars lo σ).bind fun a σ => (evO x.W cb x.sc n vars hi σ).bind fun b σ => (evO x.W cb x.sc n vars st σ).bind fun c σ =>
        ofO (partO a) fun a => ofO (partO b) fun b => ofO (partO c) fun c => subS x.W σ o a b c) := by
  intro ρ news m loc s S nb
  refine G_Subscript ?_
  refine (ih.e x rfl P C bd vars s₀ v σ).seq S .refl nb fun o σ₁ vo s₁ ρ₁ news₁ S₁ E₁ V₁ e₁ nb₁ => ?_
  rw [e₁]
  refine G_Slice ?_
  refine (ih.o x rfl P C bd vars s₀ lo σ₁).seq S₁ E₁ nb₁ fun a σ₂ va s₂ ρ₂ news₂ S₂ E₂ V₂ e₂ nb₂ => ?_
  rw [e₂]
  refine (ih.o x rfl P C bd vars s₀ hi σ₂).seq S₂ (E₁.trans E₂) nb₂ fun b σ₃ vb s₃ ρ₃ news₃ S₃ E₃ V₃ e₃ nb₃ => ?_
  rw [e₃]
  refine (ih.o x rfl P C bd vars s₀ st σ₃).seq S₃ ((E₁.trans E₂).trans E₃) nb₃ fun c σ₄ vc s₄ ρ₄ news₄ S₄ E₄ V₄ e₄ nb₄ => ?_
  rw [e₄]
  obtain ⟨la, h1, h2⟩ := ofO_some nb₄
  rw [h2] at nb₄ ⊢
  obtain ⟨lb, h3, h4⟩ := ofO_some nb₄
  rw [h4] at nb₄ ⊢
  obtain ⟨lc, h5, h6⟩ := ofO_some nb₄
  rw [h6] at nb₄ ⊢
  refine .of (wpAny_newObj_type ?_ (by size_fits))
  have Et := ((E₁.trans E₂).trans E₃).trans E₄
  exact wpG.mono (.of (subS_ok P S₄ (VR.mono (E₂.trans (E₃.trans E₄)) _ _ V₁) (IsPart.of (VR.mono (E₃.trans E₄) _ _ V₂) h1) (IsPart.of (VR.mono E₄ _ _ V₃) h3) (IsPart.of V₄ h5) nb₄)) (fun _ _ q => QF.mono Et q) fun _ _ q => EF.mono Et q

theorem e_callA (hcb : CbOk prog w p loose mean mg mb x.W cb d) (hbc : BcOk prog w p loose mean mg mb x.W d) (o : Expr) (a : Str) (ap : Pos) (as : List Expr) (pos : Pos) : RunV prog w x vars s₀ (eval (.Call (.Attribute o a ap) as [] pos) x.ce) σ
    (if isCallE o || decide (as.length ≥ 29) || !(ap.endLine == pos.line) || as.any isStarredE then .bad else (ev x.W cb x.sc n vars o σ).bind fun ov σ => ofO (getM x.W σ ov a) fun fx => if callable x.W.K fx.1 then (evL (ev x.W cb x.sc n vars) as σ).bind fun vs σ => callV x.W cb fx.1 (fx.2 ++ vs) σ else .bad) := by
  intro ρ news m loc s S nb
  cases hc : (isCallE o || decide (as.length ≥ 29) || !(ap.endLine == pos.line) || as.any isStarredE) with
  | true => rw [hc] at nb; exact absurd rfl nb
  | false =>
    rw [hc] at nb
    simp only [Bool.false_eq_true, if_false] at nb ⊢
    simp only [Bool.or_eq_false_iff, decide_eq_false_iff_not, Bool.not_eq_false', ge_iff_le, Nat.not_le] at hc
    obtain ⟨⟨⟨h1, h2⟩, h3⟩, h4⟩ := hc
    rw [arm_eval_Call, base_whole h1]
    refine .bind ?_
    refine (ih.e x rfl P C bd vars s₀ o σ).seq S .refl nb fun ov σ₁ vo s₁ ρ₁ news₁ S₁ E₁ V₁ e₁ nb₁ => ?_
    rw [e₁]
    obtain ⟨fx, h5, h6⟩ := ofO_some nb₁
    rw [h6] at nb₁ ⊢
    obtain ⟨h7, h8⟩ := if_bad nb₁
    rw [h8] at nb₁ ⊢
    refine .bind (.standAt ?_)
    have few : methodCallForm (as.length + ([] : List Keyword).length) (backTo pos (starEach as x.ce)) (backToKw pos (keywordEach [] x.ce)) = true := by
      unfold methodCallForm
      have hp : (backTo pos (starEach as x.ce)).all (fun q => !q.1) = true := by
        have := evL_plain (pos := pos) (env := x.ce) (es := as) fun e he => by
          have := List.any_eq_false.mp h4 e he
          simpa using this
        rw [List.all_eq_true]
        intro q hq
        have h := List.any_eq_false.mp this q hq
        simpa using h
      rw [hp]
      show (true && ([] : List (Option Str × Sem Value)).all _ && decide (as.length + 0 + 0 < 30)) = true
      simp; omega
    unfold methodCall
    refine .bind (.holding ?_)
    unfold calleeOf
    rw [few]
    refine G_if_t ?_
    refine .of (getM_ok P S₁ V₁ h5 fun ρ₂ news₂ h' tk f fs S₂ E₂ hf hfs => ?_)
    dsimp only
    refine .bind ?_
    unfold methodCallPos
    rw [h3]
    refine .pure ?_
    exact wpG.mono (args_call ih hcb hbc P C bd S₂ hf hfs h7 h4 nb₁) (fun _ _ q => QF.mono (E₁.trans E₂) q) fun _ _ q => EF.mono (E₁.trans E₂) q

theorem e_callN (hcb : CbOk prog w p loose mean mg mb x.W cb d) (hbc : BcOk prog w p loose mean mg mb x.W d) (y : Str) (p1 : Pos) (as : List Expr) (pos : Pos) : RunV prog w x vars s₀ (eval (.Call (.Name y p1) as [] pos) x.ce) σ
    (if as.any isStarredE then .bad else (ev x.W cb x.sc n vars (.Name y p1) σ).bind fun f σ => if callable x.W.K f then (evL (ev x.W cb x.sc n vars) as σ).bind fun vs σ => callV x.W cb f ([] ++ vs) σ else .bad) := by
  intro ρ news m loc s S nb
  cases hc : as.any isStarredE with
  | true => rw [hc] at nb; exact absurd rfl nb
  | false =>
    rw [hc] at nb
    simp only [Bool.false_eq_true, if_false] at nb ⊢
    show wpG _ _ (do callWith pos (← eval (.Name y p1) x.ce) [] (backTo pos (starEach as x.ce)) (backToKw pos (keywordEach [] x.ce))) _ _ _
    refine .bind ?_
    refine (ih.e x rfl P C bd vars s₀ (.Name y p1) σ).seq S .refl nb fun f σ₁ vf s₁ ρ₁ news₁ S₁ E₁ V₁ e₁ nb₁ => ?_
    rw [e₁]
    obtain ⟨h7, h8⟩ := if_bad nb₁
    rw [h8] at nb₁ ⊢
    exact wpG.mono (args_call (first := []) (fvs := []) ih hcb hbc P C bd S₁ V₁ (rfl : LR x.sA ρ₁ news₁ [] []) h7 hc nb₁) (fun _ _ q => QF.mono E₁ q) fun _ _ q => EF.mono E₁ q

theorem e_comp (elt iter : Expr) (xn : Str) (px : Pos) (scope : Scope) (pos : Pos) : RunV prog w x vars s₀ (eval (.ListComp elt [⟨.Name xn px, iter, [], 0⟩] scope pos) x.ce) σ
    (if compOk x.sc vars xn scope && plainIter iter then (ev x.W cb x.sc n vars iter σ).bind fun v σ => compW x.W (fun m' => ev x.W cb (fun y => scope.names.lookup y) n m' elt) xn (compVars (fun y => scope.names.lookup y) vars) v σ else .bad) := by
  intro ρ news m loc s S nb
  obtain ⟨hc, he⟩ := if_bad nb
  rw [he] at nb ⊢
  rw [Bool.and_eq_true] at hc
  obtain ⟨k1, k2, k3, k4, k5⟩ := compOk_parts hc.1
  rw [eval_ListComp]
  have hcl : ∃ cl, closureFor scope x.ce = pure cl := by
    obtain ⟨cl, h, _⟩ := closure_ok (scope := scope) (env := x.ce) fun y hy e => by
      obtain ⟨_, h6, h7⟩ := k5 y hy e
      obtain ⟨q, hq⟩ := Option.isSome_iff_exists.mp h7
      obtain ⟨c, _, _, h8, _⟩ := cells_of C S.V h6 hq
      exact ⟨c, h8⟩
    exact ⟨cl, h⟩
  obtain ⟨cl, hcl⟩ := hcl
  refine G_comprehension (use := none) rfl (fun v => folded_plain hc.2 _ _) hcl k1 k4 ?_
  show wpG _ _ (eval iter x.ce) _ _ _
  refine (ih.e x rfl P C bd vars s₀ iter σ).seq S .refl nb fun v σ₁ vv s₁ ρ₁ news₁ S₁ E₁ V₁ e₁ nb₁ => ?_
  rw [e₁]
  unfold compW at nb₁ ⊢
  obtain ⟨Sr, h1, h2⟩ := ofO_some nb₁
  rw [h2] at nb₁ ⊢
  obtain ⟨hz, h3⟩ := if_bad nb₁
  rw [h3] at nb₁ ⊢
  refine Exists.elim (comp_ok (elt := elt) (iter := iter) (px := px) (pos := pos) (f := fun m' => ev x.W cb (fun y => scope.names.lookup y) n m' elt)
    (E := EF x ρ news vars s₀ ((compG (fun m' => ev x.W cb (fun y => scope.names.lookup y) n m' elt) xn (compVars (fun y => scope.names.lookup y) vars) Sr Sr.len 0 σ₁).bind fun vs σ => R.ok (PV.obj σ.length) (σ ++ [PO.list vs])))
    (RR := fun acc C r s' => CompPost (model prog w) x.A (EF x ρ news vars s₀ ((compG (fun m' => ev x.W cb (fun y => scope.names.lookup y) n m' elt) xn (compVars (fun y => scope.names.lookup y) vars) Sr Sr.len 0 σ₁).bind fun vs σ => R.ok (PV.obj σ.length) (σ ++ [PO.list vs]))) none
      (QF x (VRel x.sA) ρ news m loc vars s₀ ((compG (fun m' => ev x.W cb (fun y => scope.names.lookup y) n m' elt) xn (compVars (fun y => scope.names.lookup y) vars) Sr Sr.len 0 σ₁).bind fun vs σ => R.ok (PV.obj σ.length) (σ ++ [PO.list vs]))) acc C r s')
    P C hc.1 (fun x' hW hA P' C' hsc vars' σ' => by
      have := ih.e x' hW P' C' (hA ▸ bd) vars' s₀ elt σ'
      rw [hsc] at this
      exact this) S₁ V₁ h1 hz (R.bind_nb nb₁) fun ps σ' D Cc oC ρ' news' s' hr S' E' hg mC fC vC cC hxC hnC hns => ?k) fun cl' hgo => ?m
  case m =>
    obtain ⟨hcl', go⟩ := hgo
    have hcc : cl' = cl := by
      have h := hcl'.symm.trans hcl
      exact pure_inj h
    rw [hcc] at go
    exact go
  case k =>
    obtain ⟨mC0, hns⟩ := hns
    refine ⟨mC0, hns, fun h' hs' => ?_⟩
    obtain ⟨S3, E3⟩ := S'.drop (tk := s'.toks) (h' := h') mC vC fC cC (.inr hxC) (same_keeps hs')
    rw [hr]
    refine .of S3 ((E₁.trans E').nil.trans E3 |>.strip fun q hq hq2 hm => ?_) ⟨D, [], rfl, by simpa using hg⟩
    exact hnC q (E₁.keep q hq hq2 (.inl (by simp))).1 (by simpa using hm)
end

theorem step_e {n d : Nat} {W : Wd} {cb : CB} (ih : EvOk prog w p loose mean mg mb W cb d n) (hcb : CbOk prog w p loose mean mg mb W cb d) (hbc : BcOk prog w p loose mean mg mb W d) :
    ∀ (x : Fx), x.W = W → x.Pre p loose mean mg mb → x.Sco → Bud x.A d 52 → ∀ vars s₀ e σ, RunV prog w x vars s₀ (eval e x.ce) σ (ev W cb x.sc (n + 1) vars e σ) := by
  intro x hW P C bd vars s₀ e σ
  subst hW
  have bad : ∀ {r : R PV}, r = .bad → RunV prog w x vars s₀ (eval e x.ce) σ r := fun h ρ news m loc s S nb => absurd h nb
  cases e with
  | Constant c k pos => exact fun ρ news m loc s S nb => eval_const S nb
  | Name y pos =>
    intro ρ news m loc s S nb
    change ofO (nameV x.W.K x.sc vars y) (fun v => .ok v σ) ≠ .bad at nb
    show wpG _ _ _ (QF x (VRel x.sA) ρ news m loc vars s₀ (ofO (nameV x.W.K x.sc vars y) fun v => .ok v σ)) (EF x ρ news vars s₀ (ofO (nameV x.W.K x.sc vars y) fun v => .ok v σ)) s
    exact ofO_run (fun v h1 _ _ => .of (name_ok P C S h1)) nb
  | BinOp l op r pos => exact run_eq rfl (e_bin ih P C bd l r op pos)
  | UnaryOp op e pos =>
    cases op with
    | USub => exact run_eq rfl (e_neg ih P C bd e pos)
    | Not => exact run_eq rfl (e_not ih P C bd e pos)
    | _ => exact bad rfl
  | IfExp t a b pos => exact run_eq rfl (e_if ih P C bd t a b pos)
  | BoolOp op es pos =>
    cases es with
    | nil => exact bad (by cases op <;> rfl)
    | cons a r =>
      cases r with
      | nil => exact bad (by cases op <;> rfl)
      | cons b r =>
        cases r with
        | nil =>
          cases op with
          | And => exact run_eq rfl (e_and ih P C bd a b pos)
          | Or => exact run_eq rfl (e_or ih P C bd a b pos)
        | cons c r => exact bad (by cases op <;> rfl)
  | Compare l ops rs pos =>
    cases ops with
    | nil => exact bad rfl
    | cons op os =>
      cases os with
      | cons _ _ => exact bad rfl
      | nil =>
        cases rs with
        | nil => exact bad rfl
        | cons r rs =>
          cases rs with
          | cons _ _ => exact bad rfl
          | nil => exact run_eq rfl (e_cmp ih P C bd l r op pos)
  | List es pos => exact run_eq rfl (e_list ih P C bd es pos)
  | Tuple es k pos => exact run_eq rfl (e_tuple ih P C bd es k pos)
  | Attribute v a pos => exact run_eq rfl (e_attr ih P C bd v a pos)
  | Subscript v i pos =>
    cases i with
    | Slice lo hi st p1 => exact run_eq rfl (e_subS ih P C bd v lo hi st p1 pos)
    | _ => exact run_eq rfl (e_subI ih P C bd v _ pos (fun _ _ _ _ h => by cases h))
  | Call f as kws pos =>
    cases kws with
    | cons _ _ => cases f <;> exact bad rfl
    | nil =>
      cases f with
      | Attribute o a ap => exact run_eq rfl (e_callA ih P C bd hcb hbc o a ap as pos)
      | Name y p1 => exact run_eq rfl (e_callN ih P C bd hcb hbc y p1 as pos)
      | _ => exact bad rfl
  | ListComp elt gens scope pos =>
    cases gens with
    | nil => exact bad rfl
    | cons g gs =>
      cases gs with
      | cons _ _ => obtain ⟨t, i, f, a⟩ := g; cases t <;> cases f <;> (try rcases a with (_ | _) | _) <;> exact bad rfl
      | nil =>
        obtain ⟨t, i, f, a⟩ := g
        cases t with
        | Name xn px =>
          cases f with
          | cons _ _ => rcases a with (_ | _) | _ <;> exact bad rfl
          | nil =>
            rcases a with (_ | _) | _
            · exact run_eq rfl (e_comp ih P C bd elt i xn px scope pos)
            · exact bad rfl
            · exact bad rfl
        | _ => cases f <;> (rcases a with (_ | _) | _) <;> exact bad rfl
  | _ => exact bad rfl

theorem step_o {n d : Nat} {W : Wd} {cb : CB} (ih : EvOk prog w p loose mean mg mb W cb d n) :
    ∀ (x : Fx), x.W = W → x.Pre p loose mean mg mb → x.Sco → Bud x.A d 52 → ∀ vars s₀ e σ, RunV prog w x vars s₀ (valueOrNone (evalOpt e x.ce)) σ (evO W cb x.sc (n + 1) vars e σ) := by
  intro x hW P C bd vars s₀ e σ
  subst hW
  cases e with
  | none => exact fun ρ news m loc s S nb => .pure (.pure S rfl)
  | some e => exact run_eq rfl (ih.e x rfl P C bd vars s₀ e σ)

section
variable {n d : Nat} {cb : CB} (ih : EvOk prog w p loose mean mg mb x.W cb d n) (P : x.Pre p loose mean mg mb) (C : x.Sco) (bd : Bud x.A d 52)
include ih P C bd

theorem t_not (e : Expr) (pos : Pos) {whole : Sem Value} : Run prog w x BRel vars s₀ (isTrue (.UnaryOp .Not e pos) x.ce whole) σ ((ts x.W cb x.sc n vars e σ).bind fun b σ => .ok (!b) σ) := by
  intro ρ news m loc s S nb
  refine G_isTrue_Not ?_
  refine (ih.t x rfl P C bd vars s₀ e σ).seq S .refl nb fun c σ₁ vc s₁ ρ₁ news₁ S₁ E₁ V₁ e₁ nb₁ => ?_
  rw [e₁]
  exact .of S₁ E₁ (congrArg (!·) V₁)
theorem t_cmp (l r : Expr) (op : CmpOp) (pos : Pos) {whole : Sem Value} : Run prog w x BRel vars s₀ (isTrue (.Compare l [op] [r] pos) x.ce whole) σ (if behindInMarks op r then .bad else (ev x.W cb x.sc n vars l σ).bind fun a σ => (ev x.W cb x.sc n vars r σ).bind fun b σ => ofO (cmpop op a b σ) fun c => .ok c σ) := by
  intro ρ news m loc s S nb
  cases hm : behindInMarks op r with
  | true => rw [hm] at nb; exact absurd rfl nb
  | false =>
    rw [hm] at nb
    simp only [Bool.false_eq_true, if_false] at nb ⊢
    refine G_isTrue_Compare1 hm ?_
    refine (ih.e x rfl P C bd vars s₀ l σ).seq S .refl nb fun a σ₁ va s₁ ρ₁ news₁ S₁ E₁ V₁ e₁ nb₁ => ?_
    rw [e₁]
    refine (ih.e x rfl P C bd vars s₀ r σ₁).seq S₁ E₁ nb₁ fun b σ₂ vb s₂ ρ₂ news₂ S₂ E₂ V₂ e₂ nb₂ => ?_
    rw [e₂]
    obtain ⟨c, h1, h2⟩ := ofO_some nb₂
    rw [h2]
    exact .of (cmp_ok bd.hu S₂ (VR.mono E₂ _ _ V₁) V₂ h1 (wpG.of (wpAny_truthy_bool (QF.of S₂ (E₁.trans E₂) rfl))))
theorem t_val (e : Expr) (he : isTrue e x.ce (eval e x.ce) = (do let v ← eval e x.ce; standAt e.pos; holding [v] (truthy v))) : Run prog w x BRel vars s₀ (isTrue e x.ce (eval e x.ce)) σ ((ev x.W cb x.sc n vars e σ).bind fun v σ => ofO (truthO x.W σ v) fun b => .ok b σ) := by
  intro ρ news m loc s S nb
  refine G_isTrue_value he ?_
  refine (ih.e x rfl P C bd vars s₀ e σ).seq S .refl nb fun v σ₁ va s₁ ρ₁ news₁ S₁ E₁ V₁ e₁ nb₁ => ?_
  rw [e₁]
  obtain ⟨c, h1, h2⟩ := ofO_some nb₁
  rw [h2]
  exact .of (truth_ok P S₁ V₁ h1 fun tk => .of S₁.tok E₁ rfl)
end

theorem step_t {n d : Nat} {W : Wd} {cb : CB} (ih : EvOk prog w p loose mean mg mb W cb d n) :
    ∀ (x : Fx), x.W = W → x.Pre p loose mean mg mb → x.Sco → Bud x.A d 52 → ∀ vars s₀ e σ, Run prog w x BRel vars s₀ (isTrue e x.ce (eval e x.ce)) σ (ts W cb x.sc (n + 1) vars e σ) := by
  intro x hW P C bd vars s₀ e σ
  subst hW
  have bad : ∀ {r : R Bool}, r = .bad → Run prog w x BRel vars s₀ (isTrue e x.ce (eval e x.ce)) σ r := fun h ρ news m loc s S nb => absurd h nb
  cases e with
  | UnaryOp op e pos =>
    cases op with
    | Not => exact run_eq rfl (t_not ih P C bd e pos)
    | _ => exact run_eq rfl (t_val ih P C bd _ rfl)
  | BoolOp op es pos => exact run_eq rfl (ih.l x rfl P C bd vars s₀ op es σ)
  | IfExp t a b pos => exact bad rfl
  | Compare l ops rs pos =>
    cases ops with
    | nil => exact bad rfl
    | cons op os =>
      cases os with
      | cons _ _ => exact bad rfl
      | nil =>
        cases rs with
        | nil => exact bad rfl
        | cons r rs =>
          cases rs with
          | cons _ _ => exact bad rfl
          | nil => exact run_eq rfl (t_cmp ih P C bd l r op pos)
  | _ => exact run_eq rfl (t_val ih P C bd _ rfl)

theorem step_l {n d : Nat} {W : Wd} {cb : CB} (ih : EvOk prog w p loose mean mg mb W cb d n) :
    ∀ (x : Fx), x.W = W → x.Pre p loose mean mg mb → x.Sco → Bud x.A d 52 → ∀ vars s₀ op es σ, Run prog w x BRel vars s₀ (allTrue op es x.ce) σ (tsL W cb x.sc (n + 1) op vars es σ) := by
  intro x hW P C bd vars s₀ op es σ
  subst hW
  cases es with
  | nil => exact fun ρ news m loc s S nb => .pure (.pure S rfl)
  | cons e r =>
    have key : ∀ (f : Bool → PH → R Bool), (∀ σ, f (op == .And) σ = tsL x.W cb x.sc n op vars r σ) → (∀ σ, f (!(op == .And)) σ = .ok (!(op == .And)) σ) → Run prog w x BRel vars s₀ (allTrue op (e :: r) x.ce) σ ((ts x.W cb x.sc n vars e σ).bind f) := by
      intro f h1 h2 ρ news m loc s S nb
      refine G_allTrue_cons ?_
      refine (ih.t x rfl P C bd vars s₀ e σ).seq S .refl nb fun c σ₁ vc s₁ ρ₁ news₁ S₁ E₁ V₁ e₁ nb₁ => ?_
      rw [e₁]
      have V₁ : vc = c := V₁
      subst V₁
      cases op <;> cases vc
      · rw [show f false σ₁ = .ok false σ₁ from h2 σ₁]; exact .of S₁ E₁ rfl
      · have h3 : f true σ₁ = _ := h1 σ₁
        rw [h3] at nb₁ ⊢
        exact (ih.l x rfl P C bd vars s₀ .And r σ₁).at S₁ E₁ nb₁
      · have h3 : f false σ₁ = _ := h1 σ₁
        rw [h3] at nb₁ ⊢
        exact (ih.l x rfl P C bd vars s₀ .Or r σ₁).at S₁ E₁ nb₁
      · rw [show f true σ₁ = .ok true σ₁ from h2 σ₁]; exact .of S₁ E₁ rfl
    cases op
    · exact run_eq rfl (key _ (fun σ => rfl) (fun σ => rfl))
    · exact run_eq rfl (key _ (fun σ => rfl) (fun σ => rfl))

theorem ev_sound {d : Nat} {W : Wd} {cb : CB} (hcb : CbOk prog w p loose mean mg mb W cb d) (hbc : BcOk prog w p loose mean mg mb W d) : ∀ n, EvOk prog w p loose mean mg mb W cb d n
  | 0 => ⟨fun _ _ _ _ _ _ _ _ _ _ _ _ _ _ _ nb => absurd rfl nb, fun _ _ _ _ _ _ _ _ _ _ _ _ _ _ _ nb => absurd rfl nb, fun _ _ _ _ _ _ _ _ _ _ _ _ _ _ _ nb => absurd rfl nb, fun _ _ _ _ _ _ _ _ _ _ _ _ _ _ _ _ nb => absurd rfl nb⟩
  | n + 1 => have ih := ev_sound hcb hbc n
    ⟨step_e ih hcb hbc, step_o ih, step_t ih, step_l ih⟩
end
end Mine
end
/-! part MiniV -/
section
open PySem PySem.W PySem.Calls PyProof.Rows
namespace Mine
variable {prog : Program} {w : World} {p : Program} {loose : List Str} {mean : ExcName → Option Value} {mg mb : Str → Option Value}

/-! statements -/
def FlR (sA : Addr) (ρ : Foot) (news : Led) : Fl → Flow → Prop
  | .next, f => f = .next
  | .brk, f => f = .brk
  | .cont, f => f = .cont
  | .ret q, f => ∃ v, f = .ret v ∧ VR sA ρ news q v
def Fx.cells (x : Fx) : List Addr := x.ce.cells.map (·.2)
def SF (x : Fx) (ρ : Foot) (news : Led) (s₀ : Shared) (r : SR) (f : Flow) (s' : Shared) : Prop := match r with
  | .ok fl vars' σ' => ∃ ρ' news' m' loc', St x ρ' news' σ' m' loc' vars' s₀ s' ∧ Ext x.cells ρ news ρ' news' ∧ FlR x.sA ρ' news' fl f
  | _ => False
def RunS (prog : Program) (w : World) (x : Fx) (s₀ : Shared) (t : Sem Flow) (vars : Vars) (σ : PH) (r : SR) : Prop :=
  ∀ ρ news m loc s, St x ρ news σ m loc vars s₀ s → r ≠ .bad → wpG (model prog w) x.A t (SF x ρ news s₀ r) NoE s
structure Fx.Fun (x : Fx) : Prop where
  low : ∀ {ρ : Foot} {news : Led} {σ : PH} {m loc : Str → Option Value} {vars : Vars} {s₀ s : Shared}, St x ρ news σ m loc vars s₀ s → s.heap.objs.size ∉ x.cells
  same : x.ce = x.fe
  has : ∀ y, x.ce.kindOf y = some .cell → ∃ c, x.ce.cells.lookup y = some c

section
variable {x : Fx} {ρ : Foot} {news : Led} {σ : PH} {m loc : Str → Option Value} {vars : Vars} {s₀ s : Shared}

theorem SF.mono {ρ₁ : Foot} {news₁ : Led} {r : SR} {f : Flow} {s' : Shared} (e : Ext x.cells ρ news ρ₁ news₁) (h : SF x ρ₁ news₁ s₀ r f s') : SF x ρ news s₀ r f s' := by
  cases r with
  | ok fl v σ' => obtain ⟨ρ', news', m', loc', S, E, h⟩ := h; exact ⟨ρ', news', m', loc', S, e.trans E, h⟩
  | _ => exact h
theorem RunS.at {t : Sem Flow} {r : SR} (h : RunS prog w x s₀ t vars σ r) {ρ₁ : Foot} {news₁ : Led} (S : St x ρ₁ news₁ σ m loc vars s₀ s) (e : Ext x.cells ρ news ρ₁ news₁) (nb : r ≠ .bad) : wpG (model prog w) x.A t (SF x ρ news s₀ r) NoE s :=
  (h _ _ _ _ _ S nb).monoQ fun _ _ q => q.mono e
theorem runS_eq {t : Sem Flow} {r r' : SR} (e : r = r') (h : RunS prog w x s₀ t vars σ r') : RunS prog w x s₀ t vars σ r := e ▸ h

theorem st_seq {α β : Type} {Rel : Foot → Led → β → α → Prop} {t : Sem α} {r : R β} {f : β → PH → SR} {Q : α → Shared → Prop} {ρ₁ : Foot} {news₁ : Led} (h : Run prog w x Rel vars s₀ t σ r) (S : St x ρ₁ news₁ σ m loc vars s₀ s) (nb : r.st vars f ≠ .bad)
    (k : ∀ b σ' a s' ρ' news', St x ρ' news' σ' m loc vars s₀ s' → Ext [] ρ₁ news₁ ρ' news' → Rel ρ' news' b a → r.st vars f = f b σ' → f b σ' ≠ .bad → Q a s') :
    wpG (model prog w) x.A t Q NoE s := by
  cases r with
  | ok b σ' =>
    refine wpG.mono (h _ _ _ _ _ S (by intro q; cases q)) (fun a s' q => ?_) fun _ _ q => q.elim
    obtain ⟨ρ', news', S', E', h'⟩ := q
    exact k b σ' a s' ρ' news' S' E' h' rfl nb
  | err pe σ' => exact wpG.mono (h _ _ _ _ _ S (by intro q; cases q)) (fun _ _ q => q.elim) fun v s' q => EF.no q
  | bad => exact absurd rfl nb
theorem ofS_some {α : Type} {o : Option α} {f : α → SR} (nb : ofS o f ≠ .bad) : ∃ a, o = some a ∧ ofS o f = f a := by
  cases o with
  | some a => exact ⟨a, rfl, rfl⟩
  | none => exact absurd rfl nb
theorem if_badS {c : Prop} [Decidable c] {r : SR} (nb : (if c then r else .bad) ≠ .bad) : c ∧ (if c then r else .bad) = r := by
  by_cases h : c
  · exact ⟨h, if_pos h⟩
  · rw [if_neg h] at nb; exact absurd rfl nb
theorem if_badS' {c : Prop} [Decidable c] {r : SR} (nb : (if c then .bad else r) ≠ .bad) : ¬ c ∧ (if c then .bad else r) = r := by
  by_cases h : c
  · rw [if_pos h] at nb; exact absurd rfl nb
  · exact ⟨h, if_neg h⟩

theorem St.vars_set (S : St x ρ news σ m loc vars s₀ s) (U : x.Fun) (C : x.Sco) {y : Str} {q : PV} {v : Value} (hy : localIn x.sc y = true) (vr : VR x.sA ρ news q v) {M : Model} {E : Value → Shared → Prop} {Q : Unit → Shared → Prop}
    (k : ∀ news' m' loc' h' tk, St x ρ news' σ m' loc' (vars.set y q) s₀ { s with heap := h', toks := tk } → Ext x.cells ρ news ρ news' → (x.ce.kindOf y = some .local → news' = news) → Q () { s with heap := h', toks := tk }) :
    wpAny M x.A (storeName x.ce y v) Q E s := by
  have hL : loc = m := by
    rcases S.L with ⟨_, h⟩ | ⟨_, _, _, h, _⟩
    · exact h
    · exact absurd (congrArg Env.locals U.same) h.2
  have notL : ∀ z ∈ news, z.1 ≠ x.ce.locals := fun z hz => by rw [U.same]; exact (S.N z hz).2.1
  have loc_case : x.ce.kindOf y = some .local → wpAny M x.A (storeName x.ce y v) Q E s := fun hk => by
    refine wpAny_storeName_local hk S.ns (fun h' hn hs => ?_) (by rw [C.ck]; rfl)
    have hn' : h'.Ns x.fe.locals (fun z => if z = y then some v else m z) := by rw [← U.same, ← hL]; exact hn
    have hs' : Heap.SameBut x.fe.locals s.heap h' := by rw [← U.same]; exact hs
    refine k news _ _ h' _ ⟨S.F.set hn' hs', fun z hz => ⟨(hs'.2 _ (S.N z hz).2.1).trans (S.N z hz).1, (S.N z hz).2⟩, S.nd, S.R, .inl ⟨U.same, rfl⟩, ⟨fun z r hr => ?_, S.V.c, S.V.i⟩, ?_⟩ .refl fun _ => rfl
    · unfold Vars.set at hr
      by_cases hz : z = y
      · subst hz
        rw [if_pos rfl] at hr; cases hr
        rw [hk]
        exact ⟨v, by simp, vr⟩
      · rw [if_neg hz] at hr
        have := S.V.v z r hr
        split at this
        · obtain ⟨u, h5, h6⟩ := this
          exact ⟨u, by simp [hz, ← hL, h5], h6⟩
        · exact this
        · exact this
        · trivial
    · obtain ⟨h, t, q⟩ := S.sh; subst q; exact ⟨h', _, rfl⟩
  have cell_case : x.ce.kindOf y = some .cell → wpAny M x.A (storeName x.ce y v) Q E s := fun hk => by
    obtain ⟨c, hc⟩ := U.has y hk
    obtain ⟨o, w0, hm, hd, ho⟩ := S.V.c y c hk hc
    have hvv : isVal o = false := isVal_dict (by rw [ho]; rfl)
    refine wpAny_storeName_cell C.ck hk hc ⟨o, S.N.get hm, ho⟩ fun h' hcell hs => ?_
    obtain ⟨o', g, ho'⟩ := hcell
    have e : Ext [c] ρ news ρ (updL c o' news) := .turn S.nd hm hvv
    have hin : c ∈ x.cells := by
      obtain ⟨l1, l2, e2, _⟩ := List.lookup_eq_some_iff.mp hc
      unfold Fx.cells; rw [e2]; simp
    have D := S.N _ hm
    refine k (updL c o' news) m loc h' s.toks ⟨fr_but S.F (same_keeps hs) D.2.2 D.2.1, fun z hz => ?_, by rw [updL_addr]; exact S.nd, S.R.turn S.nd hm hvv hd, .inl ⟨U.same, hL⟩, ⟨fun z r hr => ?_, fun z d hkz hdz => ?_, S.V.i⟩, ?_⟩ (e.weak fun d hd => by rw [List.mem_singleton] at hd; subst hd; exact hin) (fun hl => by rw [hk] at hl; cases hl)
    · rcases of_mem_updL hz with rfl | ⟨h5, h6⟩
      · exact ⟨g, D.2⟩
      · exact ⟨same_keeps hs _ _ h6 (S.N z h5).1, (S.N z h5).2⟩
    · unfold Vars.set at hr
      by_cases hz : z = y
      · subst hz
        rw [if_pos rfl] at hr; cases hr
        rw [hk]
        exact ⟨c, v, o', hc, mem_updL_self hm, hd, ho', vr.mono e⟩
      · rw [if_neg hz] at hr
        have := S.V.v z r hr
        have cells : (∃ d u od, x.ce.cells.lookup z = some d ∧ (d, od) ∈ news ∧ d ∉ ρ.flatten ∧ od.data = .cell (some u) ∧ VR x.sA ρ news r u) → ∃ d u od, x.ce.cells.lookup z = some d ∧ (d, od) ∈ updL c o' news ∧ d ∉ ρ.flatten ∧ od.data = .cell (some u) ∧ VR x.sA ρ (updL c o' news) r u := by
          rintro ⟨d, u, od, h1, h2, h3, h4, h5⟩
          exact ⟨d, u, od, h1, mem_updL_ne h2 fun (hdc : d = c) => hz (S.V.i z y c (hdc ▸ h1) hc), h3, h4, h5.mono e⟩
        split at this
        · obtain ⟨u, h5, h6⟩ := this
          exact ⟨u, h5, h6.mono e⟩
        · exact cells this
        · exact cells this
        · trivial
    · obtain ⟨od, wd, h1, h2, h3⟩ := S.V.c z d hkz hdz
      by_cases hdc : d = c
      · subst hdc
        exact ⟨o', _, mem_updL_self hm, hd, ho'⟩
      · exact ⟨od, wd, mem_updL_ne h1 hdc, h2, h3⟩
    · obtain ⟨h, t, q⟩ := S.sh; subst q; exact ⟨h', _, rfl⟩
  unfold localIn at hy
  split at hy
  · rename_i hs
    rcases C.sk _ _ hs with hk | ⟨hk, _⟩
    · exact loc_case hk
    · cases hk
  · rename_i hs
    rcases C.sk _ _ hs with hk | ⟨hk, _⟩
    · exact cell_case hk
    · cases hk
  · cases hy
end
end Mine
end
/-! part MiniW -/
section
open PySem PySem.W PySem.Calls PyProof.Rows
namespace Mine
variable {prog : Program} {w : World} {p : Program} {loose : List Str} {mean : ExcName → Option Value} {mg mb : Str → Option Value}

section
variable {A : Around} {E : Value → Shared → Prop} {s : Shared} {env : Env}
theorem no_swap {value : Expr} {target : Option Expr} {line : Nat} (h : isListComp value = false) : swapsWith value target line env = pure false := by
  cases value <;> first | rfl | cases h
theorem no_swap' {value : Expr} {target : Expr} {line : Nat} (h : ∀ x q, target ≠ .Name x q) : swapsWith value (some target) line env = pure false := by
  cases target <;> first | exact absurd rfl (h _ _) | (cases value <;> rfl)

theorem G_Expr {e pos} {Q : Flow → Shared → Prop} (hi : interactive env = false) (hs : swapsWith e none pos.line env = pure false) (h : wpG (model prog w) A (eval e env) (fun _ => Q .next) E s) : wpG (model prog w) A (exec (.Expr e pos) env) Q E s := by
  rw [exec_Expr env e pos hi hs]
  exact .bind (.standAt (.bind (h.monoQ fun v s' h' => .of (wpAny_dropValue h'))))
theorem G_Assign_Attr {M : Model} {o attr pos' value pos} {Q : Flow → Shared → Prop} (hs : swapsWith value (some (.Attribute o attr pos')) pos.line env = pure false)
    (h : wpG M A (eval value env) (fun v s₁ => wpG M A (eval o env) (fun ov s₂ => wpG M A (setAttr ov attr v) (fun _ => Q .next) E s₂) E s₁) E s) : wpG M A (exec (.Assign [.Attribute o attr pos'] value pos) env) Q E s := by
  rw [plainObj_exec_Assign_Attribute _ _ _ _ _ hs]
  refine .bind (.standAt (.bind (h.monoQ fun v s₁ h₁ => .bind ?_)))
  rw [assign_Attribute]
  exact .bind (.holding (h₁.monoQ fun ov s₂ h₂ => .bind (.standAt (.bind (.holding (h₂.monoQ fun _ s₃ h₃ => .release (.pure h₃)))))))
theorem G_Assign_Sub {M : Model} {o i pos' value pos} {Q : Flow → Shared → Prop} (hs : swapsWith value (some (.Subscript o i pos')) pos.line env = pure false)
    (h : wpG M A (eval value env) (fun v s₁ => wpG M A (eval o env) (fun ov s₂ => wpG M A (eval i env) (fun iv s₃ => wpG M A (setItem ov iv v) (fun _ => Q .next) E s₃) E s₂) E s₁) E s) : wpG M A (exec (.Assign [.Subscript o i pos'] value pos) env) Q E s := by
  rw [exec_Assign_Subscript _ _ _ _ _ hs]
  refine .bind (.standAt (.bind (h.monoQ fun v s₁ h₁ => .bind ?_)))
  rw [assign_Subscript]
  exact .bind (.holding (h₁.monoQ fun ov s₂ h₂ => .bind (.holding (h₂.monoQ fun iv s₃ h₃ => .bind (.standAt (.bind (.holding (h₃.monoQ fun _ s₄ h₄ => .release (.pure h₄)))))))))
theorem G_AugAttr {M : Model} {o value : Expr} {attr : Str} {tpos pos : Pos} {op : Operator} {Q : Flow → Shared → Prop}
    (h : wpG M A (eval o env) (fun ov s₁ => wpG M A (getAttr ov attr true) (fun old s₂ => wpG M A (eval value env) (fun v s₃ => wpG M A (inplaceOp op old v) (fun new s₄ => wpG M A (setAttr ov attr new) (fun _ => Q .next) E s₄) E s₃) E s₂) E s₁) E s) :
    wpG M A (exec (.AugAssign (.Attribute o attr tpos) op value pos) env) Q E s := by
  have e : exec (.AugAssign (.Attribute o attr tpos) op value pos) env = (do
      standAt pos
      let ov ← eval o env
      let new ← holding [ov] do
        standAt tpos.atName
        let old ← getAttr ov attr true
        let v ← holding [old] (eval value env)
        standAt pos
        operate [old, v] (inplaceOp op old v)
      standAt tpos.atName
      holding [new, ov] (setAttr ov attr new)
      release [new, ov] []
      pure .next) := rfl
  rw [e]
  refine .bind (.standAt (.bind (h.monoQ fun ov s₁ h₁ => .bind (.holding (.bind (.standAt (.bind (h₁.monoQ fun old s₂ h₂ => .bind (.holding (h₂.monoQ fun v s₃ h₃ => .bind (.standAt (.operate (h₃.monoQ fun new s₄ h₄ => ?_)))))))))))))
  exact .bind (.standAt (.bind (.holding (h₄.monoQ fun _ s₅ h₅ => .bind (.release (.pure h₅))))))
theorem G_Try {body : List Stmt} {h₀ : ExceptHandler} {hs : List ExceptHandler} {pos : Pos} {Q : Flow → Shared → Prop} (h : wpG (model prog w) A (execs body env) Q NoE s) : wpG (model prog w) A (exec (.Try body (h₀ :: hs) [] [] pos) env) Q E s := by
  rw [arm_exec_Try]
  refine .bind (.standAt ?_)
  unfold tryStmt
  simp only [List.isEmpty_nil, if_true, List.isEmpty_cons, Bool.false_and, Bool.false_eq_true, if_false]
  refine .bind (.attempt (h.mono (fun f s₁ h₁ => ?_) fun e s₁ h₁ => h₁.elim))
  cases f <;> first | exact G_execs_nil h₁ | exact .pure h₁
end

structure ExOk (prog : Program) (w : World) (p : Program) (loose : List Str) (mean : ExcName → Option Value) (mg mb : Str → Option Value) (W : Wd) (cb : CB) (d n : Nat) : Prop where
  s : ∀ (x : Fx), x.W = W → x.Pre p loose mean mg mb → x.Sco → x.Fun → Bud x.A d 52 → ∀ s₀ vars st σ, RunS prog w x s₀ (exec st x.ce) vars σ (ex W cb x.sc n vars st σ)
  l : ∀ (x : Fx), x.W = W → x.Pre p loose mean mg mb → x.Sco → x.Fun → Bud x.A d 52 → ∀ s₀ vars sts σ, RunS prog w x s₀ (execs sts x.ce) vars σ (exs W cb x.sc n vars sts σ)

section
variable {x : Fx} {ρ : Foot} {news : Led} {σ : PH} {m loc : Str → Option Value} {vars : Vars} {s₀ s : Shared}

theorem SF.of {ρ' : Foot} {news' : Led} {m' loc' : Str → Option Value} {vars' : Vars} {σ' : PH} {fl : Fl} {f : Flow} {s' : Shared} (S : St x ρ' news' σ' m' loc' vars' s₀ s') (e : Ext x.cells ρ news ρ' news') (h : FlR x.sA ρ' news' fl f) : SF x ρ news s₀ (.ok fl vars' σ') f s' :=
  ⟨ρ', news', m', loc', S, e, h⟩

theorem inplace_ok (S : St x ρ news σ m loc vars s₀ s) {op : Operator} {a b i : Int} {t u : Tok} (h : intOp op a b = some i) :
    wpAny (model prog w) x.A (inplaceOp op (.int a t) (.int b u)) (QF x (VRel x.sA) ρ news m loc vars s₀ (.ok (.int i) σ)) NoE s := by
  have q : ∀ i tk tk', QF x (VRel x.sA) ρ news m loc vars s₀ (.ok (.int i) σ) (.int i tk) { s with toks := tk' } := fun i tk tk' => .pure S.tok ⟨_, rfl⟩
  cases op <;> simp only [intOp] at h
  case Add => cases h; exact PyProof.Rows.iadd_int (q _ _ _)
  case Sub => cases h; exact PyProof.Rows.isub_int (q _ _ _)
  case Mult => split at h <;> cases h; rename_i hm; exact PyProof.Rows.imul_int (q _ _ _) (by unfold mulOk at hm; unfold IntMulOk; intro hc; rw [hc] at hm; cases hm)
  case Mod => split at h <;> cases h; rename_i hm; exact PyProof.Rows.imod_int hm (q _ _ _)
  case FloorDiv => split at h <;> cases h; rename_i hm; exact PyProof.Rows.ifloordiv_int hm.1 (q _ _ _) (.inl (by have := hm.2; unfold divOk at this; simpa using this))
  case Pow => split at h <;> cases h; rename_i hm; exact PyProof.Rows.ipow_int hm.1 (by have := hm.2; unfold powOk at this; exact of_decide_eq_true this) (q _ _ _)
  case LShift => split at h <;> cases h; rename_i hm; exact PyProof.Rows.ilshift_int hm.1 (by have := hm.2; unfold shlOk at this; exact of_decide_eq_true this) (q _ _ _)
  case RShift => split at h <;> cases h; rename_i hm; exact PyProof.Rows.irshift_int hm (q _ _ _)
  case BitAnd => cases h; exact PyProof.Rows.iand_int (q _ _ _)
  case BitOr => cases h; exact PyProof.Rows.ior_int (q _ _ _)
  case BitXor => cases h; exact PyProof.Rows.ixor_int (q _ _ _)
  all_goals cases h
theorem inter_no (C : x.Sco) : interactive x.ce = false := by unfold interactive; rw [C.ck]; rfl

section
variable {n d : Nat} {cb : CB} (iv : EvOk prog w p loose mean mg mb x.W cb d n) (P : x.Pre p loose mean mg mb) (C : x.Sco) (U : x.Fun) (bd : Bud x.A d 52)
include iv P C U bd

theorem s_ret (e : Expr) (pos : Pos) : RunS prog w x s₀ (exec (.Return (some e) pos) x.ce) vars σ ((ev x.W cb x.sc n vars e σ).st vars fun v σ => .ok (.ret v) vars σ) := by
  intro ρ news m loc s S nb
  refine G_Return (st_seq (iv.e x rfl P C bd vars s₀ e σ) S nb fun v σ₁ vv s₁ ρ₁ news₁ S₁ E₁ V₁ e₁ nb₁ => ?_)
  rw [e₁]
  exact .of S₁ E₁.nil ⟨vv, rfl, V₁⟩
theorem s_expr (e : Expr) (pos : Pos) : RunS prog w x s₀ (exec (.Expr e pos) x.ce) vars σ (if isListComp e then .bad else (ev x.W cb x.sc n vars e σ).st vars fun _ σ => .ok .next vars σ) := by
  intro ρ news m loc s S nb
  obtain ⟨hc, he⟩ := if_badS' nb
  rw [he] at nb ⊢
  refine G_Expr (inter_no C) (no_swap (by simpa using hc)) (st_seq (iv.e x rfl P C bd vars s₀ e σ) S nb fun v σ₁ vv s₁ ρ₁ news₁ S₁ E₁ V₁ e₁ nb₁ => ?_)
  rw [e₁]
  exact .of S₁ E₁.nil rfl

theorem s_assignPlain (y : Str) (py pos : Pos) (e : Expr) (hs : swapsWith e (some (.Name y py)) pos.line x.ce = pure false) : RunS prog w x s₀ (exec (.Assign [.Name y py] e pos) x.ce) vars σ (if localIn x.sc y then (ev x.W cb x.sc n vars e σ).st vars fun v σ => .ok .next (vars.set y v) σ else .bad) := by
  intro ρ news m loc s S nb
  obtain ⟨hy, he⟩ := if_badS nb
  rw [he] at nb ⊢
  refine G_Assign_Name hs (st_seq (iv.e x rfl P C bd vars s₀ e σ) S nb fun v σ₁ vv s₁ ρ₁ news₁ S₁ E₁ V₁ e₁ nb₁ => ?_)
  rw [e₁]
  refine .of (S₁.vars_set U C hy V₁ fun news' m' loc' h' tk S' E' _ => ?_)
  exact .of S' (E₁.nil.trans E') rfl

theorem s_assignAttr (o : Expr) (a : Str) (p1 pos : Pos) (e : Expr) : RunS prog w x s₀ (exec (.Assign [.Attribute o a p1] e pos) x.ce) vars σ (if isListComp e then .bad else (ev x.W cb x.sc n vars e σ).st vars fun v σ => (ev x.W cb x.sc n vars o σ).st vars fun ov σ => ofS (setA x.W σ ov a v) fun σ => .ok .next vars σ) := by
  intro ρ news m loc s S nb
  obtain ⟨hc, he⟩ := if_badS' nb
  rw [he] at nb ⊢
  refine G_Assign_Attr (no_swap (by simpa using hc)) (st_seq (iv.e x rfl P C bd vars s₀ e σ) S nb fun v σ₁ vv s₁ ρ₁ news₁ S₁ E₁ V₁ e₁ nb₁ => ?_)
  rw [e₁]
  refine st_seq (iv.e x rfl P C bd vars s₀ o σ₁) S₁ nb₁ fun ov σ₂ vo s₂ ρ₂ news₂ S₂ E₂ V₂ e₂ nb₂ => ?_
  rw [e₂]
  obtain ⟨σ₃, h1, h2⟩ := ofS_some nb₂
  rw [h2]
  refine .of (setA_ok P S₂ V₂ (VR.mono E₂ _ _ V₁) h1 fun ρ' news' h' tk S' E' => ?_)
  exact .of S' ((E₁.trans E₂).trans E').nil rfl

theorem s_assignI (o i : Expr) (p1 pos : Pos) (e : Expr) : RunS prog w x s₀ (exec (.Assign [.Subscript o i p1] e pos) x.ce) vars σ (if isListComp e then .bad else
        (ev x.W cb x.sc n vars e σ).st vars fun v σ => (ev x.W cb x.sc n vars o σ).st vars fun ov σ => (ev x.W cb x.sc n vars i σ).st vars fun iv σ => (match iv with
          | .int k => ofS (setI σ ov k v) fun σ => .ok .next vars σ
          | _ => .bad)) := by
  intro ρ news m loc s S nb
  obtain ⟨hc, he⟩ := if_badS' nb
  rw [he] at nb ⊢
  refine G_Assign_Sub (no_swap (by simpa using hc)) (st_seq (iv.e x rfl P C bd vars s₀ e σ) S nb fun v σ₁ vv s₁ ρ₁ news₁ S₁ E₁ V₁ e₁ nb₁ => ?_)
  rw [e₁]
  refine st_seq (iv.e x rfl P C bd vars s₀ o σ₁) S₁ nb₁ fun ov σ₂ vo s₂ ρ₂ news₂ S₂ E₂ V₂ e₂ nb₂ => ?_
  rw [e₂]
  refine st_seq (iv.e x rfl P C bd vars s₀ i σ₂) S₂ nb₂ fun k σ₃ vk s₃ ρ₃ news₃ S₃ E₃ V₃ e₃ nb₃ => ?_
  rw [e₃]
  split at nb₃
  · obtain ⟨σ₄, h1, h2⟩ := ofS_some nb₃
    rw [h2]
    obtain ⟨t, rfl⟩ := V₃
    refine setI_ok P S₃ (VR.mono E₃ _ _ V₂) (VR.mono (E₂.trans E₃) _ _ V₁) h1 fun ρ' news' h' S' E' => ?_
    exact .of S' (((E₁.trans E₂).trans E₃).trans E').nil rfl
  · exact absurd rfl nb₃

theorem s_assignS (o lo hi : Expr) (p0 p1 pos : Pos) (e : Expr) : RunS prog w x s₀ (exec (.Assign [.Subscript o (.Slice (some lo) (some hi) .none p0) p1] e pos) x.ce) vars σ (if isListComp e then .bad else
        (ev x.W cb x.sc n vars e σ).st vars fun v σ => (ev x.W cb x.sc n vars o σ).st vars fun ov σ => (ev x.W cb x.sc n vars lo σ).st vars fun a σ => (ev x.W cb x.sc n vars hi σ).st vars fun b σ => (match a, b with
          | .int a, .int b => ofS (setS σ ov a b v) fun σ => .ok .next vars σ
          | _, _ => .bad)) := by
  intro ρ news m loc s S nb
  obtain ⟨hc, he⟩ := if_badS' nb
  rw [he] at nb ⊢
  refine G_Assign_Sub (no_swap (by simpa using hc)) (st_seq (iv.e x rfl P C bd vars s₀ e σ) S nb fun v σ₁ vv s₁ ρ₁ news₁ S₁ E₁ V₁ e₁ nb₁ => ?_)
  rw [e₁]
  refine st_seq (iv.e x rfl P C bd vars s₀ o σ₁) S₁ nb₁ fun ov σ₂ vo s₂ ρ₂ news₂ S₂ E₂ V₂ e₂ nb₂ => ?_
  rw [e₂]
  refine G_Slice ?_
  refine st_seq (iv.e x rfl P C bd vars s₀ lo σ₂) S₂ nb₂ fun a σ₃ va s₃ ρ₃ news₃ S₃ E₃ V₃ e₃ nb₃ => ?_
  rw [e₃]
  refine st_seq (iv.e x rfl P C bd vars s₀ hi σ₃) S₃ nb₃ fun b σ₄ vb s₄ ρ₄ news₄ S₄ E₄ V₄ e₄ nb₄ => ?_
  rw [e₄]
  split at nb₄
  · obtain ⟨σ₅, h1, h2⟩ := ofS_some nb₄
    rw [h2]
    obtain ⟨t, rfl⟩ := V₃
    obtain ⟨u, rfl⟩ := V₄
    refine .pure (.of (wpAny_newObj_type ?_ (by size_fits)))
    refine setS_ok P S₄ (VR.mono (E₃.trans E₄) _ _ V₂) (VR.mono ((E₂.trans E₃).trans E₄) _ _ V₁) (.int _ _) (.int _ _) h1 fun ρ' news' h' S' E' => ?_
    exact .of S' ((((E₁.trans E₂).trans E₃).trans E₄).trans E').nil rfl
  · exact absurd rfl nb₄

theorem load_ok {y : Str} {q : PV} (hy : localIn x.sc y = true) (hv : vars y = some q) (S : St x ρ news σ m loc vars s₀ s) {E : Value → Shared → Prop} {Q : Value → Shared → Prop} (k : ∀ v, VR x.sA ρ news q v → Q v s) : wpAny (model prog w) x.A (loadName x.ce y) Q E s := by
  have := S.V.v y q hv
  unfold localIn at hy
  split at hy
  · rename_i hs
    rcases C.sk _ _ hs with hk | ⟨hk, _⟩
    · rw [hk] at this
      obtain ⟨v, h1, h2⟩ := this
      exact wpAny_loadName_local C.ck hk S.ns h1 (k v h2)
    · cases hk
  · rename_i hs
    rcases C.sk _ _ hs with hk | ⟨hk, _⟩
    · rw [hk] at this
      obtain ⟨c, v, o, h1, h2, h3, h4, h5⟩ := this
      exact wpAny_loadName_cell C.ck hk h1 ⟨o, S.N.get h2, h4⟩ (k v h5)
    · cases hk
  · cases hy

theorem name_val {y : Str} {py : Pos} {f : PV → PH → SR} (hy : localIn x.sc y = true) (nb : (ev x.W cb x.sc n vars (.Name y py) σ).st vars f ≠ .bad) : ∃ q, vars y = some q ∧ (ev x.W cb x.sc n vars (.Name y py) σ).st vars f = f q σ := by
  cases n with
  | zero => exact absurd rfl nb
  | succ n =>
    have e : ev x.W cb x.sc (n + 1) vars (.Name y py) σ = ofO (nameV x.W.K x.sc vars y) fun v => .ok v σ := rfl
    rw [e] at nb ⊢
    cases hn : nameV x.W.K x.sc vars y with
    | none => rw [hn] at nb; exact absurd rfl nb
    | some q =>
      refine ⟨q, ?_, rfl⟩
      unfold nameV at hn
      split at hn
      · cases hn
      · unfold localIn at hy
        split at hy
        · rename_i hs; rw [hs] at hn; exact hn
        · rename_i hs; rw [hs] at hn; exact hn
        · cases hy

theorem s_augN (y : Str) (py pos : Pos) (op : Operator) (e : Expr) : RunS prog w x s₀ (exec (.AugAssign (.Name y py) op e pos) x.ce) vars σ (if localIn x.sc y then (ev x.W cb x.sc n vars (.Name y py) σ).st vars fun a σ => (ev x.W cb x.sc n vars e σ).st vars fun b σ => (match a, b with
        | .int a, .int b => ofS (intOp op a b) fun i => .ok .next (vars.set y (.int i)) σ
        | _, _ => .bad) else .bad) := by
  intro ρ news m loc s S nb
  obtain ⟨hy, he⟩ := if_badS nb
  rw [he] at nb ⊢
  obtain ⟨q, hq, e0⟩ := name_val iv P C U bd hy nb
  rw [e0] at nb ⊢
  refine G_AugAssign_Name (.of (load_ok iv P C U bd hy hq S fun vq hvq => ?_))
  refine st_seq (iv.e x rfl P C bd vars s₀ e σ) S nb fun b σ₁ vb s₁ ρ₁ news₁ S₁ E₁ V₁ e₁ nb₁ => ?_
  rw [e₁]
  split at nb₁
  · rename_i a b
    obtain ⟨i, h1, h2⟩ := ofS_some nb₁
    rw [h2]
    obtain ⟨t, rfl⟩ := hvq
    obtain ⟨u, rfl⟩ := V₁
    refine wpG.of (wpAny_mono (inplace_ok S₁ h1) (fun r s₂ hr => ?_) fun _ _ q => q.elim)
    obtain ⟨ρ₂, news₂, S₂, E₂, V₂⟩ := hr
    refine .of (S₂.vars_set U C hy V₂ fun news' m' loc' h' tk S' E' _ => ?_)
    exact .of S' ((E₁.trans E₂).nil.trans E') rfl
  · exact absurd rfl nb₁

theorem s_augA (o : Expr) (a : Str) (p1 pos : Pos) (op : Operator) (e : Expr) : RunS prog w x s₀ (exec (.AugAssign (.Attribute o a p1) op e pos) x.ce) vars σ ((ev x.W cb x.sc n vars o σ).st vars fun ov σ => ofS (getA x.W σ ov a) fun old => (ev x.W cb x.sc n vars e σ).st vars fun b σ => (match old, b with
        | .int x', .int y => ofS (intOp op x' y) fun i => ofS (setA x.W σ ov a (.int i)) fun σ => .ok .next vars σ
        | _, _ => .bad)) := by
  intro ρ news m loc s S nb
  refine G_AugAttr (st_seq (iv.e x rfl P C bd vars s₀ o σ) S nb fun ov σ₁ vo s₁ ρ₁ news₁ S₁ E₁ V₁ e₁ nb₁ => ?_)
  rw [e₁]
  obtain ⟨old, h1, h2⟩ := ofS_some nb₁
  rw [h2] at nb₁ ⊢
  refine .of (getA_ok P S₁ V₁ h1 fun vold tk hold => ?_)
  have S1' := S₁.tok (tk := tk)
  refine st_seq (iv.e x rfl P C bd vars s₀ e σ₁) S1' nb₁ fun b σ₂ vb s₂ ρ₂ news₂ S₂ E₂ V₂ e₂ nb₂ => ?_
  rw [e₂]
  split at nb₂
  · rename_i c b
    obtain ⟨i, h3, h4⟩ := ofS_some nb₂
    rw [h4] at nb₂ ⊢
    obtain ⟨σ₃, h5, h6⟩ := ofS_some nb₂
    rw [h6]
    obtain ⟨t, rfl⟩ := hold
    obtain ⟨u, rfl⟩ := V₂
    refine wpG.of (wpAny_mono (inplace_ok S₂ h3) (fun r s₃ hr => ?_) fun _ _ q => q.elim)
    obtain ⟨ρ₃, news₃, S₃, E₃, V₃⟩ := hr
    refine .of (setA_ok P S₃ (VR.mono (E₂.trans E₃) _ _ V₁) V₃ h5 fun ρ' news' h' tk S' E' => ?_)
    exact .of S' (((E₁.trans E₂).trans E₃).trans E').nil rfl
  · exact absurd rfl nb₂

theorem s_if (t : Expr) (a b : List Stmt) (pos : Pos) (ih : ExOk prog w p loose mean mg mb x.W cb d n) : RunS prog w x s₀ (exec (.If t a b pos) x.ce) vars σ ((ts x.W cb x.sc n vars t σ).st vars fun c σ => if c then exs x.W cb x.sc n vars a σ else exs x.W cb x.sc n vars b σ) := by
  intro ρ news m loc s S nb
  refine G_If (st_seq (iv.t x rfl P C bd vars s₀ t σ) S nb fun c σ₁ vc s₁ ρ₁ news₁ S₁ E₁ V₁ e₁ nb₁ => ?_)
  rw [e₁]
  have V₁ : vc = c := V₁
  subst V₁
  cases vc with
  | true => exact (ih.l x rfl P C U bd s₀ vars a σ₁).at S₁ E₁.nil nb₁
  | false => exact (ih.l x rfl P C U bd s₀ vars b σ₁).at S₁ E₁.nil nb₁
end
end
end Mine
end
/-! part MiniX -/
section
open PySem PySem.W PySem.Calls PyProof.Rows
namespace Mine
variable {prog : Program} {w : World} {p : Program} {loose : List Str} {mean : ExcName → Option Value} {mg mb : Str → Option Value}
section
variable {x : Fx} {ρ : Foot} {news : Led} {σ : PH} {m loc : Str → Option Value} {vars : Vars} {s₀ s : Shared}

theorem Ext.strip1 {I : Addr} {cs : List Addr} {ρ' : Foot} {news' : Led} (e : Ext (I :: cs) ρ news ρ' news') (h : ∀ q ∈ news, q.1 ≠ I) : Ext cs ρ news ρ' news' :=
  ⟨e.pre, fun q h1 h2 h3 => e.keep q h1 h2 (h3.imp (fun k hm => by
    rcases List.mem_cons.mp hm with hm | hm
    · exact h q h1 hm
    · exact k hm) id)⟩

def ownedNames : List String := ["enumerate", "zip", "dict_itemiterator", "dict_reverseitemiterator", "odict_iterator", "itertools.zip_longest", "itertools.pairwise"]
theorem ItK.notOwned {κ : ItK} {i : Nat} {o : Obj} (h : κ.is i o) : ∃ n vs, o.cls = .type n ∧ o.data = .fields vs ∧ ownedNames.contains n = false := by
  cases κ with
  | lst l => exact ⟨_, _, h.1, h.2, by decide +kernel⟩
  | tup t => exact ⟨_, _, h.1, h.2, by decide +kernel⟩
  | rng a c n => cases h; exact ⟨_, _, rfl, rfl, by decide +kernel⟩
  | str y t => exact ⟨_, _, h.1, h.2, by unfold strIterType; split <;> decide +kernel⟩
  | byt b t => exact ⟨_, _, h.1, h.2, by decide +kernel⟩
theorem owned_go {κ : ItK} {i : Nat} {o : Obj} {I : Addr} (hI : s.heap.get? I = some o) (h : κ.is i o) {tg : Expr} {v : Value} {A : Around} {E : Value → Shared → Prop} {Q : Unit → Shared → Prop} (q : Q () s) : wpAny (model prog w) A (letOwnedTupleGo tg (.ref I) v) Q E s := by
  obtain ⟨n, vs, h1, h2, h3⟩ := ItK.notOwned h
  have go : ∀ a : Addr, wpAny (model prog w) A (do
      let o ← load I
      match o.cls, o.data with
      | .type n, .fields vs =>
        if ownedNames.contains n && vs[0]? == some (rawInt a) then
          rule "for.unpacks-the-owned-tuple"
          updateField I 0 .none
      | _, _ => pure ()) Q E s := fun a => by
    refine wpAny_bind (wpAny_load hI ?_)
    rw [h1, h2]
    dsimp only
    rw [h3, Bool.false_and]
    exact wpAny_pure q
  cases tg <;> first | exact wpAny_pure q | (cases v <;> first | exact wpAny_pure q | exact go _)

theorem assign_ok (P : x.Pre p loose mean mg mb) (C : x.Sco) (U : x.Fun) (S : St x ρ news σ m loc vars s₀ s) {tg : Expr} {q : PV} {v : Value} {vars' : Vars} (hv : VR x.sA ρ news q v) (h : tgt x.sc tg vars q = some vars') {E : Value → Shared → Prop} {Q : Unit → Shared → Prop}
    (k : ∀ news' m' loc' h' tk, St x ρ news' σ m' loc' vars' s₀ { s with heap := h', toks := tk } → Ext x.cells ρ news ρ news' → Q () { s with heap := h', toks := tk }) : wpAny (model prog w) x.A (assign tg x.ce v) Q E s := by
  unfold tgt at h
  split at h
  · split at h
    · rename_i hy
      cases h
      exact wpAny_assign_Name (S.vars_set U C hy hv fun news' m' loc' h' tk S' E' _ => k _ _ _ _ _ S' E')
    · cases h
  · rename_i y py z pz kk pt a b
    split at h
    · rename_i hc
      cases h
      simp only [Bool.and_eq_true] at hc
      obtain ⟨t, vs, rfl, hm, lr, ht⟩ := tup_at S hv
      obtain ⟨va, vb, rfl, ha, hb⟩ := lr.two
      refine assign_Tuple_tuple P.hh ht rfl rfl fun h' he => ?_
      have S1 := S.still (h' := h') (tk := s.toks) fun c o e => he c o (Nat.ne_of_lt (Heap.lt_size e)) e
      show wpAny _ _ (assignInOrder [assign (.Name y py) x.ce, assign (.Name z pz) x.ce] [va, vb]) _ _ _
      refine assignInOrder_cons (wpAny_assign_Name (S1.vars_set U C (by simpa using hc.1.1) ha fun news2 m2 loc2 h2 tk2 S2 E2 _ => ?_))
      refine assignInOrder_cons (wpAny_assign_Name (S2.vars_set U C (by simpa using hc.1.2) (VR.mono E2 _ _ hb) fun news3 m3 loc3 h3 tk3 S3 E3 _ => ?_))
      exact assignInOrder_nil (k _ _ _ _ _ S3 (E2.trans E3))
    · cases h
  · cases h

structure LInv (x : Fx) (tg : Vars → PV → Option Vars) (body : Vars → PH → SR) (Sr : Src) (κ : ItK) (I : Addr) (ρ : Foot) (news : Led) (s₀ : Shared) (r : SR) (k : Nat) (s' : Shared)
    (i : Nat) (ρ' : Foot) (news' : Led) (σ' : PH) (m' loc' : Str → Option Value) (vars' : Vars) (oI : Obj) : Prop where
  S : St x ρ' news' σ' m' loc' vars' s₀ s'
  E : Ext (I :: x.cells) ρ news ρ' news'
  mI : (I, oI) ∈ news'
  fI : I ∉ ρ'.flatten
  kI : κ.is i oI
  src : SrcOk x ρ' news' κ Sr
  cnt : i + k = Sr.len
  eq : loopG tg body Sr k i vars' σ' = r

theorem loopG_turn {tg : Vars → PV → Option Vars} {body : Vars → PH → SR} {Sr : Src} {k i : Nat} {σ : PH} (nb : loopG tg body Sr (k + 1) i vars σ ≠ .bad) :
    ∃ v vars', Sr.get σ i = some (some v) ∧ tg vars v = some vars' ∧ loopG tg body Sr (k + 1) i vars σ = (match body vars' σ with
      | .ok .next m'' σ' | .ok .cont m'' σ' => loopG tg body Sr k (i + 1) m'' σ'
      | .ok .brk m'' σ' => .ok .next m'' σ'
      | x => x) := by
  have e : loopG tg body Sr (k + 1) i vars σ = (match Sr.get σ i with
    | some (some v) => ofS (tg vars v) fun m' => match body m' σ with
      | .ok .next m'' σ' | .ok .cont m'' σ' => loopG tg body Sr k (i + 1) m'' σ'
      | .ok .brk m'' σ' => .ok .next m'' σ'
      | x => x
    | _ => .bad) := rfl
  rw [e] at nb ⊢
  cases h : Sr.get σ i with
  | none => rw [h] at nb; exact absurd rfl nb
  | some o =>
    cases o with
    | none => rw [h] at nb; exact absurd rfl nb
    | some v =>
      rw [h] at nb
      obtain ⟨vars', h1, h2⟩ := ofS_some nb
      exact ⟨v, vars', rfl, h1, h2⟩
theorem loopG_end {tg : Vars → PV → Option Vars} {body : Vars → PH → SR} {Sr : Src} {i : Nat} {σ : PH} (nb : loopG tg body Sr 0 i vars σ ≠ .bad) : Sr.get σ i = some none ∧ loopG tg body Sr 0 i vars σ = .ok .next vars σ := by
  have e : loopG tg body Sr 0 i vars σ = (match Sr.get σ i with
    | some Option.none => .ok .next vars σ
    | _ => .bad) := rfl
  rw [e] at nb ⊢
  cases h : Sr.get σ i with
  | none => rw [h] at nb; exact absurd rfl nb
  | some o =>
    cases o with
    | none => exact ⟨rfl, rfl⟩
    | some v => rw [h] at nb; exact absurd rfl nb

theorem for_loop {tgE : Expr} {bd : List Stmt} {body : Vars → PH → SR} {Sr : Src} {κ : ItK} {I : Addr} {r : SR} (P : x.Pre p loose mean mg mb) (C : x.Sco) (U : x.Fun) (hIl : x.ce.locals ≠ I) (hIc : I ∉ x.cells) (hIn : ∀ q ∈ news, q.1 ≠ I)
    (hb : ∀ vars' σ', RunS prog w x s₀ (execs bd x.ce) vars' σ' (body vars' σ')) (nb : r ≠ .bad) :
    ∀ n s, (∃ i ρ' news' σ' m' loc' vars' oI, LInv x (tgt x.sc tgE) body Sr κ I ρ news s₀ r n s i ρ' news' σ' m' loc' vars' oI) → codeG (model prog w) x.A (.forLoop tgE (.ref I) bd [] x.ce) (RNo (SF x ρ news s₀ r)) s := by
  intro n s hI
  refine G_forLoop (fun n s => ∃ i ρ' news' σ' m' loc' vars' oI, LInv x (tgt x.sc tgE) body Sr κ I ρ news s₀ r n s i ρ' news' σ' m' loc' vars' oI) ?_ n hI
  clear hI s n
  rintro n s ⟨i, ρ', news', σ', m', loc', vars', oI, v⟩
  have nbk : loopG (tgt x.sc tgE) body Sr n i vars' σ' ≠ .bad := fun q => nb (by rw [← v.eq, q])
  have wI : ∀ c ∈ [I], c ∈ I :: x.cells := fun c h => by rw [List.mem_singleton] at h; subst h; simp
  have wC : ∀ c ∈ x.cells, c ∈ I :: x.cells := fun c h => List.mem_cons_of_mem _ h
  cases n with
  | zero =>
    obtain ⟨hg, he⟩ := loopG_end nbk
    refine .of (iter_end P v.S v.mI v.fI (.inr hIl) v.kI (v.src.fin hg (.inl (by have := v.cnt; omega))) fun h' S' E' => ?_)
    show SF x ρ news s₀ r .next _
    rw [← v.eq, he]
    exact .of S' ((v.E.trans (E'.weak wI)).strip1 hIn) rfl
  | succ k =>
    obtain ⟨u, vars2, hg, ht, he⟩ := loopG_turn nbk
    have e0 := v.eq
    rw [he] at e0
    refine .of (iter_next P v.S v.mI v.fI (.inr hIl) v.kI (v.src.pv hg) fun oI' vv h' tk kI' S1 E1 vr1 => ?_)
    have mI1 : (I, oI') ∈ updL I oI' news' := mem_updL_self v.mI
    dsimp only
    refine .of (owned_go (S1.N.get mI1) kI' ?_)
    refine .of (assign_ok P C U S1 vr1 ht fun news2 m2 loc2 h2 tk2 S2 E2 => ?_)
    obtain ⟨mI2, fI2⟩ := E2.keep (I, oI') mI1 v.fI (.inl hIc)
    have nbb : body vars2 σ' ≠ .bad := fun q => by rw [q] at e0; exact nb e0.symm
    refine (hb vars2 σ' _ _ _ _ _ S2 nbb).monoQ fun f s3 hf => ?_
    have E12 : Ext (I :: x.cells) ρ news ρ' news2 := (v.E.trans (E1.weak wI)).trans (E2.weak wC)
    have src2 : SrcOk x ρ' news2 κ Sr := (v.src.mono E1).mono E2
    cases hr : body vars2 σ' with
    | bad => exact absurd hr nbb
    | err pe v' σ'' => rw [hr] at hf; exact hf.elim
    | ok fl vars3 σ3 =>
      rw [hr] at hf e0
      obtain ⟨ρ3, news3, m3, loc3, S3, E3, hfl⟩ := hf
      have E13 : Ext (I :: x.cells) ρ news ρ3 news3 := E12.trans (E3.weak wC)
      obtain ⟨mI3, fI3⟩ := E3.keep (I, oI') mI2 fI2 (.inl hIc)
      have again : loopG (tgt x.sc tgE) body Sr k (i + 1) vars3 σ3 = r → ∃ m, m < k + 1 ∧ ∃ i ρ' news' σ' m' loc' vars' oI, LInv x (tgt x.sc tgE) body Sr κ I ρ news s₀ r m s3 i ρ' news' σ' m' loc' vars' oI := fun e =>
        ⟨k, Nat.lt_succ_self _, i + 1, ρ3, news3, σ3, m3, loc3, vars3, oI', S3, E13, mI3, fI3, kI', src2.mono E3, by have := v.cnt; omega, e⟩
      cases fl with
      | next => cases hfl; exact again e0
      | cont => cases hfl; exact again e0
      | brk =>
        cases hfl
        show SF x ρ news s₀ r .next s3
        rw [← e0]
        exact .of S3 (E13.strip1 hIn) rfl
      | ret q =>
        obtain ⟨vq, rfl, hvq⟩ := hfl
        show SF x ρ news s₀ r (.ret vq) s3
        rw [← e0]
        exact .of S3 (E13.strip1 hIn) ⟨vq, rfl, hvq⟩
end
end Mine
end
/-! part MiniY -/
section
open PySem PySem.W PySem.Calls PyProof.Rows
namespace Mine
variable {prog : Program} {w : World} {p : Program} {loose : List Str} {mean : ExcName → Option Value} {mg mb : Str → Option Value}
section
variable {x : Fx} {ρ : Foot} {news : Led} {σ : PH} {m loc : Str → Option Value} {vars : Vars} {s₀ s : Shared}

/-- a cell's place lies in the ledger, once it is one -/
theorem cell_low (S : St x ρ news σ m loc vars s₀ s) (hc : ∀ c ∈ x.cells, ∃ o, s.heap.get? c = some o) : s.heap.objs.size ∉ x.cells := fun h => by
  obtain ⟨o, ho⟩ := hc _ h
  exact absurd (Heap.lt_size ho) (Nat.lt_irrefl _)

section
variable {n d : Nat} {cb : CB} (iv : EvOk prog w p loose mean mg mb x.W cb d n) (ih : ExOk prog w p loose mean mg mb x.W cb d n) (P : x.Pre p loose mean mg mb) (C : x.Sco) (U : x.Fun) (bd : Bud x.A d 52)
include iv ih P C U bd

theorem s_for (tg it : Expr) (body : List Stmt) (pos : Pos) : RunS prog w x s₀ (exec (.For tg it body [] pos) x.ce) vars σ (if !plainIter it then .bad else (ev x.W cb x.sc n vars it σ).st vars fun v σ => ofS (srcO x.W σ v) fun S => loopG (tgt x.sc tg) (fun m σ => exs x.W cb x.sc n m body σ) S S.len 0 vars σ) := by
  intro ρ news m loc s S nb
  obtain ⟨hp, he⟩ := if_badS' nb
  rw [he] at nb ⊢
  refine G_For (fun v => folded_plain (by simpa using hp) _ _) (st_seq (iv.e x rfl P C bd vars s₀ it σ) S nb fun v σ₁ vv s₁ ρ₁ news₁ S₁ E₁ V₁ e₁ nb₁ => ?_)
  rw [e₁]
  obtain ⟨Sr, h1, h2⟩ := ofS_some nb₁
  rw [h2] at nb₁ ⊢
  refine .of (iter_start P S₁ V₁ h1 fun oI κ h' kI src S2 => ?_)
  have eI : Ext x.cells ρ₁ news₁ ρ₁ ([(s₁.heap.objs.size, oI)] ++ news₁) := .junk
  have lowI : ∀ q ∈ news₁, q.1 ≠ s₁.heap.objs.size := fun q hq => Nat.ne_of_lt (S₁.low hq)
  have hIc : s₁.heap.objs.size ∉ x.cells := by
    have := U.low (m := m) (loc := loc) (vars := vars) S₁
    exact this
  have body := for_loop (tgE := tg) (bd := body) (body := fun m σ => exs x.W cb x.sc n m body σ) (Sr := Sr) (κ := κ) (I := s₁.heap.objs.size) (ρ := ρ₁) (news := news₁) (s₀ := s₀) P C U (Nat.ne_of_lt S₁.ns.lt) hIc lowI
    (fun vars' σ' => ih.l x rfl P C U bd s₀ vars' body σ') nb₁ Sr.len _ ⟨0, ρ₁, _, σ₁, m, loc, vars, oI, S2, .junk, by simp, fun q => absurd (S₁.lowR q) (Nat.lt_irrefl _), kI, src, by simp, rfl⟩
  refine codeG.mono body fun r s' hr => ?_
  cases r with
  | ok f => exact hr.mono E₁.nil
  | error e => exact hr

theorem loopW_turn {test : Vars → PH → R Bool} {body : Vars → PH → SR} {k : Nat} (nb : loopW test body (k + 1) vars σ ≠ .bad) : loopW test body (k + 1) vars σ = (test vars σ).st vars fun b σ => if b then (match body vars σ with
      | .ok .next m' σ' | .ok .cont m' σ' => loopW test body k m' σ'
      | .ok .brk m' σ' => .ok .next m' σ'
      | x => x) else .ok .next vars σ := rfl

theorem s_while (t : Expr) (body : List Stmt) (pos : Pos) : RunS prog w x s₀ (exec (.While t body [] pos) x.ce) vars σ (loopW (fun m σ => ts x.W cb x.sc n m t σ) (fun m σ => exs x.W cb x.sc n m body σ) whileMost vars σ) := by
  intro ρ news m loc s S nb
  generalize hr : loopW (fun m σ => ts x.W cb x.sc n m t σ) (fun m σ => exs x.W cb x.sc n m body σ) whileMost vars σ = r at nb ⊢
  refine G_While (G_whileLoop (fun k s' => ∃ ρ' news' σ' m' loc' vars', St x ρ' news' σ' m' loc' vars' s₀ s' ∧ Ext x.cells ρ news ρ' news' ∧ loopW (fun m σ => ts x.W cb x.sc n m t σ) (fun m σ => exs x.W cb x.sc n m body σ) k vars' σ' = r) ?_ whileMost ⟨ρ, news, σ, m, loc, vars, S, .refl, hr⟩)
  clear hr S s
  rintro k s ⟨ρ', news', σ', m', loc', vars', S, E, hr⟩
  cases k with
  | zero => exact absurd hr.symm nb
  | succ k =>
    have e0 : (ts x.W cb x.sc n vars' t σ').st vars' (fun b σ => if b then (match exs x.W cb x.sc n vars' body σ with
      | .ok .next m' σ' | .ok .cont m' σ' => loopW (fun m σ => ts x.W cb x.sc n m t σ) (fun m σ => exs x.W cb x.sc n m body σ) k m' σ'
      | .ok .brk m' σ' => .ok .next m' σ'
      | x => x) else .ok .next vars' σ) = r := hr
    have nb0 := nb
    rw [← e0] at nb0
    refine st_seq (iv.t x rfl P C bd vars' s₀ t σ') S nb0 fun c σ₁ vc s₁ ρ₁ news₁ S₁ E₁ V₁ e₁ nb₁ => ?_
    rw [e₁] at e0
    have V₁ : vc = c := V₁
    subst V₁
    have E01 : Ext x.cells ρ news ρ₁ news₁ := E.trans E₁.nil
    cases vc with
    | false =>
      have e0 : SR.ok .next vars' σ₁ = r := e0
      show SF x ρ news s₀ r .next s₁
      rw [← e0]
      exact .of S₁ E01 rfl
    | true =>
      have e0 : (match exs x.W cb x.sc n vars' body σ₁ with
        | .ok .next m' σ' | .ok .cont m' σ' => loopW (fun m σ => ts x.W cb x.sc n m t σ) (fun m σ => exs x.W cb x.sc n m body σ) k m' σ'
        | .ok .brk m' σ' => .ok .next m' σ'
        | x => x) = r := e0
      have nbb : exs x.W cb x.sc n vars' body σ₁ ≠ .bad := fun q => by rw [q] at e0; exact nb e0.symm
      refine (ih.l x rfl P C U bd s₀ vars' body σ₁ _ _ _ _ _ S₁ nbb).monoQ fun f s3 hf => ?_
      cases hb : exs x.W cb x.sc n vars' body σ₁ with
      | bad => exact absurd hb nbb
      | err pe v' σ'' => rw [hb] at hf; exact hf.elim
      | ok fl vars3 σ3 =>
        rw [hb] at hf e0
        obtain ⟨ρ3, news3, m3, loc3, S3, E3, hfl⟩ := hf
        cases fl with
        | next => cases hfl; exact ⟨k, Nat.lt_succ_self _, ρ3, news3, σ3, m3, loc3, vars3, S3, E01.trans E3, e0⟩
        | cont => cases hfl; exact ⟨k, Nat.lt_succ_self _, ρ3, news3, σ3, m3, loc3, vars3, S3, E01.trans E3, e0⟩
        | brk =>
          cases hfl
          show SF x ρ news s₀ r .next s3
          rw [← e0]
          exact .of S3 (E01.trans E3) rfl
        | ret q =>
          obtain ⟨vq, rfl, hvq⟩ := hfl
          show SF x ρ news s₀ r (.ret vq) s3
          rw [← e0]
          exact .of S3 (E01.trans E3) ⟨vq, rfl, hvq⟩
end
end
end Mine
end
/-! part MiniZ -/
section
open PySem PySem.W PySem.Calls PyProof.Rows
namespace Mine
variable {prog : Program} {w : World} {p : Program} {loose : List Str} {mean : ExcName → Option Value} {mg mb : Str → Option Value}

def swapB (scope : Scope) (vpos : Pos) (y : Str) (py : Pos) (env : Env) : Bool :=
  env.blockKind == .function && env.kindOf y == some .local && py.line == vpos.line && !(scope.names.any fun (n, k) => n == y && (k == .local || k == .cell))
theorem swaps_lc (elt : Expr) (gens : List Comprehension) (scope : Scope) (vpos : Pos) (y : Str) (py : Pos) (line : Nat) (env : Env) : swapsWith (.ListComp elt gens scope vpos) (some (.Name y py)) line env = pure (swapB scope vpos y py env) := rfl

section
variable {x : Fx} {ρ : Foot} {news : Led} {σ : PH} {m loc : Str → Option Value} {vars : Vars} {s₀ s : Shared}
section
variable {n d : Nat} {cb : CB} (iv : EvOk prog w p loose mean mg mb x.W cb d n) (iv' : EvOk prog w p loose mean mg mb x.W cb d (n + 1)) (P : x.Pre p loose mean mg mb) (C : x.Sco) (U : x.Fun) (bd : Bud x.A d 52)
include iv P C U bd

theorem s_swap (y : Str) (py pos vpos : Pos) (elt iter : Expr) (xn : Str) (px : Pos) (scope : Scope) (hs : swapsWith (.ListComp elt [⟨.Name xn px, iter, [], 0⟩] scope vpos) (some (.Name y py)) pos.line x.ce = pure true) (hkl : x.ce.kindOf y = some .local) :
    RunS prog w x s₀ (exec (.Assign [.Name y py] (.ListComp elt [⟨.Name xn px, iter, [], 0⟩] scope vpos) pos) x.ce) vars σ (if localIn x.sc y then
      (if compOk x.sc vars xn scope && plainIter iter then (ev x.W cb x.sc n vars iter σ).bind fun v σ => compW x.W (fun m' => ev x.W cb (fun y => scope.names.lookup y) n m' elt) xn (compVars (fun y => scope.names.lookup y) vars) v σ else .bad).st vars fun v σ => .ok .next (vars.set y v) σ else .bad) := by
  intro ρ news m loc s S nb
  obtain ⟨hy, he⟩ := if_badS nb
  rw [he] at nb ⊢
  have nbr : (if compOk x.sc vars xn scope && plainIter iter then (ev x.W cb x.sc n vars iter σ).bind fun v σ => compW x.W (fun m' => ev x.W cb (fun y => scope.names.lookup y) n m' elt) xn (compVars (fun y => scope.names.lookup y) vars) v σ else .bad) ≠ R.bad := fun q => nb (by rw [q]; rfl)
  obtain ⟨hc, hce⟩ := if_bad nbr
  rw [hce] at nb nbr ⊢
  rw [Bool.and_eq_true] at hc
  obtain ⟨k1, k2, k3, k4, k5⟩ := compOk_parts hc.1
  rw [exec_Assign_Name_used _ _ _ _ hs]
  refine .bind (.standAt (.bind ?_))
  show wpG _ x.A (do let _ ← comprehension (.ListComp elt [⟨.Name xn px, iter, [], 0⟩] scope vpos) scope x.ce _ (newList []) false (eval iter x.ce) (some (assign (.Name y py) x.ce))) _ _ s
  refine .bind ?_
  have hcl : ∃ cl, closureFor scope x.ce = pure cl := by
    obtain ⟨cl, h, _⟩ := closure_ok (scope := scope) (env := x.ce) fun y hy e => by
      obtain ⟨_, h6, h7⟩ := k5 y hy e
      obtain ⟨q, hq⟩ := Option.isSome_iff_exists.mp h7
      obtain ⟨c, _, _, h8, _⟩ := cells_of C S.V h6 hq
      exact ⟨c, h8⟩
    exact ⟨cl, h⟩
  obtain ⟨cl, hcl⟩ := hcl
  generalize hR : ((ev x.W cb x.sc n vars iter σ).bind fun v σ => compW x.W (fun m' => ev x.W cb (fun y => scope.names.lookup y) n m' elt) xn (compVars (fun y => scope.names.lookup y) vars) v σ) = rr at nb nbr ⊢
  refine (G_comprehension (E := NoE) (use := some (assign (.Name y py) x.ce)) (Q := fun _ s' => SF x ρ news s₀ (rr.st vars fun v σ => .ok .next (vars.set y v) σ) .next s') rfl (fun v => folded_plain hc.2 _ _) hcl k1 k4 ?_).monoQ fun _ s' hq => .pure (.pure hq)
  rw [← hR] at nbr
  have hRR : ∀ v σ₁, (ev x.W cb x.sc n vars iter σ).bind (fun v σ => compW x.W (fun m' => ev x.W cb (fun y => scope.names.lookup y) n m' elt) xn (compVars (fun y => scope.names.lookup y) vars) v σ) = compW x.W (fun m' => ev x.W cb (fun y => scope.names.lookup y) n m' elt) xn (compVars (fun y => scope.names.lookup y) vars) v σ₁ → rr = compW x.W (fun m' => ev x.W cb (fun y => scope.names.lookup y) n m' elt) xn (compVars (fun y => scope.names.lookup y) vars) v σ₁ := fun v σ₁ h => hR.symm.trans h
  refine wpG.mono ((iv.e x rfl P C bd vars s₀ iter σ).seq S .refl nbr fun v σ₁ vv s₁ ρ₁ news₁ S₁ E₁ V₁ e₁ nb₁ => ?_) (fun _ _ q => q) fun _ _ q => EF.no q
  have hrr := hRR v σ₁ e₁
  unfold compW at nb₁ hrr
  obtain ⟨Sr, h1, h2⟩ := ofO_some nb₁
  rw [h2] at nb₁ hrr
  obtain ⟨hz, h3⟩ := if_bad nb₁
  rw [h3] at nb₁ hrr
  refine Exists.elim (comp_ok (elt := elt) (iter := iter) (px := px) (pos := vpos) (f := fun m' => ev x.W cb (fun y => scope.names.lookup y) n m' elt) (E := NoE)
    (RR := fun acc C r s' => CompPost (model prog w) x.A NoE (some (assign (.Name y py) x.ce)) (fun _ s' => SF x ρ news s₀ (rr.st vars fun v σ => .ok .next (vars.set y v) σ) .next s') acc C r s')
    P C hc.1 (fun x' hW hA P' C' hsc vars' σ' => by
      have := iv.e x' hW P' C' (hA ▸ bd) vars' s₀ elt σ'
      rw [hsc] at this
      exact this) S₁ V₁ h1 hz (R.bind_nb nb₁) fun ps σ' D Cc oC ρ' news' s' hr S' E' hg mC fC vC cC hxC hnC hns => ?k) fun cl' hgo => ?m
  case m =>
    obtain ⟨hcl', go⟩ := hgo
    have hcc : cl' = cl := by
      have h := hcl'.symm.trans hcl
      exact pure_inj h
    rw [hcc] at go
    exact go
  case k =>
    rw [hr] at hrr
    have hrr : rr = .ok (.obj σ'.length) (σ' ++ [.list ps]) := hrr
    subst hrr
    obtain ⟨mC0, hns⟩ := hns
    show wpG _ _ (assign (.Name y py) x.ce (.ref D)) _ _ _
    refine .of (wpAny_assign_Name (S'.vars_set (q := .obj σ'.length) U C hy ⟨D, [], rfl, hg⟩ fun news2 m2 loc2 h2 tk2 S2 E2 hsame => ?_))
    have hn2 := hsame hkl
    subst hn2
    obtain ⟨o, g, _, _, nC⟩ := ns_obj hns
    have ho : oC = o := by
      have := S'.N.get mC
      rw [g] at this; exact (Option.some.inj this).symm
    subst ho
    refine ⟨mC0, nC _ (S2.N.get mC), fun h' hs' => ?_⟩
    obtain ⟨S3, E3⟩ := S2.drop (tk := tk2) (h' := h') mC vC fC cC (.inr hxC) (same_keeps hs')
    show SF x ρ news s₀ (.ok .next (vars.set y (.obj σ'.length)) (σ' ++ [.list ps])) .next _
    have Et : Ext (Cc :: x.cells) ρ news (ρ' ++ [[D]]) (dropL Cc news2) := ((E₁.trans E').nil.trans (E2.weak fun c hc => List.mem_cons_of_mem _ hc)).trans (E3.weak fun c hc => by rw [List.mem_singleton] at hc; subst hc; simp)
    refine .of S3 ?_ rfl
    refine ⟨Et.pre, fun q h1 h2 h3 => Et.keep q h1 h2 (h3.imp (fun k hm => ?_) id)⟩
    rcases List.mem_cons.mp hm with hm | hm
    · exact hnC q (E₁.keep q h1 h2 (.inl (by simp))).1 hm
    · exact k hm
end
end
end Mine
end
/-! part MiniZA -/
section
open PySem PySem.W PySem.Calls PyProof.Rows
namespace Mine
variable {prog : Program} {w : World} {p : Program} {loose : List Str} {mean : ExcName → Option Value} {mg mb : Str → Option Value}

theorem step_s {n d : Nat} {W : Wd} {cb : CB} (iv : ∀ n, EvOk prog w p loose mean mg mb W cb d n) (ih : ExOk prog w p loose mean mg mb W cb d n) :
    ∀ (x : Fx), x.W = W → x.Pre p loose mean mg mb → x.Sco → x.Fun → Bud x.A d 52 → ∀ s₀ vars st σ, RunS prog w x s₀ (exec st x.ce) vars σ (ex W cb x.sc (n + 1) vars st σ) := by
  intro x hW P C U bd s₀ vars st σ
  subst hW
  have bad : ∀ {r : SR}, r = .bad → RunS prog w x s₀ (exec st x.ce) vars σ r := fun h ρ news m loc s S nb => absurd h nb
  cases st with
  | Pass pos =>
    intro ρ news m loc s S nb
    exact .of (wpAny_Pass (.of S .refl rfl))
  | Return e pos =>
    cases e with
    | none => exact fun ρ news m loc s S nb => .of (wpAny_Return_none (.of S .refl ⟨_, rfl, rfl⟩))
    | some e => exact runS_eq rfl (s_ret (iv n) P C U bd e pos)
  | Expr e pos => exact runS_eq rfl (s_expr (iv n) P C U bd e pos)
  | Assign ts e pos =>
    cases ts with
    | nil => exact bad rfl
    | cons t ts =>
      cases ts with
      | cons _ _ =>
        refine bad ?_
        cases t <;> first | rfl | skip
        rename_i o i q
        cases i <;> first | rfl | skip
        rename_i lo hi st q2
        cases lo <;> cases hi <;> cases st <;> rfl
      | nil =>
        cases t with
        | Name y py =>
          cases hc : isListComp e with
          | false => exact runS_eq rfl (s_assignPlain (iv n) P C U bd y py pos e (no_swap hc))
          | true =>
            have badE : (∀ vars σ, ev x.W cb x.sc n vars e σ = .bad) → RunS prog w x s₀ (exec (.Assign [.Name y py] e pos) x.ce) vars σ (ex x.W cb x.sc (n + 1) vars (.Assign [.Name y py] e pos) σ) := fun h => by
              refine fun ρ news m loc s S nb => absurd ?_ nb
              show (if localIn x.sc y then (ev x.W cb x.sc n vars e σ).st vars fun v σ => .ok .next (vars.set y v) σ else .bad) = SR.bad
              rw [h]
              split <;> rfl
            cases e <;> first | (cases hc; done) | skip
            · rename_i elt gens scope vpos
              cases hs : swapB scope vpos y py x.ce with
              | false => exact runS_eq rfl (s_assignPlain (iv n) P C U bd y py pos _ (by rw [swaps_lc, hs]))
              | true =>
                have hkl : x.ce.kindOf y = some .local := by
                  unfold swapB at hs
                  simp only [Bool.and_eq_true] at hs
                  simpa using hs.1.1.2
                have hsw : swapsWith (.ListComp elt gens scope vpos) (some (.Name y py)) pos.line x.ce = pure true := by rw [swaps_lc, hs]
                cases n with
                | zero => exact badE fun _ _ => rfl
                | succ n =>
                  cases gens with
                  | nil => exact badE fun _ _ => rfl
                  | cons g gs =>
                    cases gs with
                    | cons _ _ => obtain ⟨t, i, f, a⟩ := g; refine badE fun _ _ => ?_; cases t <;> cases f <;> (try rcases a with (_ | _) | _) <;> rfl
                    | nil =>
                      obtain ⟨t, i, f, a⟩ := g
                      cases t with
                      | Name xn px =>
                        cases f with
                        | cons _ _ => refine badE fun _ _ => ?_; rcases a with (_ | _) | _ <;> rfl
                        | nil =>
                          rcases a with (_ | _) | _
                          · exact runS_eq rfl (s_swap (iv n) P C U bd y py pos vpos elt i xn px scope hsw hkl)
                          · exact badE fun _ _ => rfl
                          · exact badE fun _ _ => rfl
                      | _ => refine badE fun _ _ => ?_; cases f <;> (rcases a with (_ | _) | _) <;> rfl
            · exact badE fun _ _ => by cases n <;> rfl
            · exact badE fun _ _ => by cases n <;> rfl
        | Attribute o a p1 => exact runS_eq rfl (s_assignAttr (iv n) P C U bd o a p1 pos e)
        | Subscript o i p1 =>
          cases i with
          | Slice lo hi st p0 =>
            cases lo with
            | none => exact runS_eq rfl (s_assignI (iv n) P C U bd o _ p1 pos e)
            | some lo =>
              cases hi with
              | none => exact runS_eq rfl (s_assignI (iv n) P C U bd o _ p1 pos e)
              | some hi =>
                cases st with
                | some _ => exact runS_eq rfl (s_assignI (iv n) P C U bd o _ p1 pos e)
                | none => exact runS_eq rfl (s_assignS (iv n) P C U bd o lo hi p0 p1 pos e)
          | _ => exact runS_eq rfl (s_assignI (iv n) P C U bd o _ p1 pos e)
        | _ => exact bad rfl
  | AugAssign t op e pos =>
    cases t with
    | Name y py => exact runS_eq rfl (s_augN (iv n) P C U bd y py pos op e)
    | Attribute o a p1 => exact runS_eq rfl (s_augA (iv n) P C U bd o a p1 pos op e)
    | _ => exact bad rfl
  | If t a b pos => exact runS_eq rfl (s_if (iv n) P C U bd t a b pos ih)
  | For tg it body orelse pos =>
    cases orelse with
    | nil => exact runS_eq rfl (s_for (iv n) ih P C U bd tg it body pos)
    | cons _ _ => exact bad rfl
  | While t body orelse pos =>
    cases orelse with
    | nil => exact runS_eq rfl (s_while (iv n) ih P C U bd t body pos)
    | cons _ _ => exact bad rfl
  | Try body hs orelse final pos =>
    cases hs with
    | nil => exact bad (by cases orelse <;> cases final <;> rfl)
    | cons h hs =>
      cases orelse with
      | cons _ _ => exact bad rfl
      | nil =>
        cases final with
        | cons _ _ => exact bad rfl
        | nil =>
          intro ρ news m loc s S nb
          have e : ex x.W cb x.sc (n + 1) vars (.Try body (h :: hs) [] [] pos) σ = (match exs x.W cb x.sc n vars body σ with
            | .err .. => .bad
            | r => r) := rfl
          rw [e] at nb ⊢
          have nb2 : exs x.W cb x.sc n vars body σ ≠ .bad := fun q => nb (by rw [q])
          refine G_Try ((ih.l x rfl P C U bd s₀ vars body σ _ _ _ _ _ S nb2).monoQ fun f s' hf => ?_)
          cases hr : exs x.W cb x.sc n vars body σ with
          | bad => exact absurd hr nb2
          | err _ _ _ => rw [hr] at nb; exact absurd rfl nb
          | ok fl v σ' => rw [hr] at hf; exact hf
  | _ => exact bad rfl

theorem step_ls {n d : Nat} {W : Wd} {cb : CB} (ih : ExOk prog w p loose mean mg mb W cb d n) :
    ∀ (x : Fx), x.W = W → x.Pre p loose mean mg mb → x.Sco → x.Fun → Bud x.A d 52 → ∀ s₀ vars sts σ, RunS prog w x s₀ (execs sts x.ce) vars σ (exs W cb x.sc (n + 1) vars sts σ) := by
  intro x hW P C U bd s₀ vars sts σ
  subst hW
  cases sts with
  | nil => exact fun ρ news m loc s S nb => G_execs_nil (.of S .refl rfl)
  | cons st r =>
    intro ρ news m loc s S nb
    have e : exs x.W cb x.sc (n + 1) vars (st :: r) σ = (ex x.W cb x.sc n vars st σ).andThen fun m σ => exs x.W cb x.sc n m r σ := rfl
    rw [e] at nb ⊢
    have nb1 : ex x.W cb x.sc n vars st σ ≠ .bad := fun q => nb (by rw [q]; rfl)
    refine G_execs_cons ((ih.s x rfl P C U bd s₀ vars st σ _ _ _ _ _ S nb1).monoQ fun f s' hf => ?_)
    cases hr : ex x.W cb x.sc n vars st σ with
    | bad => exact absurd hr nb1
    | err _ _ _ => rw [hr] at hf; exact hf.elim
    | ok fl v σ' =>
      rw [hr] at hf nb
      obtain ⟨ρ', news', m', loc', S', E', hfl⟩ := hf
      cases fl with
      | next => cases hfl; exact (ih.l x rfl P C U bd s₀ v r σ').at S' E' nb
      | brk => cases hfl; exact .of S' E' rfl
      | cont => cases hfl; exact .of S' E' rfl
      | ret q => obtain ⟨vq, rfl, hvq⟩ := hfl; exact .of S' E' ⟨vq, rfl, hvq⟩

theorem ex_sound {d : Nat} {W : Wd} {cb : CB} (iv : ∀ n, EvOk prog w p loose mean mg mb W cb d n) : ∀ n, ExOk prog w p loose mean mg mb W cb d n
  | 0 => ⟨fun _ _ _ _ _ _ _ _ _ _ _ _ _ _ _ _ nb => absurd rfl nb, fun _ _ _ _ _ _ _ _ _ _ _ _ _ _ _ _ nb => absurd rfl nb⟩
  | n + 1 => have ih := ex_sound iv n
    ⟨step_s iv ih, step_ls ih⟩
end Mine
end
/-! part MiniZB -/
section
open PySem PySem.W PySem.Calls PyProof.Rows
namespace Mine
variable {prog : Program} {w : World} {p : Program} {loose : List Str} {mean : ExcName → Option Value} {mg mb : Str → Option Value}

/-! binding a def's names -/
theorem forIn_fold {α β : Type} (f : β → α → β) (g : α → β → Sem (ForInStep β)) (h : ∀ x r, g x r = pure (ForInStep.yield (f r x))) : ∀ (l : List α) (b : β), (forIn l b g : Sem β) = pure (l.foldl f b)
  | [], _ => rfl
  | x :: r, b => by rw [List.forIn_cons, h, pure_bind]; exact forIn_fold f g h r (f b x)

section
variable {A : Around} {E : Value → Shared → Prop} {s : Shared}
theorem bind_plain {fd : FuncData} {vals ds : List Value} {Q : List (Str × Value) → Shared → Prop} (hkw : fd.params.kwonlyargs = []) (hva : fd.params.vararg = none) (hka : fd.params.kwarg = none)
    (hds : wpAny (model prog w) A (seqItems? fd.defaults) (fun r s' => (r.getD #[]).toList = ds ∧ s' = s) (fun _ _ => False) s) (hle : vals.length ≤ (psOf fd).length) (hm : noMiss (psOf fd) vals ds = true)
    (h : Q (bindsOf (psOf fd) vals ds) s) : wpAny (model prog w) A (bindArgs fd ⟨vals, []⟩) Q E s := by
  unfold bindArgs
  simp only [hkw, hva, hka, List.map_nil, List.forIn_nil, pure_bind]
  refine wpAny_bind (wpAny_mono hds (fun r s' hr => ?_) fun _ _ q => q.elim)
  obtain ⟨hr, rfl⟩ := hr
  rw [hr]
  have hps : List.map (fun x => x.arg) fd.params.posonlyargs ++ List.map (fun x => x.arg) fd.params.args = psOf fd := rfl
  simp only [hps]
  rw [if_neg (by simp; omega)]
  have hl : List.drop (ds.length - (psOf fd).length) ds = lastOf (psOf fd) ds := rfl
  simp only [hl]
  have hmm : (List.filter (fun n => (List.lookup n ((psOf fd).zip vals)).isNone) (List.take ((psOf fd).length - (lastOf (psOf fd) ds).length) (psOf fd))).isEmpty = true := hm
  simp only [hmm, Bool.not_true, Bool.false_eq_true, if_false]
  rw [forIn_fold (fun acc x => if (acc.lookup x.1).isNone then acc ++ [x] else acc)]
  · simp only [pure_bind, List.isEmpty_nil, Bool.not_true, Bool.false_eq_true, if_false]
    rw [List.append_nil]
    exact wpAny_pure h
  · intro x r
    split <;> rfl

theorem bind_var {fd : FuncData} {vals ds : List Value} {va ka : Arg} {Q : List (Str × Value) → Shared → Prop} (hkw : fd.params.kwonlyargs = []) (hva : fd.params.vararg = some va) (hka : fd.params.kwarg = some ka)
    (hds : wpAny (model prog w) A (seqItems? fd.defaults) (fun r s' => (r.getD #[]).toList = ds ∧ s' = s) (fun _ _ => False) s) (hm : noMiss (psOf fd) vals ds = true) (hz : vals.length ≤ sizeLine)
    (h : Q (bindsOf (psOf fd) vals ds ++ [(va.arg, .ref s.heap.objs.size), (ka.arg, .ref (s.heap.push (tupObj (vals.drop (psOf fd).length))).objs.size)]) { s with heap := (s.heap.push (tupObj (vals.drop (psOf fd).length))).push emptyDict }) :
    wpAny (model prog w) A (bindArgs fd ⟨vals, []⟩) Q E s := by
  unfold bindArgs
  simp only [hkw, hva, hka, List.map_nil, List.forIn_nil, pure_bind]
  refine wpAny_bind (wpAny_mono hds (fun r s' hr => ?_) fun _ _ q => q.elim)
  obtain ⟨hr, rfl⟩ := hr
  rw [hr]
  have hps : List.map (fun x => x.arg) fd.params.posonlyargs ++ List.map (fun x => x.arg) fd.params.args = psOf fd := rfl
  simp only [hps]
  rw [if_neg (by simp)]
  have hl : List.drop (ds.length - (psOf fd).length) ds = lastOf (psOf fd) ds := rfl
  simp only [hl]
  have hmm : (List.filter (fun n => (List.lookup n ((psOf fd).zip vals)).isNone) (List.take ((psOf fd).length - (lastOf (psOf fd) ds).length) (psOf fd))).isEmpty = true := hm
  simp only [hmm, Bool.not_true, Bool.false_eq_true, if_false]
  rw [forIn_fold (fun acc x => if (acc.lookup x.1).isNone then acc ++ [x] else acc)]
  · simp only [pure_bind, List.isEmpty_nil, Bool.not_true, Bool.false_eq_true, if_false, List.append_nil]
    refine wpAny_bind (wpAny_newTuple ?_ (by rw [List.length_drop]; omega))
    rw [if_neg (by simp)]
    refine wpAny_bind (wpAny_alloc ?_)
    refine wpAny_pure ?_
    rw [List.append_assoc]
    exact h
  · intro x r
    split <;> rfl
end
end Mine
end
/-! part MiniZC -/
section
open PySem PySem.W PySem.Calls PyProof.Rows
namespace Mine
variable {prog : Program} {w : World} {p : Program} {loose : List Str} {mean : ExcName → Option Value} {mg mb : Str → Option Value}
section
variable {ρ : Foot} {news : Led} {sA : Addr}

def BR (sA : Addr) (ρ : Foot) (news : Led) : List (Str × PV) → List (Str × Value) → Prop
  | [], l => l = []
  | y :: r, l => ∃ v t, l = (y.1, v) :: t ∧ VR sA ρ news y.2 v ∧ BR sA ρ news r t

theorem BR.append : ∀ {l k : List (Str × PV)} {l' k' : List (Str × Value)}, BR sA ρ news l l' → BR sA ρ news k k' → BR sA ρ news (l ++ k) (l' ++ k')
  | [], _, _, _, h, g => by cases h; exact g
  | y :: r, _, _, _, ⟨v, t, e, h1, h2⟩, g => by subst e; exact ⟨v, t ++ _, rfl, h1, h2.append g⟩
theorem BR.zip : ∀ {ps : List Str} {qs : List PV} {vs : List Value}, LR sA ρ news qs vs → BR sA ρ news (ps.zip qs) (ps.zip vs)
  | [], _, _, _ => rfl
  | _ :: _, [], _, h => by cases h; exact rfl
  | n :: ps, q :: qs, _, ⟨v, t, e, h1, h2⟩ => by subst e; exact ⟨v, _, rfl, h1, BR.zip h2⟩
theorem BR.lookup : ∀ {l : List (Str × PV)} {l' : List (Str × Value)}, BR sA ρ news l l' → ∀ n, (∀ q, l.lookup n = some q → ∃ v, l'.lookup n = some v ∧ VR sA ρ news q v) ∧ (l.lookup n = none → l'.lookup n = none)
  | [], _, h, n => by cases h; exact ⟨fun q e => by simp at e, fun _ => rfl⟩
  | y :: r, _, ⟨v, t, e, h1, h2⟩, n => by
    subst e
    obtain ⟨k, z⟩ := y
    simp only [List.lookup_cons]
    cases hb : n == k with
    | true => exact ⟨fun q e => by cases e; exact ⟨v, rfl, h1⟩, fun e => by cases e⟩
    | false => exact h2.lookup n
theorem BR.isNone {l : List (Str × PV)} {l' : List (Str × Value)} (h : BR sA ρ news l l') (n : Str) : (l.lookup n).isNone = (l'.lookup n).isNone := by
  cases e : l.lookup n with
  | none => rw [(h.lookup n).2 e]; rfl
  | some q => obtain ⟨v, e2, _⟩ := (h.lookup n).1 q e; rw [e2]; rfl
theorem LR.drop : ∀ {qs : List PV} {vs : List Value} (k : Nat), LR sA ρ news qs vs → LR sA ρ news (qs.drop k) (vs.drop k)
  | [], _, k, h => by cases h; simp; exact rfl
  | q :: qs, _, 0, h => h
  | q :: qs, _, k + 1, ⟨v, t, e, h1, h2⟩ => by subst e; exact LR.drop k h2
theorem BR.fold : ∀ {ys : List (Str × PV)} {ys' : List (Str × Value)} {l : List (Str × PV)} {l' : List (Str × Value)}, BR sA ρ news ys ys' → BR sA ρ news l l' →
    BR sA ρ news (ys.foldl (fun acc x => if (acc.lookup x.1).isNone then acc ++ [x] else acc) l) (ys'.foldl (fun acc x => if (acc.lookup x.1).isNone then acc ++ [x] else acc) l')
  | [], _, _, _, h, g => by cases h; exact g
  | y :: r, _, l, l', ⟨v, t, e, h1, h2⟩, g => by
    subst e
    rw [List.foldl_cons, List.foldl_cons]
    refine BR.fold h2 ?_
    dsimp only
    rw [g.isNone y.1]
    split
    · exact g.append ⟨v, [], rfl, h1, rfl⟩
    · exact g
theorem LR.lastOf {ps : List Str} {ds : List PV} {dv : List Value} (h : LR sA ρ news ds dv) : LR sA ρ news (Mine.lastOf ps ds) (Mine.lastOf ps dv) := by
  unfold Mine.lastOf; rw [h.length]; exact LR.drop _ h
theorem slots_rel {ps : List Str} {qs ds : List PV} {vs dv : List Value} (h : LR sA ρ news qs vs) (hd : LR sA ρ news ds dv) : BR sA ρ news (slotsOf ps qs ds) (slotsOf ps vs dv) := by
  unfold slotsOf
  rw [(LR.lastOf (ps := ps) hd).length]
  exact BR.fold (BR.zip (LR.lastOf hd)) (BR.zip h)
theorem binds_rel {ps : List Str} {qs ds : List PV} {vs dv : List Value} (h : LR sA ρ news qs vs) (hd : LR sA ρ news ds dv) : BR sA ρ news (bindsOf ps qs ds) (bindsOf ps vs dv) := by
  unfold bindsOf
  have hs := slots_rel (ps := ps) h hd
  generalize slotsOf ps qs ds = l at hs
  generalize slotsOf ps vs dv = l' at hs
  induction ps with
  | nil => exact rfl
  | cons n ps ih =>
    rw [List.filterMap_cons, List.filterMap_cons]
    cases e : l.lookup n with
    | none => rw [(hs.lookup n).2 e]; exact ih
    | some q => obtain ⟨v, e2, hv⟩ := (hs.lookup n).1 q e; rw [e2]; exact ⟨v, _, rfl, hv, ih⟩
theorem miss_rel {ps : List Str} {qs ds : List PV} {vs dv : List Value} (h : LR sA ρ news qs vs) (hd : LR sA ρ news ds dv) : noMiss ps qs ds = noMiss ps vs dv := by
  unfold noMiss
  rw [(LR.lastOf (ps := ps) hd).length]
  congr 2
  funext n
  exact (BR.zip h).isNone n
theorem BR.names : ∀ {l : List (Str × PV)} {l' : List (Str × Value)}, BR sA ρ news l l' → l.map (·.1) = l'.map (·.1)
  | [], _, h => by cases h; rfl
  | y :: r, _, ⟨v, t, e, _, h2⟩ => by subst e; rw [List.map_cons, List.map_cons, h2.names]
theorem BR.reverse : ∀ {l : List (Str × PV)} {l' : List (Str × Value)}, BR sA ρ news l l' → BR sA ρ news l.reverse l'.reverse
  | [], _, h => by cases h; exact rfl
  | y :: r, _, ⟨v, t, e, h1, h2⟩ => by subst e; rw [List.reverse_cons, List.reverse_cons]; exact h2.reverse.append ⟨v, [], rfl, h1, rfl⟩
theorem BR.mono {cs : List Addr} {ρ' : Foot} {news' : Led} (x : Ext cs ρ news ρ' news') : ∀ {l : List (Str × PV)} {l' : List (Str × Value)}, BR sA ρ news l l' → BR sA ρ' news' l l'
  | [], _, h => h
  | _ :: _, _, ⟨v, t, e, h1, h2⟩ => ⟨v, t, e, h1.mono x, h2.mono x⟩
end
end Mine
end
/-! part MiniZD -/
section
open PySem PySem.W PySem.Calls PyProof.Rows
namespace Mine
variable {prog : Program} {w : World} {p : Program} {loose : List Str} {mean : ExcName → Option Value} {mg mb : Str → Option Value}
section
variable {x : Fx} {ρ : Foot} {news : Led} {σ : PH} {m loc : Str → Option Value} {vars : Vars} {s₀ s : Shared}

def ansOf : SR → R PV
  | .ok (.ret v) _ σ => .ok v σ
  | .ok _ _ σ => .ok .none σ
  | .err e _ σ => .err e σ
  | .bad => .bad

def flV : Flow → Value
  | .ret v => v
  | _ => .none
theorem leave_ok {x₁ : Fx} {g : Heap} {L' : Addr} {news₁ : Led} {s₁ s' : Shared} {r : SR} {f : Flow} (hs : x₁.sA = x.sA) (hh : x₁.h₀ = g) (hl : x₁.fe.locals = L') (S : St x ρ news σ m loc vars s₀ s) (e₁ : Ext [] ρ news ρ news₁) (hc : ∀ q ∈ news, q.1 ∉ x₁.cells)
    (hsh : ∃ h tk, s₁ = { s₀ with heap := h, toks := tk }) (hF : SF x₁ ρ news₁ s₁ r f s') : LeaveK x.h₀ x.fe.locals m g (RF x ρ news m loc vars s₀ (ansOf r)) (flV f) s' := by
  subst hh hl
  cases r with
  | ok fl vars' σ' =>
    obtain ⟨ρ', news', m', loc', S', E', hfl⟩ := hF
    refine ⟨x₁.fe.locals, m', news', S'.F, S'.N, fun F N => ?_⟩
    have E : Ext [] ρ news ρ' news' := (e₁.nil.trans E').strip fun q hq _ => hc q hq
    have St' : St x ρ' news' σ' m loc vars s₀ s' := by
      refine ⟨F, N, S'.nd, hs ▸ S'.R, ?_, S.V.ext E, ?_⟩
      · rcases S.L with h | ⟨o, h, h2, h3, h4⟩
        · exact .inl h
        · exact .inr ⟨o, (E.keep _ h h2 (.inl (by simp))).1, (E.keep _ h h2 (.inl (by simp))).2, h3, h4⟩
      · obtain ⟨h, t, q⟩ := S'.sh
        obtain ⟨h2, t2, q2⟩ := hsh
        subst q2; exact ⟨h, t, q⟩
    cases fl with
    | next => cases hfl; exact QF.of St' E rfl
    | brk => cases hfl; exact QF.of St' E rfl
    | cont => cases hfl; exact QF.of St' E rfl
    | ret q => obtain ⟨v, rfl, hv⟩ := hfl; exact QF.of St' E (hs ▸ hv)
  | _ => exact hF.elim

/-- the defaults of a def -/
theorem dfl_ok {fd : FuncData} {ds : List PV} (X : x.W.K.In s.heap) (h : dflP x.W.K fd = some ds) : ∃ dv, LR x.sA ρ news ds dv ∧ ∀ {A : Around}, wpAny (model prog w) A (seqItems? fd.defaults) (fun r s' => (r.getD #[]).toList = dv ∧ s' = s) (fun _ _ => False) s := by
  unfold dflP at h
  split at h
  · rename_i hd
    cases h
    refine ⟨[], rfl, fun {A} => ?_⟩
    rw [hd]
    show wpAny _ _ (do notAStandIn .none; pure none) _ _ _
    exact wpAny_bind (wpAny_of_eq (a := ()) rfl (wpAny_pure ⟨rfl, rfl⟩))
  · rename_i T hd
    split at h
    · rename_i oc od items nn sl hl
      have key : ∀ (l : List Value) (ds : List PV), l.mapM (toPV x.W.K) = some ds → LR x.sA ρ news ds l := by
        intro l
        induction l with
        | nil => intro ds h; simp at h; subst h; exact rfl
        | cons v l ih =>
          intro ds h
          rw [List.mapM_cons] at h
          obtain ⟨q, h1, h2⟩ := Option.bind_eq_some_iff.mp h
          obtain ⟨qs, h3, h4⟩ := Option.bind_eq_some_iff.mp h2
          cases h4
          exact ⟨v, l, rfl, toPV_VR h1 _ _ _, ih qs h3⟩
      refine ⟨items.toList, key _ _ h, fun {A} => ?_⟩
      rw [hd]
      exact wpAny_seqItems (X _ _ hl) rfl ⟨rfl, rfl⟩
    · cases h
  · cases h

/-- the workplace of a def's body -/
abbrev Fx.call (x : Fx) (g : Heap) (env' : Env) (sc : Str → Option NameKind) : Fx := { A₀ := x.A, A := x.A.deeper env', base := x.base, h₀ := g, outer := x.fe :: x.outer, fe := env', ce := env', sc := sc, W := x.W, sA := x.sA }
theorem Fx.Pre.call (P : x.Pre p loose mean mg mb) {g : Heap} {env' : Env} {sc : Str → Option NameKind} (B : Below x.A x.base (x.fe :: x.outer) g) (st : x.h₀.StaysIn g) (hf : env'.frame = some env'.locals) (hk : env'.scope.kind = .function) : (x.call g env' sc).Pre p loose mean mg mb := by
  refine ⟨B, P.X.keeps st, P.T.keeps st, ?_, hf, hk, P.hh, P.hg, P.own, ?_⟩
  · show x.A.frames.map (env' :: ·) = _
    rw [P.hA]; rfl
  · obtain ⟨vs, h1, h2⟩ := P.scr
    exact ⟨vs, stays_list st h1, h2⟩
end
end Mine
end
/-! part MiniZE -/
section
open PySem PySem.W PySem.Calls PyProof.Rows
namespace Mine
variable {prog : Program} {w : World} {p : Program} {loose : List Str} {mean : ExcName → Option Value} {mg mb : Str → Option Value}

theorem callF_parts {W : Wd} {d : Nat} {f : Addr} {args : List PV} {σ : PH} (nb : callF W (d + 1) f args σ ≠ .bad) : ∃ oc od fd sl body l, W.K.lookup f = some ⟨oc, od, .func fd, sl⟩ ∧ fd.body = .stmts body ∧ defOk W.K fd = true ∧ bindPL W.K fd args = some l ∧ bindOk fd l = true ∧
    callF W (d + 1) f args σ = ansOf (exs W (callF W d) (fun y => fd.scope.names.lookup y) fuel (bindP l) body σ) := by
  have e : callF W (d + 1) f args σ = (match W.K.lookup f with
    | some ⟨_, _, .func fd, _⟩ => (match fd.body with
      | .stmts body => if defOk W.K fd then (match bindPL W.K fd args with
        | some l => if bindOk fd l then (match exs W (callF W d) (fun y => fd.scope.names.lookup y) fuel (bindP l) body σ with
          | .ok (.ret v) _ σ => .ok v σ
          | .ok _ _ σ => .ok .none σ
          | .err e _ σ => .err e σ
          | .bad => .bad) else .bad
        | .none => .bad) else .bad
      | _ => .bad)
    | _ => .bad) := rfl
  rw [e] at nb ⊢
  split at nb
  · rename_i oc od fd sl hl
    split at nb
    · rename_i body hb
      obtain ⟨h1, h2⟩ := if_bad nb
      rw [h2] at nb
      split at nb
      · rename_i l h3
        obtain ⟨h4, h5⟩ := if_bad nb
        refine ⟨oc, od, fd, sl, body, l, hl, hb, h1, h3, h4, ?_⟩
        simp only [hl, hb, h1, h3, h4, if_true]
        unfold ansOf
        cases exs W (callF W d) (fun y => fd.scope.names.lookup y) fuel (bindP l) body σ with
        | ok fl v σ => cases fl <;> rfl
        | err e v σ => rfl
        | bad => rfl
      · exact absurd rfl nb
    · exact absurd rfl nb
  · exact absurd rfl nb

theorem defOk_parts {K : Frag} {fd : FuncData} (h : defOk K fd = true) : fd.globals = mainGlobals ∧ fd.builtins = builtinsNs ∧ codeIn K fd.code fd.qualname = true ∧ fd.scope.kind = .function ∧ fd.scope.isCoroutine = false ∧ fd.scope.isGenerator = false ∧
    (∀ y ∈ fd.closure, (K.lookup y.2).isSome = true) ∧ (fd.closure.map (·.2)).Nodup ∧ (noCells fd.scope = true ∨ (noCells fd.scope = false ∧ fd.closure = [] ∧ ((cellsFrom 0 fd.scope.names []).map (·.1)).Nodup ∧ ∀ y ∈ fd.scope.names, y.2 = .cell → fd.scope.names.lookup y.1 = some .cell)) := by
  unfold defOk at h
  simp only [Bool.and_eq_true, Bool.or_eq_true, Bool.not_eq_true', beq_iff_eq, List.isEmpty_iff, decide_eq_true_eq, List.all_eq_true] at h
  obtain ⟨⟨⟨⟨⟨⟨⟨⟨h1, h2⟩, h3⟩, h4⟩, h5⟩, h6⟩, h7⟩, h9⟩, h8⟩ := h
  refine ⟨h1, h2, h3, h4, h5, h6, h7, h9, ?_⟩
  cases hn : noCells fd.scope with
  | true => exact .inl rfl
  | false => rw [hn] at h8; exact .inr ⟨rfl, h8.elim (fun q => by cases q) fun ⟨⟨a, b⟩, c⟩ => ⟨a, b, fun y hy e => (c y hy).elim (fun q => by rw [e] at q; cases q) id⟩⟩

theorem lookup_mem' {y : Str} {c : Addr} {l : List (Str × Addr)} (h : l.lookup y = some c) : (y, c) ∈ l := by
  obtain ⟨l1, l2, e, _⟩ := List.lookup_eq_some_iff.mp h
  rw [e]; simp
theorem snd_inj {l : List (Str × Addr)} {y z : Str} {c : Addr} (nd : (l.map (·.2)).Nodup) (hy : (y, c) ∈ l) (hz : (z, c) ∈ l) : y = z := by
  induction l with
  | nil => cases hy
  | cons q r ih =>
    rw [List.map_cons, List.nodup_cons] at nd
    rcases List.mem_cons.mp hy with h1 | h1
    · rcases List.mem_cons.mp hz with k1 | k1
      · exact (Prod.mk.inj (h1.trans k1.symm)).1
      · exact absurd (List.mem_map_of_mem (f := (·.2)) k1) (by rw [← h1] at nd; exact nd.1)
    · rcases List.mem_cons.mp hz with k1 | k1
      · exact absurd (List.mem_map_of_mem (f := (·.2)) h1) (by rw [← k1] at nd; exact nd.1)
      · exact ih nd.2 h1 k1

section
variable {x : Fx} {ρ : Foot} {news : Led} {σ : PH} {m loc : Str → Option Value} {vars : Vars} {s₀ s : Shared}

/-- a body without cells of its own, run -/
theorem run_plain {d : Nat} (ix : ∀ n, ExOk prog w p loose mean mg mb x.W (callF x.W d) d n) (P : x.Pre p loose mean mg mb) (bd : Bud x.A (d + 1) 50) (S : St x ρ news σ m loc vars s₀ s) {f : Addr} {fd : FuncData} {body : List Stmt} {l : List (Str × PV)} {lv : List (Str × Value)} {news₁ : Led} {s₁ : Shared}
    (hd : defOk x.W.K fd = true) (hn : noCells fd.scope = true) (hb : bindOk fd l = true) (F₁ : Fr x.h₀ x.fe.locals s₁.heap m) (N₁ : News x.h₀ x.fe.locals s₁.heap news₁) (nd₁ : (news₁.map (·.1)).Nodup) (R₁ : Rep x.sA ρ news₁ σ) (e₁ : Ext [] ρ news ρ news₁) (hsh : ∃ h tk, s₁ = { s₀ with heap := h, toks := tk })
    (hl : BR x.sA ρ news₁ l lv) (nb : exs x.W (callF x.W d) (fun y => fd.scope.names.lookup y) fuel (bindP l) body σ ≠ .bad) {E : Value → Shared → Prop} :
    wpAny (model prog w) x.A.in1 (newFunctionEnv fd.scope mainGlobals fd.closure lv (fd.qualname ++ ".<locals>.") (some f) fd.code none builtinsNs) (fun env s₂ => s₂.heap.NoLimit ∧ codeG (model prog w) x.A (.func body env) (RF x ρ news m loc vars s₀ (ansOf (exs x.W (callF x.W d) (fun y => fd.scope.names.lookup y) fuel (bindP l) body σ))) s₂) E s₁ := by
  obtain ⟨_, _, _, hk, _, _, hcl, hcn, _⟩ := defOk_parts hd
  have hcell : ∀ y ∈ fd.scope.names, y.2 ≠ .cell := fun y hy => by
    have := List.all_eq_true.mp hn y hy
    simpa using this
  have hloc : ∀ y ∈ lv, fd.scope.names.lookup y.1 = some .local := fun y hy => by
    have h1 : y.1 ∈ l.map (·.1) := by rw [hl.names]; exact List.mem_map_of_mem hy
    obtain ⟨z, hz, e⟩ := List.mem_map.mp h1
    have h2 := List.all_eq_true.mp hb z hz
    rw [hn] at h2
    rw [← e]
    simpa using h2
  refine G_env_plain (m := m) P.B F₁ N₁ P.T.nolimit P.hA P.hf P.hk hloc (fun g L' h₁ Fg F' N' B' st hlt => ?_) hcell hk
  generalize hE : envX fd.qualname fd.scope L' f fd.code fd.closure = env'
  have e1 : env'.scope = fd.scope := by rw [← hE]
  have e2 : env'.locals = L' := by rw [← hE]
  have e3 : env'.cells = fd.closure := by rw [← hE]
  have e4 : env'.frame = some L' := by rw [← hE]
  have e5 : env'.globals = mainGlobals := by rw [← hE]
  have e6 : env'.builtins = builtinsNs := by rw [← hE]
  let x₁ : Fx := x.call g env' fun y => fd.scope.names.lookup y
  have P₁ : x₁.Pre p loose mean mg mb := P.call B' st (by rw [e4, e2]) (by rw [e1]; exact hk)
  have C₁ : x₁.Sco := ⟨by show env'.scope.kind = _; rw [e1]; exact hk, e5, e6, fun y k h => .inl (by show env'.scope.names.lookup y = _; rw [e1]; exact h), rfl⟩
  have inK : ∀ c ∈ x₁.cells, ∃ o, x.h₀.get? c = some o := fun c hc => by
    unfold Fx.cells at hc
    have hc : c ∈ env'.cells.map (·.2) := hc
    rw [e3] at hc
    obtain ⟨y, hy, rfl⟩ := List.mem_map.mp hc
    obtain ⟨o, ho⟩ := Option.isSome_iff_exists.mp (hcl y hy)
    exact ⟨o, P.X _ _ ho⟩
  have U₁ : x₁.Fun := by
    refine ⟨fun {ρ news σ m loc vars s₀ s} S' hm => ?_, rfl, fun y hy => ?_⟩
    · obtain ⟨o, ho⟩ := inK _ hm
      exact absurd (Heap.lt_size (S'.F.keep _ _ (st _ _ ho))) (Nat.lt_irrefl _)
    · have hy : env'.scope.names.lookup y = some .cell := hy
      rw [e1] at hy
      obtain ⟨l1, l2, e, _⟩ := List.lookup_eq_some_iff.mp hy
      exact absurd rfl (hcell (y, .cell) (by rw [e]; simp))
  have bd₁ : Bud x₁.A d 52 := ⟨by have := bd.1; show x.A.depth + 1 + _ + _ < _; omega, by have := bd.2; show x.A.units + 3 + _ + _ < _; omega⟩
  let s₂ : Shared := { s₁ with heap := h₁, toks := s₁.toks + lv.length }
  have S₁ : St x₁ ρ news₁ σ (fun y => lv.reverse.lookup y) (fun y => lv.reverse.lookup y) (bindP l) s₂ s₂ := by
    refine ⟨e2 ▸ F', e2 ▸ N', nd₁, R₁, .inl ⟨rfl, rfl⟩, ⟨fun y q hq => ?_, fun y c hk2 _ => ?_, fun y z c hy hz => ?_⟩, ⟨h₁, s₁.toks + lv.length, rfl⟩⟩
    · obtain ⟨v, h1, h2⟩ := (hl.reverse.lookup y).1 q hq
      have hm : (y, v) ∈ lv := by
        obtain ⟨l1, l2, e, _⟩ := List.lookup_eq_some_iff.mp h1
        have : (y, v) ∈ lv.reverse := by rw [e]; simp
        simpa using this
      have hky : env'.kindOf y = some .local := by show env'.scope.names.lookup y = _; rw [e1]; exact hloc _ hm
      show match env'.kindOf y with | some .local => _ | some .cell | some .free => _ | _ => _
      rw [hky]
      exact ⟨v, h1, h2⟩
    · have hy : env'.scope.names.lookup y = some .cell := hk2
      rw [e1] at hy
      obtain ⟨l1, l2, e, _⟩ := List.lookup_eq_some_iff.mp hy
      exact absurd rfl (hcell (y, .cell) (by rw [e]; simp))
    · have hy : env'.cells.lookup y = some c := hy
      have hz : env'.cells.lookup z = some c := hz
      rw [e3] at hy hz
      exact snd_inj hcn (lookup_mem' hy) (lookup_mem' hz)
  refine wpG.mono ((ix fuel).l x₁ rfl P₁ C₁ U₁ bd₁ s₂ (bindP l) body σ _ _ _ _ _ S₁ nb) (fun fl s' hF => ?_) fun _ _ q => q.elim
  have hL := leave_ok (x := x) (x₁ := x₁) rfl rfl e2 S e₁ (fun q hq hm => ?_) ?_ hF
  · cases fl <;> exact hL
  · obtain ⟨o, ho⟩ := inK _ hm
    rw [(S.N q hq).2.2] at ho; cases ho
  · obtain ⟨h, t, q⟩ := hsh
    exact ⟨h₁, s₁.toks + lv.length, by show ({ s₁ with heap := h₁, toks := s₁.toks + lv.length } : Shared) = _; rw [q]⟩
end
end Mine
end
/-! part MiniZG -/
section
open PySem PySem.W PySem.Calls PyProof.Rows
namespace Mine
section
variable {prog : Program} {w : World} {A₀ A : Around} {s : Shared} {base h₀ : Heap} {outer : List Env} {L : Addr} {m : Str → Option Value} {env : Env} {news : List (Addr × Obj)} {R : Result → Shared → Prop}
  {qual : Str} {body : List Stmt} {scope : Scope} {cdv : Value} {f : Addr} {binds : List (Str × Value)}

theorem G_env_cells (B : Below A₀ base outer h₀) (F : Fr h₀ L s.heap m) (N : News h₀ L s.heap news) (hlim : h₀.NoLimit) (hA : A.frames = some (env :: outer)) (hf : env.frame = some L) (hke : env.scope.kind = .function)
    (hkind : ∀ n, ∀ x ∈ binds, scope.names.lookup x.1 = some .local ∨ (scope.names.lookup x.1 = some .cell ∧ ((cellsFrom n scope.names []).lookup x.1).isSome = true))
    (hnd : ((cellsFrom 0 scope.names []).map (·.1)).Nodup)
    (h : ∀ g L' h₁ tk cells, Fr h₀ L g m → Fr g L' h₁ (bindL (envOfC qual scope L' f cdv).kindOf binds fun _ => none) → News g L' h₁ (cells ++ news) →
      CellsAre (bindC (envOfC qual scope L' f cdv).kindOf binds fun _ => none) (cellsFrom (L' + 1) scope.names []) cells → Below A base (env :: outer) g → h₀.StaysIn g → (∀ p ∈ news, p.1 < L') → L' = s.heap.objs.size →
      wpG (model prog w) (A.deeper (envOfC qual scope L' f cdv)) (execs body (envOfC qual scope L' f cdv))
        (fun fl s' => LeaveK h₀ L m g R (match fl with | .ret v => v | _ => .none) s')
        (fun e s' => wpG (model prog w) (A.deeper (envOfC qual scope L' f cdv)) (leaving (envOfC qual scope L' f cdv) e) (fun _ s'' => R (.error e) s'') (fun e' s'' => R (.error e') s'') s')
        { s with heap := h₁, toks := tk }) (hk : scope.kind = .function) {E : Value → Shared → Prop} :
    wpAny (model prog w) A.in1 (newFunctionEnv scope mainGlobals [] binds (qual ++ ".<locals>.") (some f) cdv none builtinsNs) (fun env s₂ => s₂.heap.NoLimit ∧ codeG (model prog w) A (.func body env) R s₂) E s := by
  obtain ⟨FG, BG, st, lv⟩ := groundX (R := R) B F N hA hf hke
  refine wpAny_newFunctionEnv_cells hk (hkind _) fun env' he s' x => ?_
  subst he
  refine ⟨(hlim.keeps F.keep).keeps x.toInCall.keep, G_func ?_⟩
  obtain ⟨h₁, tk, rfl, _⟩ := x.done
  have hk₁ := x.toInCall.keep
  obtain ⟨cells, NC, Y⟩ := Cl.news (h₀ := s.heap) (Nat.le_refl _) fun n c hm => ⟨x.cell n c (lookup_of_mem_nodup (cellsFrom_names scope.names 0 (s.heap.objs.size + 1) [] [] rfl ▸ hnd) hm), x.above n c hm⟩
  refine wpG.mono (h _ s.heap.objs.size h₁ tk cells FG ⟨x.toInCall.ns, fun b o e => hk₁ b o (of_hideAll _ e), Nat.le_of_eq (hideAll_size _ _)⟩ (fun p hp => ?_) Y BG st (fun p hp => Heap.lt_size (N p hp).1) rfl) (fun fl s' hl => lv _ _ hl) fun _ _ y => y
  rcases List.mem_append.mp hp with hp | hp
  · refine ⟨(NC p hp).1, (NC p hp).2.1, ?_⟩
    cases q : (hideAll s.heap (news.map (·.1))).get? p.1 with
    | none => rfl
    | some o => have := of_hideAll _ q; rw [(NC p hp).2.2] at this; cases this
  · exact ⟨hk₁ _ _ (N p hp).1, Nat.ne_of_lt (Heap.lt_size (N p hp).1), hideAll_none _ (List.mem_map_of_mem hp)⟩
end
end Mine
end
/-! part MiniZH -/
section
open PySem PySem.W PySem.Calls PyProof.Rows
namespace Mine
variable {prog : Program} {w : World} {p : Program} {loose : List Str} {mean : ExcName → Option Value} {mg mb : Str → Option Value}

theorem bindL_at {kindOf : Str → Option NameKind} {y : Str} (hk : kindOf y = some .local) : ∀ (l : List (Str × Value)) (m : Str → Option Value), bindL kindOf l m y = (l.reverse.lookup y).or (m y)
  | [], m => rfl
  | (n, v) :: r, m => by
    unfold bindL
    rw [bindL_at hk r, List.reverse_cons, List.lookup_append, List.lookup_cons]
    cases hr : r.reverse.lookup y with
    | some u => simp
    | none =>
      simp only [Option.none_or]
      by_cases e : y = n
      · subst e; simp [hk]
      · rw [beq_eq_false_iff_ne.mpr e]
        split <;> simp [e]
theorem bindC_at {kindOf : Str → Option NameKind} {y : Str} (hk : kindOf y ≠ some .local) : ∀ (l : List (Str × Value)) (m : Str → Option Value), bindC kindOf l m y = (l.reverse.lookup y).or (m y)
  | [], m => rfl
  | (n, v) :: r, m => by
    unfold bindC
    rw [bindC_at hk r, List.reverse_cons, List.lookup_append, List.lookup_cons]
    cases hr : r.reverse.lookup y with
    | some u => simp
    | none =>
      simp only [Option.none_or]
      by_cases e : y = n
      · subst e; simp [hk]
      · rw [beq_eq_false_iff_ne.mpr e]
        split <;> simp [e]
theorem cellsAre_at {cm : Str → Option Value} {cs : List (Str × Addr)} {cells : List (Addr × Obj)} (X : CellsAre cm cs cells) : ∀ {y : Str} {c : Addr}, cs.lookup y = some c → ∃ o, (c, o) ∈ cells ∧ o.data = .cell (cm y) := by
  induction X with
  | nil => intro y c e; cases e
  | @cons n c' o cs cells hd _ ih =>
    intro y c e
    rw [List.lookup_cons] at e
    cases hb : y == n with
    | true => rw [hb] at e; cases e; rw [eq_of_beq hb]; exact ⟨o, .head _, hd⟩
    | false => rw [hb] at e; obtain ⟨o', h1, h2⟩ := ih e; exact ⟨o', .tail _ h1, h2⟩
theorem cellsAre_addr {cm : Str → Option Value} {cs : List (Str × Addr)} {cells : List (Addr × Obj)} (X : CellsAre cm cs cells) : cells.map (·.1) = cs.map (·.2) := by
  induction X with
  | nil => rfl
  | cons _ _ ih => rw [List.map_cons, List.map_cons, ih]
theorem cellsFrom_kind : ∀ (names : List (Str × NameKind)) (n : Nat) (acc : List (Str × Addr)) (y : Str) (c : Addr), (y, c) ∈ cellsFrom n names acc → (y, c) ∈ acc ∨ (y, NameKind.cell) ∈ names
  | [], _, _, _, _, h => .inl h
  | (name, kind) :: r, n, acc, y, c, h => by
    unfold cellsFrom at h
    split at h
    · rename_i hk
      rcases cellsFrom_kind r _ _ y c h with h | h
      · rcases List.mem_cons.mp h with e | h
        · cases e; have : kind = .cell := by simpa using hk
          subst this; exact .inr (.head _)
        · exact .inl h
      · exact .inr (.tail _ h)
    · rcases cellsFrom_kind r _ _ y c h with h | h
      · exact .inl h
      · exact .inr (.tail _ h)

section
variable {x : Fx} {ρ : Foot} {news : Led} {σ : PH} {m loc : Str → Option Value} {vars : Vars} {s₀ s : Shared}

/-- a body with cells of its own, run -/
theorem run_cells {d : Nat} (ix : ∀ n, ExOk prog w p loose mean mg mb x.W (callF x.W d) d n) (P : x.Pre p loose mean mg mb) (bd : Bud x.A (d + 1) 50) (S : St x ρ news σ m loc vars s₀ s) {f : Addr} {fd : FuncData} {body : List Stmt} {l : List (Str × PV)} {lv : List (Str × Value)} {news₁ : Led} {s₁ : Shared}
    (hd : defOk x.W.K fd = true) (hn : noCells fd.scope = false) (hb : bindOk fd l = true) (F₁ : Fr x.h₀ x.fe.locals s₁.heap m) (N₁ : News x.h₀ x.fe.locals s₁.heap news₁) (nd₁ : (news₁.map (·.1)).Nodup) (R₁ : Rep x.sA ρ news₁ σ) (e₁ : Ext [] ρ news ρ news₁) (hsh : ∃ h tk, s₁ = { s₀ with heap := h, toks := tk })
    (hl : BR x.sA ρ news₁ l lv) (nb : exs x.W (callF x.W d) (fun y => fd.scope.names.lookup y) fuel (bindP l) body σ ≠ .bad) {E : Value → Shared → Prop} :
    wpAny (model prog w) x.A.in1 (newFunctionEnv fd.scope mainGlobals fd.closure lv (fd.qualname ++ ".<locals>.") (some f) fd.code none builtinsNs) (fun env s₂ => s₂.heap.NoLimit ∧ codeG (model prog w) x.A (.func body env) (RF x ρ news m loc vars s₀ (ansOf (exs x.W (callF x.W d) (fun y => fd.scope.names.lookup y) fuel (bindP l) body σ))) s₂) E s₁ := by
  obtain ⟨_, _, _, hk, _, _, _, _, h9⟩ := defOk_parts hd
  obtain ⟨hcl, hnd, hck⟩ : fd.closure = [] ∧ ((cellsFrom 0 fd.scope.names []).map (·.1)).Nodup ∧ ∀ y ∈ fd.scope.names, y.2 = .cell → fd.scope.names.lookup y.1 = some .cell := by
    rcases h9 with q | ⟨_, q⟩
    · rw [hn] at q; cases q
    · exact q
  have hkin : ∀ y ∈ lv, fd.scope.names.lookup y.1 = some .local ∨ fd.scope.names.lookup y.1 = some .cell := fun y hy => by
    have h1 : y.1 ∈ l.map (·.1) := by rw [hl.names]; exact List.mem_map_of_mem hy
    obtain ⟨z, hz, e⟩ := List.mem_map.mp h1
    have h2 := List.all_eq_true.mp hb z hz
    rw [hn] at h2
    rw [← e]
    simpa using h2
  rw [hcl]
  refine G_env_cells (m := m) P.B F₁ N₁ P.T.nolimit P.hA P.hf P.hk (fun n y hy => (hkin y hy).imp id fun h => ⟨h, cellsFrom_some _ _ _ (.inl h)⟩) hnd (fun g L' h₁ tk cells Fg F' N' Y B' st hlt hL => ?_) hk
  have ok := cellsFrom_ok fd.scope.names (s₁.heap.push { cls := .type "frame", data := .dict #[] }) (L' + 1) [] ⟨fun _ _ hm => (nomatch hm), List.Pairwise.nil⟩ (by rw [Heap.size_push, hL]; exact Nat.le_refl _)
  rw [Heap.size_push, ← hL] at ok
  generalize hE : envOfC fd.qualname fd.scope L' f fd.code = env' at F' Y ⊢
  have e1 : env'.scope = fd.scope := by rw [← hE]; rfl
  have e2 : env'.locals = L' := by rw [← hE]; rfl
  have e3 : env'.cells = cellsFrom (L' + 1) fd.scope.names [] := by rw [← hE]; rfl
  have e4 : env'.frame = some L' := by rw [← hE]; rfl
  have e5 : env'.globals = mainGlobals := by rw [← hE]; rfl
  have e6 : env'.builtins = builtinsNs := by rw [← hE]; rfl
  have ek : ∀ y, env'.kindOf y = fd.scope.names.lookup y := fun y => by show env'.scope.names.lookup y = _; rw [e1]
  let x₁ : Fx := x.call g env' fun y => fd.scope.names.lookup y
  have P₁ : x₁.Pre p loose mean mg mb := P.call B' st (by rw [e4, e2]) (by rw [e1]; exact hk)
  have C₁ : x₁.Sco := ⟨by show env'.scope.kind = _; rw [e1]; exact hk, e5, e6, fun y k h => .inl ((ek y).trans h), rfl⟩
  have bd₁ : Bud x₁.A d 52 := ⟨by have := bd.1; show x.A.depth + 1 + _ + _ < _; omega, by have := bd.2; show x.A.units + 3 + _ + _ < _; omega⟩
  let s₂ : Shared := { s₁ with heap := h₁, toks := tk }
  have cl : ∀ y c, (y, c) ∈ cellsFrom (L' + 1) fd.scope.names [] → L' < c := fun y c hm => (ok.empty y c hm).2
  have cellLt : ∀ q ∈ cells, @LT.lt Nat _ L' q.1 := fun q hq => by
    have h1 : q.1 ∈ cells.map (·.1) := List.mem_map_of_mem hq
    rw [cellsAre_addr Y] at h1
    obtain ⟨z, hz, e⟩ := List.mem_map.mp h1
    rw [← e]; exact cl z.1 z.2 hz
  have nodC : (cells.map (·.1)).Nodup := by
    rw [cellsAre_addr Y, List.nodup_iff_pairwise_ne, List.pairwise_map]
    exact ok.apart
  have hρ : ∀ q ∈ cells, q.1 ∉ ρ.flatten := fun q hq hm => by
    obtain ⟨o, ho⟩ := R₁.led hm
    exact absurd (hlt _ ho) (Nat.not_lt.mpr (Nat.le_of_lt (cellLt q hq)))
  have nd₂ : ((cells ++ news₁).map (·.1)).Nodup := by
    rw [List.map_append, List.nodup_append]
    refine ⟨nodC, nd₁, fun a ha b hb e => ?_⟩
    obtain ⟨q, hq, rfl⟩ := List.mem_map.mp ha
    obtain ⟨r, hr, rfl⟩ := List.mem_map.mp hb
    have := hlt r hr
    rw [← e] at this
    exact absurd this (Nat.not_lt.mpr (Nat.le_of_lt (cellLt q hq)))
  have e₂ : Ext [] ρ news₁ ρ (cells ++ news₁) := .junk
  have U₁ : x₁.Fun := by
    refine ⟨fun {ρ news σ m loc vars s₀ s} S' hm => ?_, rfl, fun y hy => ?_⟩
    · have hm : s.heap.objs.size ∈ env'.cells.map (·.2) := hm
      obtain ⟨z, hz, e⟩ := List.mem_map.mp hm
      have hz' : (z.1, z.2) ∈ cellsFrom (L' + 1) fd.scope.names [] := by rw [← e3]; exact hz
      have hlk : env'.cells.lookup z.1 = some z.2 := by
        rw [e3]
        exact lookup_of_mem_nodup (cellsFrom_names fd.scope.names 0 (L' + 1) [] [] rfl ▸ hnd) hz'
      have hkz : env'.kindOf z.1 = some .cell := by
        rw [ek]
        rcases cellsFrom_kind _ _ _ _ _ hz' with h | h
        · cases h
        · exact hck _ h rfl
      obtain ⟨o, w', h1, h2, h3⟩ := S'.V.c z.1 z.2 hkz hlk
      have := S'.low h1
      rw [e] at this
      exact absurd this (Nat.lt_irrefl _)
    · have hy : env'.kindOf y = some .cell := hy
      rw [ek] at hy
      have := cellsFrom_some fd.scope.names (L' + 1) [] (.inl hy)
      obtain ⟨c, hc⟩ := Option.isSome_iff_exists.mp this
      exact ⟨c, by show env'.cells.lookup y = _; rw [e3]; exact hc⟩
  have S₁ : St x₁ ρ (cells ++ news₁) σ (bindL env'.kindOf lv fun _ => none) (bindL env'.kindOf lv fun _ => none) (bindP l) s₂ s₂ := by
    refine ⟨e2 ▸ F', e2 ▸ N', nd₂, R₁.junk, .inl ⟨rfl, rfl⟩, ⟨fun y q hq => ?_, fun y c hk2 hc => ?_, fun y z c hy hz => ?_⟩, ⟨h₁, tk, rfl⟩⟩
    · obtain ⟨v, h1, h2⟩ := (hl.reverse.lookup y).1 q hq
      have hm : (y, v) ∈ lv := by
        obtain ⟨l1, l2, e, _⟩ := List.lookup_eq_some_iff.mp h1
        have : (y, v) ∈ lv.reverse := by rw [e]; simp
        simpa using this
      show match env'.kindOf y with | some .local => _ | some .cell | some .free => _ | _ => _
      rcases hkin _ hm with hky | hky
      · have hky' : env'.kindOf y = some .local := (ek y).trans hky
        rw [hky']
        refine ⟨v, ?_, h2.mono e₂⟩
        rw [bindL_at hky', h1]; rfl
      · have hky' : env'.kindOf y = some .cell := (ek y).trans hky
        rw [hky']
        obtain ⟨c, hc⟩ := Option.isSome_iff_exists.mp (cellsFrom_some fd.scope.names (L' + 1) [] (.inl hky))
        obtain ⟨o, h3, h4⟩ := cellsAre_at Y hc
        refine ⟨c, v, o, by show env'.cells.lookup y = _; rw [e3]; exact hc, List.mem_append_left _ h3, hρ _ h3, ?_, h2.mono e₂⟩
        rw [h4, bindC_at (by rw [hky']; decide), h1]; rfl
    · have hc : env'.cells.lookup y = some c := hc
      rw [e3] at hc
      obtain ⟨o, h3, h4⟩ := cellsAre_at Y hc
      exact ⟨o, _, List.mem_append_left _ h3, hρ _ h3, h4⟩
    · have hy : env'.cells.lookup y = some c := hy
      have hz : env'.cells.lookup z = some c := hz
      rw [e3] at hy hz
      exact name_of_addr ok.apart (mem_of_lookup hy) (mem_of_lookup hz)
  refine wpG.mono ((ix fuel).l x₁ rfl P₁ C₁ U₁ bd₁ s₂ (bindP l) body σ _ _ _ _ _ S₁ nb) (fun fl s' hF => ?_) fun _ _ q => q.elim
  have hL2 := leave_ok (x := x) (x₁ := x₁) rfl rfl e2 S (e₁.trans e₂) (fun q hq hm => ?_) ?_ hF
  · cases fl <;> exact hL2
  · have hm : q.1 ∈ env'.cells.map (·.2) := hm
    obtain ⟨z, hz, e⟩ := List.mem_map.mp hm
    rw [e3] at hz
    have h1 := cl z.1 z.2 hz
    by_cases hr : q.1 ∈ ρ.flatten
    · obtain ⟨o, ho⟩ := R₁.led hr
      have := hlt _ ho
      rw [← e] at this
      exact absurd this (Nat.not_lt.mpr (Nat.le_of_lt h1))
    · have := hlt _ (e₁.keep q hq hr (.inl (by simp))).1
      rw [← e] at this
      exact absurd this (Nat.not_lt.mpr (Nat.le_of_lt h1))
  · obtain ⟨h, t, q⟩ := hsh
    exact ⟨h₁, tk, by show ({ s₁ with heap := h₁, toks := tk } : Shared) = _; rw [q]⟩
end
end Mine
end
/-! part MiniZI -/
section
open PySem PySem.W PySem.Calls PyProof.Rows
namespace Mine
variable {prog : Program} {w : World} {p : Program} {loose : List Str} {mean : ExcName → Option Value} {mg mb : Str → Option Value}
section
variable {x : Fx} {ρ : Foot} {news : Led} {σ : PH} {m loc : Str → Option Value} {vars : Vars} {s₀ s : Shared}

theorem bindPL_parts {K : Frag} {fd : FuncData} {args : List PV} {l : List (Str × PV)} (h : bindPL K fd args = some l) : fd.params.kwonlyargs = [] ∧ ∃ ds, dflP K fd = some ds ∧ noMiss (psOf fd) args ds = true ∧
    ((fd.params.vararg = none ∧ fd.params.kwarg = none ∧ args.length ≤ (psOf fd).length ∧ l = bindsOf (psOf fd) args ds) ∨
     ∃ va ka, fd.params.vararg = some va ∧ fd.params.kwarg = some ka ∧ sizeOk args.length = true ∧ l = bindsOf (psOf fd) args ds ++ [(va.arg, .tup (args.drop (psOf fd).length)), (ka.arg, .opq)]) := by
  unfold bindPL at h
  split at h
  · cases h
  · rename_i hk
    obtain ⟨ds, h1, h2⟩ := Option.bind_eq_some_iff.mp h
    split at h2
    · rename_i hm
      refine ⟨by simpa using hk, ds, h1, hm, ?_⟩
      split at h2
      · rename_i hv hka
        split at h2
        · rename_i hle; cases h2; exact .inl ⟨hv, hka, hle, rfl⟩
        · cases h2
      · rename_i va ka hv hka
        split at h2
        · rename_i hz; cases h2; exact .inr ⟨va, ka, hv, hka, hz, rfl⟩
        · cases h2
      · cases h2
    · cases h2
end

theorem call_ok {W : Wd} : ∀ d, CbOk prog w p loose mean mg mb W (callF W d) d
  | 0 => fun _ _ _ _ _ _ _ _ _ _ _ _ _ _ _ _ _ nb => absurd rfl nb
  | d + 1 => by
    intro x hW P bd ρ news σ m loc vars s₀ s S f args vals ha nb
    subst hW
    have ih := call_ok (W := x.W) d
    have ix := ex_sound (ev_sound ih (bc_ok x.W d))
    obtain ⟨oc, od, fd, sl, body, l, hl, hb, hd, hbl, hbo, he⟩ := callF_parts nb
    rw [he] at nb ⊢
    have nb2 : exs x.W (callF x.W d) (fun y => fd.scope.names.lookup y) fuel (bindP l) body σ ≠ .bad := fun q => nb (by rw [q]; rfl)
    obtain ⟨g1, g2, g3, g4, g5, g6, g7, g8, g9⟩ := defOk_parts hd
    have X : x.W.K.In s.heap := P.X.keeps S.F.keep
    obtain ⟨hkw, ds, hds, hmiss, hcase⟩ := bindPL_parts hbl
    obtain ⟨dv, ldv, wds⟩ := dfl_ok (prog := prog) (w := w) (x := x) (ρ := ρ) (news := news) X hds
    have hroom : x.A.depth < recursionLimit := by have := bd.1; omega
    refine G_call_function hroom (X _ _ hl) rfl g5 g6 hb (codeRec_of X g3) ?_
    rw [g1, g2]
    rcases hcase with ⟨hva, hka, hle, rfl⟩ | ⟨va, ka, hva, hka, hz, rfl⟩
    · refine bind_plain hkw hva hka wds (by rw [← ha.length]; exact hle) (by rw [← miss_rel ha ldv]; exact hmiss) ?_
      rcases g9 with hn | ⟨hn, _⟩
      · exact run_plain ix P bd S hd hn hbo S.F S.N S.nd S.R .refl S.sh (binds_rel ha ldv) nb2
      · exact run_cells ix P bd S hd hn hbo S.F S.N S.nd S.R .refl S.sh (binds_rel ha ldv) nb2
    · refine bind_var hkw hva hka wds (by rw [← miss_rel ha ldv]; exact hmiss) (by rw [← ha.length]; exact of_decide_eq_true hz) ?_
      have S1 := S.junk (tk := s.toks) (a := s.heap.objs.size) (o := tupObj (vals.drop (psOf fd).length)) (fun y o e => Heap.get?_push_of_some _ e) (Nat.le_refl _) (Heap.get?_push_size _ rfl)
      have e1 : Ext [] ρ news ρ ([(s.heap.objs.size, tupObj (vals.drop (psOf fd).length))] ++ news) := .junk
      have S2 := S1.junk (tk := s.toks) (a := (s.heap.push (tupObj (vals.drop (psOf fd).length))).objs.size) (o := emptyDict) (fun y o e => Heap.get?_push_of_some _ e) (Nat.le_refl _) (Heap.get?_push_size _ rfl)
      have e2 : Ext [] ρ ([(s.heap.objs.size, tupObj (vals.drop (psOf fd).length))] ++ news) ρ ([((s.heap.push (tupObj (vals.drop (psOf fd).length))).objs.size, emptyDict)] ++ ([(s.heap.objs.size, tupObj (vals.drop (psOf fd).length))] ++ news)) := .junk
      have et := e1.trans e2
      rcases g9 with hn | ⟨hn, _⟩
      · refine run_plain ix P bd S hd hn hbo S2.F S2.N S2.nd S2.R et S2.sh ((BR.mono et (binds_rel ha ldv)).append ⟨_, _, rfl, ?_, ⟨_, _, rfl, trivial, rfl⟩⟩) nb2
        exact ⟨_, _, rfl, .tail _ (List.mem_cons_self ..), fun q => absurd (S.lowR q) (Nat.lt_irrefl _), LR.mono et _ _ (LR.drop _ ha)⟩
      · refine run_cells ix P bd S hd hn hbo S2.F S2.N S2.nd S2.R et S2.sh ((BR.mono et (binds_rel ha ldv)).append ⟨_, _, rfl, ?_, ⟨_, _, rfl, trivial, rfl⟩⟩) nb2
        exact ⟨_, _, rfl, .tail _ (List.mem_cons_self ..), fun q => absurd (S.lowR q) (Nat.lt_irrefl _), LR.mono et _ _ (LR.drop _ ha)⟩
end Mine
end
/-! part MiniZJ -/
section
open PySem PySem.W PySem.Calls PyProof.Rows
namespace Mine

/-! the law's call, from the empty stack -/
theorem ends_G {prog : Program} {w : World} {t : Sem Fin} {s : Shared} {R : Result → Shared → Prop} (hreg : s.asleep)
    (h : wpG (model prog w) callerA t (fun fin s' => ∃ f, fin = .done f ∧ (R (.ok f) s' ∧ leftWithCleanup s'.gens = false)) (fun e s' => R (.error e) s' ∧ leftWithCleanup s'.gens = false) s) :
    ∃ n r s' s'', runN (denote table) prog w n s ⟨t, .builtin "claim.caller" {}, default, []⟩ = .halted (outcomeOf r) s' ∧
      schedN (denote table) prog w n (.single s ⟨t, .builtin "claim.caller" {}, default, []⟩) = .halted (outcomeOf r) s' ∧ s'.forget = s''.forget ∧ R r s'' := by
  have h2 := h ⟨.builtin "claim.caller" {}, none, none, [], none⟩ default caller_in (by decide +kernel) (fun q hq => by cases hq)
  obtain ⟨n, r, s₁, s₂, hs, hn, hfo, hR⟩ := wp_halts_full (M := model prog w) (c := .builtin "claim.caller" {}) (p := default) (R := R) hreg
    (Sem.wp_mono _ _ _ (fun fin p' s' ⟨f, e, q⟩ => by subst e; exact q) (fun _ _ _ q => q) _ _ h2)
  exact ⟨n, r, s₂, s₁, hn, hs, hfo, hR⟩

theorem callFrom_G {c : ClaimW} {tree : List Value → Sem Fin} {w : World} {s : Shared} {free : Addr → Prop} {gens : Prop} {kept : Heap → Prop} (hz : s.asleep) (hgens : s.gens = #[])
    (hspec : ∀ args, c.pre args = true → WData.layableAll args = true → ∀ ord : List DictEntry → List DictEntry, (∀ l, (ord l).Perm l) →
      ∃ vs s₁, layAllW c.records (classAt s.heap) w.params ord args s = some (vs, s₁) ∧
        wpG (model c.prog w) callerA (tree vs) (fun fin s' => ∃ f, fin = .done f ∧ (c.Ends s args vs s₁ (.ok f) s' ∧ s'.os = s.os ∧ AllBare s'.gens ∧ kept s'.heap))
          (fun e s' => c.Ends s args vs s₁ (.error e) s' ∧ s'.os = s.os ∧ AllBare s'.gens ∧ kept s'.heap) s₁) :
    c.CallFrom (fun vs => ⟨tree vs, .builtin "claim.caller" {}, default, []⟩) w free gens kept s := by
  intro args hpre hlay ord hord
  obtain ⟨vs, s₁, hlaid, hcode⟩ := hspec args hpre hlay ord hord
  have rest := layAllW_rest _ _ _ hlaid
  obtain ⟨k, r, s', s'', hrun, hsched, hfo, hcase, hos, hkp⟩ := ends_G (prog := c.prog) (w := w) (t := tree vs) (s := s₁) (R := fun r s' => c.Ends s args vs s₁ r s' ∧ s'.os = s.os ∧ kept s'.heap)
    (Shared.asleep_of_life rest.2.2.2 hz)
    (wpG.mono hcode (fun fin s' ⟨f, e, h1, h2, h3, h4⟩ => ⟨f, e, ⟨h1, h2, h4⟩, leftWithCleanup_false_of_bare h3⟩) fun e s' ⟨h1, h2, h3, h4⟩ => ⟨⟨h1, h2, h4⟩, leftWithCleanup_false_of_bare h3⟩)
  obtain ⟨eh, _, _, eo, _⟩ := Shared.forget_eq hfo
  have hcase := hcase.congr eh
  have hkp : kept s'.heap := by rw [eh]; exact hkp
  rw [← eo] at hos
  refine ⟨vs, s₁, hlaid, k, _, s', hsched, ?_, (fun _ i x hx => by rw [hgens] at hx; simp at hx), hkp, by rw [(runN_life _ _ _ hrun).trans rest.2.2.2], Shared.rest_eq hos⟩
  rcases hcase with ⟨v, rfl, d1, d2, d3, d4, d5⟩ | ⟨e, ob, cls, rfl, d1, d2, d3, d4, d5⟩
  · exact .inl ⟨v, rfl, d1, d2, d3, fun b o y _ => d4 b o y, d5⟩
  · exact .inr ⟨e, ob, cls, rfl, d1, d2, d3, d4, fun b o y _ => d5 b o y⟩

/-- the call of a law, where no decoder stands on the stack -/
abbrev WalkG (q : Program) (loose : List Str) (XP : (Str → Option Value) → Heap → Prop) (YP : World → Heap → Prop) (r : RowW) (d : DefRec) (kwd : List (Str × Expr)) : Prop :=
  ∀ (w : World) (s₀ s₁ : Shared) (mg mb : Str → Option Value), Ground q loose r.records XP w s₀ mg mb s₁.heap → YP w s₁.heap → ∀ (a : Addr) (o : Obj) (pm cd doc dV kV : Value), s₁.heap.get? a = some o →
    o.data = .func { docDef d.name d.params d.body d.scope pm cd doc with defaults := dV, kwdefaults := kV } → s₁.heap.CodeRec cd d.name → Dflts mg s₁.heap d.params kwd dV kV → mg d.name = some (.ref a) → s₁.gens = #[] →
    ∀ (args : List WData) (vals : List Value) (as : List Addr), r.claim.pre args = true → WData.layableAll args = true → ReadsAllW r.records (classAt s₀.heap) s₁.heap vals args as → WellAll w.params s₁.heap vals args → (∀ a ∈ as, (a == sysModules) = false) →
      wpG (model r.prog w) callerA (PySem.call (.ref a) vals) (fun v s' => GoodWG r.claim (classAt s₀.heap) (ExcName.means s₀.heap) args s₁ (.ok (.ret v)) s')
        (fun e s' => GoodWG r.claim (classAt s₀.heap) (ExcName.means s₀.heap) args s₁ (.error e) s') s₁

end Mine
namespace Mine.PySem.W
/-- the head of an open row, for a call shown where no decoder stands on the stack -/
theorem holds_open {r : OpenRow} {q : Program} {loose : List Str} {Xt : Shared → Bool} {XP : (Str → Option Value) → Heap → Prop} {α : Type} {Yf : Shared → α} {Ya : World → α} {YP : World → Heap → Prop} {d : DefRec} {kwd : List (Str × Expr)} {N : Nat}
    (left : LeftO r.prog q loose Xt Yf Ya N) (hY : ∀ w s, Yf s = Ya w → YP w s.heap) (hYk : ∀ w h h', YP w h → (∀ b o, h.get? b = some o → h'.get? b = some o) → YP w h')
    (hX : ∀ s, Xt s = true → XP (s.heap.nsMap mainGlobals) s.heap) (hXk : ∀ mg h h', XP mg h → (∀ b o, h.get? b = some o → h'.get? b = some o) → XP mg h')
    (hdef : defOf q r.name = some (d, kwd)) (hp : r.prog.theDef r.name = some (d.params, d.body, d.scope)) (hk : kwWritten? d.params.kwonlyargs d.params.kw_defaults = some kwd) (hRf : ∀ s, Xt s = true → RecFacts r.records s.heap) (hwr : (!r.writes || r.records.isEmpty) = true)
    (k1 : r.wellSaid = true) (ok : (chainsOk q && opensWell r.prog && (frees r.toRowW && r.within.isEmpty)) = true) (hb : r.prog.bare) (hw : r.toRowW.promised)
    (call : WalkG q loose XP YP r.toRowW d kwd) : r.Holds := by
  obtain ⟨ok, k5⟩ := Bool.and_eq_true_iff.mp ok
  obtain ⟨hch, o1⟩ := Bool.and_eq_true_iff.mp ok
  obtain ⟨k5, k6⟩ := Bool.and_eq_true_iff.mp k5
  obtain ⟨hsame, hu, ha, hap, hm⟩ := frees_parts k5
  refine ⟨k1, hw, ⟨hb, o1, by show r.makers.map _ = []; rw [hm]; rfl⟩, hw.witness, fun w => ⟨(left.behind hX hch w).1, fun s' hs' => ?_⟩⟩
  obtain ⟨s₀, hf, hg0, s, hT, hz, hgens, hg, G0, y⟩ := (left.behind (XP := fun mg h => XP mg h ∧ RecFacts r.records h) (fun s hs => ⟨hX s hs, hRf s hs⟩) hch w).2 s' hs'
  have RF := G0.X.2
  have G1 : Ground q loose [] XP w s (s.heap.nsMap mainGlobals) (s.heap.nsMap builtinsNs) s.heap := ⟨G0.T, G0.B, G0.D, G0.TE, G0.TD, G0.W, G0.X.1, G0.cls, G0.has, G0.apart, G0.once, G0.K⟩
  have pin : ∀ n ∈ (if r.pinned then [r.name] else []), isTheDefsW r.prog s.heap n := fun n hn => by
    obtain rfl : n = r.name := by split at hn <;> simp_all
    exact pinned_of_view hg G1 hdef hp hk
  have G := RF.ground G1
  have hi := ident_freeW hu ha hap
  have hwi : r.toRowW.claim.within = [] := List.isEmpty_iff.mp k6
  have kept : ∀ s₁ : Shared, (∀ b o, s.heap.get? b = some o → s₁.heap.get? b = some o) → ∀ s' : Shared, OldK s₁.heap s'.heap → r.writes = true → namesKept r.prog r.keeps s.heap s'.heap ∧ ∀ x ∈ r.records, ∀ a, classAt s.heap x.1 = some a → recordClass s'.heap a x.1 (x.2.map (·.1)) = true :=
    fun s₁ kl s' O q => ⟨namesKept_of hT hg r.keeps kl O.old, noTable hwr q⟩
  refine ⟨s₀, hf, hg0, s, hT, pin, RF.1, RF.2.1, callFrom_G (c := r.toRowW.claim) (tree := fun vs => do match ← nsGet mainNs r.name with
      | some f => do ret (← _root_.PySem.call f vs)
      | none => unsupported "claim.caller:no-such-global") hz (Array.eq_empty_of_size_eq_zero (beq_iff_eq.mp hgens)) fun args hpre hlay ord hord => ?_⟩
  obtain ⟨⟨vs, s₁⟩, hlaid⟩ := Option.isSome_iff_exists.mp (layAllW_isSome (P := w.params) (ord := ord) G.has args r.args s (pre_splitW hpre).1)
  have keeps := layAllW_keeps _ _ _ hlaid
  have rest := layAllW_rest _ _ _ hlaid
  obtain ⟨as, hrd, hin, hold⟩ := reads_layAllW hord _ _ _ hlaid hlay s₁.heap (fun _ _ e => e)
  have L : Laid r.records w s s₁ args vs as := ⟨⟨ord, hord, hlaid⟩, hrd, hin, hold, keeps, rest.1.trans (Array.eq_empty_of_size_eq_zero (beq_iff_eq.mp hgens)), rest.2.2.1⟩
  have G₁ := G.keeps hXk keeps
  obtain ⟨a, o, pm, cd, doc, dV, kV, h1, h2, h3, h4, h5⟩ := G₁.fn hdef
  have H := call w s s₁ _ _ G₁ (hYk _ _ _ (hY w s y) keeps) a o pm cd doc dV kV h2 h3 h4 h5 (defOf_name hdef ▸ h1) L.gens args vs as hpre hlay L.reads L.well (L.low G.low)
  refine ⟨vs, s₁, hlaid, .bind (.of (wpAny_nsGet G₁.T.g ?_))⟩
  rw [h1]
  refine .bind (wpG.mono H (fun v s' g => .pure ⟨_, rfl, ?_⟩) fun e s' g => ?_)
  · have z := GoodWG.laid (c := r.toRowW.claim) hsame hwi hi L g
    exact ⟨z.1, z.2.1, z.2.2, kept s₁ keeps _ g.2.1⟩
  · have z := GoodWG.laid (c := r.toRowW.claim) hsame hwi hi L g
    exact ⟨z.1, z.2.1, z.2.2, kept s₁ keeps _ g.2.1⟩
end Mine.PySem.W
namespace Mine

theorem law_args {l : OpenLaw} (hm : l.most = some 63) {w : World} {cl : Str → Option Addr} {h : Heap} {args : List WData} {vals : List Value} {as : List Addr} (hpre : l.row.toRowW.claim.pre args = true) (hlay : WData.layableAll args = true)
    (hrd : ReadsAllW l.row.toRowW.records cl h vals args as) (hwl : WellAll w.params h vals args) (hlo : ∀ a ∈ as, (a == sysModules) = false) :
    ∃ sA vs ns, vals = [.ref sA] ∧ h.IsList sA vs.toArray ∧ IntsAre vs ns ∧ ns.length ≤ 63 := by
  wrow_args hpre hlay hrd hwl hlo
  rename_i hI _ h1 _
  refine ⟨_, _, _, rfl, by assumption, hI, ?_⟩
  rw [hm] at h1
  have h3 := condW_of h1 (by wtm_val)
  simp only [Bool.not_eq_true', decide_eq_false_iff_not] at h3
  change ¬ ((63 : Nat) : Int) < _ at h3
  omega
end Mine
end
/-! part MiniZK -/
section
open PySem PySem.W PySem.Calls PyProof.Rows
namespace Mine

theorem law_walk {l : OpenLaw} {q : Program} {loose : List Str} {XP : (Str → Option Value) → Heap → Prop} {YP : World → Heap → Prop} {d : DefRec} {kwd : List (Str × Expr)} (hm : l.most = some 63) {K : Params → Frag} {own : List Addr} {fL : Addr} {D : Nat}
    (hYP : ∀ w h, YP w h → (K w.params).In h) (hname : ∀ P, nsIn (K P) mainGlobals d.name = some (some (.ref fL)))
    (hown : ∀ P, ∀ C ∈ own, ∀ (M : Model) (h : Heap), (K P).In h → Looks M h (Bind.staticBase (.ref C)) (.type "object"))
    (hpl : ∀ P oc od fd sl, (K P).lookup fL = some ⟨oc, od, .func fd, sl⟩ → noCells fd.scope = true ∧ fd.params.vararg = none)
    (plain : ∀ P ns, ns.length ≤ 63 → ∃ σ, callF ⟨K P, ns, own⟩ (D + 1) fL [.scr] [] = .ok (.bool true) σ) (hD : D ≤ 50) :
    WalkG q loose XP YP l.row.toRowW d kwd := by
  intro w s₀ s₁ mg mb G Y a o pm cd doc dV kV ho hd hcd hDf hmg hg args vals as hpre hlay hrd hwl hlo
  obtain ⟨sA, vs, ns, rfl, hL, hI, h63⟩ := law_args hm hpre hlay hrd hwl hlo
  have X := hYP w _ Y
  have hT : TopRead q (looseW q loose) mg mb s₁.heap := topRead_of G.T
  have ha : a = fL := by
    have := (mg_of X hT.g (hname w.params)).symm.trans hmg
    cases this; rfl
  subst ha
  obtain ⟨σ, hp⟩ := plain w.params ns h63
  obtain ⟨oc, od, fd, sl, body, lb, hlk, hb, hdo, hbl, hbo, he⟩ := callF_parts (W := ⟨K w.params, ns, own⟩) (d := D) (f := a) (args := [.scr]) (σ := []) (by rw [hp]; intro q; cases q)
  rw [hp] at he
  obtain ⟨g1, g2, g3, g4, g5, g6, g7, g8, g9⟩ := defOk_parts hdo
  obtain ⟨hkw, ds, hds, hmiss, hcase⟩ := bindPL_parts hbl
  obtain ⟨hnc, hnv⟩ := hpl w.params _ _ _ _ hlk
  obtain ⟨hva, hka, hle, hlb⟩ : fd.params.vararg = none ∧ fd.params.kwarg = none ∧ [PV.scr].length ≤ (psOf fd).length ∧ lb = bindsOf (psOf fd) [.scr] ds := by
    rcases hcase with h | ⟨va, ka, h, _⟩
    · exact h
    · rw [hnv] at h; cases h
  let x₀ : Fx := { A₀ := callerA, A := callerA, base := s₁.heap, h₀ := s₁.heap, outer := [], fe := default, ce := default, sc := fun _ => none, W := ⟨K w.params, ns, own⟩, sA := sA }
  obtain ⟨dv, ldv, wds⟩ := dfl_ok (prog := l.prog) (w := w) (x := x₀) (ρ := []) (news := []) X hds
  have hls : LR sA [] [] [PV.scr] [.ref sA] := ⟨_, _, rfl, rfl, rfl⟩
  have lv := binds_rel (ps := psOf fd) hls ldv
  rw [← hlb] at lv
  refine wpG.call ?_
  refine G_call_function (by decide) (X _ _ hlk) rfl g5 g6 hb (codeRec_of X g3) ?_
  rw [g1, g2]
  refine bind_plain hkw hva hka wds (by simpa using hle) (by rw [← miss_rel hls ldv]; exact hmiss) ?_
  generalize hlv : bindsOf (psOf fd) [.ref sA] dv = lvs at lv ⊢
  have hcell : ∀ y ∈ fd.scope.names, y.2 ≠ .cell := fun y hy => by
    have := List.all_eq_true.mp hnc y hy
    simpa using this
  have hloc : ∀ y ∈ lvs, fd.scope.names.lookup y.1 = some .local := fun y hy => by
    have h1 : y.1 ∈ lb.map (·.1) := by rw [lv.names]; exact List.mem_map_of_mem hy
    obtain ⟨z, hz, e⟩ := List.mem_map.mp h1
    have h2 := List.all_eq_true.mp hbo z hz
    rw [hnc] at h2
    rw [← e]
    simpa using h2
  refine wpAny_newFunctionEnv hcell hloc (fun h₁ hns hsb => ?_) g4
  have keep : ∀ b o, s₁.heap.get? b = some o → h₁.get? b = some o := fun b o e => hsb.extBut b o (Nat.ne_of_lt (Heap.lt_size e)) (Heap.get?_push_of_some _ e)
  refine ⟨G.T.nolimit.fresh _ hsb, G_func ?_⟩
  generalize hE : newEnv fd.scope s₁.heap.objs.size mainGlobals fd.closure (fd.qualname ++ ".<locals>.") (some a) fd.code none builtinsNs = env'
  have e1 : env'.scope = fd.scope := by rw [← hE]; rfl
  have e2 : env'.locals = s₁.heap.objs.size := by rw [← hE]; rfl
  have e3 : env'.cells = fd.closure := by rw [← hE]; rfl
  have e4 : env'.frame = some s₁.heap.objs.size := by rw [← hE]; rfl
  have e5 : env'.globals = mainGlobals := by rw [← hE]; rfl
  have e6 : env'.builtins = builtinsNs := by rw [← hE]; rfl
  let x₁ : Fx := { A₀ := callerA, A := callerA.deeper env', base := s₁.heap, h₀ := s₁.heap, outer := [], fe := env', ce := env', sc := fun y => fd.scope.names.lookup y, W := ⟨K w.params, ns, own⟩, sA := sA }
  have P₁ : x₁.Pre q (looseW q loose) (ExcName.means s₀.heap) mg mb := by
    refine ⟨below_caller _, X, G.T, rfl, ?_, ?_, rfl, rfl, fun C hC M h hX => hown w.params C hC M h hX, ⟨vs, hL, hI⟩⟩
    · show env'.frame = some env'.locals; rw [e4, e2]
    · show env'.scope.kind = _; rw [e1]; exact g4
  have C₁ : x₁.Sco := ⟨by show env'.scope.kind = _; rw [e1]; exact g4, e5, e6, fun y k h => .inl (by show env'.scope.names.lookup y = _; rw [e1]; exact h), rfl⟩
  have inK : ∀ c ∈ x₁.cells, ∃ o, s₁.heap.get? c = some o := fun c hc => by
    have hc : c ∈ env'.cells.map (·.2) := hc
    rw [e3] at hc
    obtain ⟨y, hy, rfl⟩ := List.mem_map.mp hc
    obtain ⟨o, ho⟩ := Option.isSome_iff_exists.mp (g7 y hy)
    exact ⟨o, X _ _ ho⟩
  have U₁ : x₁.Fun := by
    refine ⟨fun {ρ news σ m loc vars s₀ s} S' hm => ?_, rfl, fun y hy => ?_⟩
    · obtain ⟨o, ho⟩ := inK _ hm
      exact absurd (Heap.lt_size (S'.F.keep _ _ ho)) (Nat.lt_irrefl _)
    · have hy : env'.scope.names.lookup y = some .cell := hy
      rw [e1] at hy
      obtain ⟨l1, l2, e, _⟩ := List.lookup_eq_some_iff.mp hy
      exact absurd rfl (hcell (y, .cell) (by rw [e]; simp))
  have bd₁ : Bud x₁.A D 52 := by
    refine ⟨?_, ?_⟩
    · show 1 + claimMargin + 1 + 8 * D + 52 < recursionLimit
      have : claimMargin = 300 := rfl
      have : recursionLimit = 1000 := rfl
      omega
    · show 4 + 3 + 40 * D + 4 * 52 < cLine
      have : cLine = 9900 := rfl
      omega
  let s₂ : Shared := { s₁ with heap := h₁, toks := s₁.toks + lvs.length }
  have S₁ : St x₁ [] [] [] (fun y => lvs.reverse.lookup y) (fun y => lvs.reverse.lookup y) (bindP lb) s₂ s₂ := by
    refine ⟨?_, (fun p hp => by cases hp), List.nodup_nil, ⟨rfl, List.nodup_nil, fun α o fp e _ => by simp at e⟩, .inl ⟨rfl, rfl⟩, ⟨fun y q hq => ?_, fun y c hk2 _ => ?_, fun y z c hy hz => ?_⟩, ⟨h₁, s₁.toks + lvs.length, rfl⟩⟩
    · show Fr s₁.heap env'.locals h₁ _
      rw [e2]; exact ⟨hns, keep, Nat.le_refl _⟩
    · obtain ⟨v, h1, h2⟩ := (lv.reverse.lookup y).1 q hq
      have hmv : (y, v) ∈ lvs := by
        obtain ⟨l1, l2, e, _⟩ := List.lookup_eq_some_iff.mp h1
        have : (y, v) ∈ lvs.reverse := by rw [e]; simp
        simpa using this
      have hky : env'.kindOf y = some .local := by show env'.scope.names.lookup y = _; rw [e1]; exact hloc _ hmv
      show match env'.kindOf y with | some .local => _ | some .cell | some .free => _ | _ => _
      rw [hky]
      exact ⟨v, h1, h2⟩
    · have hy : env'.scope.names.lookup y = some .cell := hk2
      rw [e1] at hy
      obtain ⟨l1, l2, e, _⟩ := List.lookup_eq_some_iff.mp hy
      exact absurd rfl (hcell (y, .cell) (by rw [e]; simp))
    · have hy : env'.cells.lookup y = some c := hy
      have hz : env'.cells.lookup z = some c := hz
      rw [e3] at hy hz
      exact snd_inj g8 (lookup_mem' hy) (lookup_mem' hz)
  have ix := ex_sound (ev_sound (call_ok (prog := l.prog) (w := w) (p := q) (loose := looseW q loose) (mean := ExcName.means s₀.heap) (mg := mg) (mb := mb) (W := ⟨K w.params, ns, own⟩) D) (bc_ok _ D))
  have nb : exs x₁.W (callF x₁.W D) (fun y => fd.scope.names.lookup y) fuel (bindP lb) body [] ≠ .bad := fun q => by
    change exs ⟨K w.params, ns, own⟩ (callF ⟨K w.params, ns, own⟩ D) (fun y => fd.scope.names.lookup y) fuel (bindP lb) body [] = .bad at q
    rw [q] at he; cases he
  refine wpG.mono ((ix fuel).l x₁ rfl P₁ C₁ U₁ bd₁ s₂ (bindP lb) body [] [] [] _ _ _ S₁ nb) (fun fl s' hF => ?_) fun _ _ q => q.elim
  change SF x₁ [] [] s₂ (exs ⟨K w.params, ns, own⟩ (callF ⟨K w.params, ns, own⟩ D) (fun y => fd.scope.names.lookup y) fuel (bindP lb) body []) fl s' at hF
  cases hr : exs ⟨K w.params, ns, own⟩ (callF ⟨K w.params, ns, own⟩ D) (fun y => fd.scope.names.lookup y) fuel (bindP lb) body [] with
  | bad => rw [hr] at hF; exact hF.elim
  | err _ _ _ => rw [hr] at hF; exact hF.elim
  | ok f vars σ' =>
    rw [hr] at hF he
    obtain ⟨ρ', news', m', loc', S', E', hfl⟩ := hF
    cases f with
    | next => cases he
    | brk => cases he
    | cont => cases he
    | ret pv =>
      obtain ⟨rfl, rfl⟩ : pv = .bool true ∧ σ' = σ := by
        change R.ok (PV.bool true) σ = R.ok pv σ' at he
        cases he; exact ⟨rfl, rfl⟩
      obtain ⟨v, rfl, hv⟩ := hfl
      have hv : v = .bool true := hv
      subst hv
      obtain ⟨h', tk, hs'⟩ := S'.sh
      have kp : ∀ b o, s₁.heap.get? b = some o → s'.heap.get? b = some o := S'.F.keep
      subst hs'
      exact ⟨.inl ⟨.bool true, .bool true, [], rfl, fun _ => rfl, .bool _, by wrow_post, fun _ => ⟨List.nodup_nil, fun _ h => by cases h⟩⟩, .of_keep kp, rfl, .of_eq hg⟩
end Mine
end
/-! part Ru -/
section
open PySem PySem.W PySem.Calls PyProof.Rows
namespace Mine

/-! what a text computes: one rule a construct -/
section
variable {W : Wd} {cb : CB} {sc : Str → Option NameKind} {n : Nat} {m : Vars} {σ σ₁ σ₂ σ₃ σ₄ : PH} {p p2 p3 : Pos}

theorem name_loc {x : Str} {v : PV} (hs : sc x = some .local) (hm : m x = some v) (hd : decide (x = "__debug__") = false) : nameV W.K sc m x = some v := by
  unfold nameV; rw [if_neg (of_decide_eq_false hd), hs]; exact hm
theorem name_cell {x : Str} {v : PV} (hs : sc x = some .cell) (hm : m x = some v) (hd : decide (x = "__debug__") = false) : nameV W.K sc m x = some v := by
  unfold nameV; rw [if_neg (of_decide_eq_false hd), hs]; exact hm
theorem name_glob {x : Str} {v : PV} (hs : sc x = some .globalImplicit) (hm : globV W.K x = some v) (hd : decide (x = "__debug__") = false) : nameV W.K sc m x = some v := by
  unfold nameV; rw [if_neg (of_decide_eq_false hd), hs]; exact hm

theorem r_none {k} : ev W cb sc (n + 1) m (.Constant .none k p) σ = .ok .none σ := rfl
theorem r_bool {b k} : ev W cb sc (n + 1) m (.Constant (.bool b) k p) σ = .ok (.bool b) σ := rfl
theorem r_int {i k} : ev W cb sc (n + 1) m (.Constant (.int i) k p) σ = .ok (.int i) σ := rfl
theorem r_str {x k} : ev W cb sc (n + 1) m (.Constant (.str x) k p) σ = .ok (.str x) σ := rfl
theorem r_bytes {b k} : ev W cb sc (n + 1) m (.Constant (.bytes b) k p) σ = .ok (.bytes b.toArray) σ := rfl
theorem r_name {x v} (h : nameV W.K sc m x = some v) : ev W cb sc (n + 1) m (.Name x p) σ = .ok v σ := by
  show ofO (nameV W.K sc m x) _ = _; rw [h]; rfl
theorem r_bin {l op r a b v} (h1 : ev W cb sc n m l σ = .ok a σ₁) (h2 : ev W cb sc n m r σ₁ = .ok b σ₂) (h3 : binop op a b σ₂ = .ok v σ₃) : ev W cb sc (n + 1) m (.BinOp l op r p) σ = .ok v σ₃ := by
  show (ev W cb sc n m l σ).bind _ = _; rw [h1]; show (ev W cb sc n m r σ₁).bind _ = _; rw [h2]; exact h3
theorem r_neg {x i} (h1 : ev W cb sc n m x σ = .ok (.int i) σ₁) : ev W cb sc (n + 1) m (.UnaryOp .USub x p) σ = .ok (.int (-i)) σ₁ := by
  show (ev W cb sc n m x σ).bind _ = _; rw [h1]; rfl
theorem r_not {x v b} (h1 : ev W cb sc n m x σ = .ok v σ₁) (h2 : truthO W σ₁ v = some b) : ev W cb sc (n + 1) m (.UnaryOp .Not x p) σ = .ok (.bool (!b)) σ₁ := by
  show (ev W cb sc n m x σ).bind _ = _; rw [h1]; show ofO (truthO W σ₁ v) _ = _; rw [h2]; rfl
theorem r_ifx {t a b c r} (h1 : ts W cb sc n m t σ = .ok c σ₁) (h2 : (if c then ev W cb sc n m a σ₁ else ev W cb sc n m b σ₁) = r) : ev W cb sc (n + 1) m (.IfExp t a b p) σ = r := by
  show (ts W cb sc n m t σ).bind _ = _; rw [h1]; exact h2
theorem r_and {a b v c r} (h1 : ev W cb sc n m a σ = .ok v σ₁) (h2 : truthO W σ₁ v = some c) (h3 : (if c then ev W cb sc n m b σ₁ else .ok v σ₁) = r) : ev W cb sc (n + 1) m (.BoolOp .And [a, b] p) σ = r := by
  show (ev W cb sc n m a σ).bind _ = _; rw [h1]; show ofO (truthO W σ₁ v) _ = _; rw [h2]; exact h3
theorem r_or {a b v c r} (h1 : ev W cb sc n m a σ = .ok v σ₁) (h2 : truthO W σ₁ v = some c) (h3 : (if c then .ok v σ₁ else ev W cb sc n m b σ₁) = r) : ev W cb sc (n + 1) m (.BoolOp .Or [a, b] p) σ = r := by
  show (ev W cb sc n m a σ).bind _ = _; rw [h1]; show ofO (truthO W σ₁ v) _ = _; rw [h2]; exact h3
theorem r_cmp {l op r a b c} (h1 : ev W cb sc n m l σ = .ok a σ₁) (h2 : ev W cb sc n m r σ₁ = .ok b σ₂) (h3 : cmpop op a b σ₂ = some c) (h0 : behindInMarks op r = false) : ev W cb sc (n + 1) m (.Compare l [op] [r] p) σ = .ok (.bool c) σ₂ := by
  show (if behindInMarks op r = true then R.bad else (ev W cb sc n m l σ).bind _) = _; rw [if_neg (by rw [h0]; decide), h1]; show (ev W cb sc n m r σ₁).bind _ = _; rw [h2]; show ofO (cmpop op a b σ₂) _ = _; rw [h3]; rfl
theorem r_list {es vs} (h1 : evL (ev W cb sc n m) es σ = .ok vs σ₁) (h2 : sizeOk vs.length = true) : ev W cb sc (n + 1) m (.List es p) σ = .ok (.obj σ₁.length) (σ₁ ++ [.list vs]) := by
  show (evL (ev W cb sc n m) es σ).bind _ = _; rw [h1]; show (if _ then _ else _) = _; rw [if_pos h2]
theorem r_tup {es k vs} (h1 : evL (ev W cb sc n m) es σ = .ok vs σ₁) (h2 : sizeOk vs.length = true) : ev W cb sc (n + 1) m (.Tuple es k p) σ = .ok (.tup vs) σ₁ := by
  show (evL (ev W cb sc n m) es σ).bind _ = _; rw [h1]; show (if _ then _ else _) = _; rw [if_pos h2]
theorem r_attr {o a ov v} (h1 : ev W cb sc n m o σ = .ok ov σ₁) (h2 : getA W σ₁ ov a = some v) (h0 : isCallE o = false) : ev W cb sc (n + 1) m (.Attribute o a p) σ = .ok v σ₁ := by
  show (if isCallE o = true then R.bad else (ev W cb sc n m o σ).bind _) = _; rw [if_neg (by rw [h0]; decide), h1]; show ofO (getA W σ₁ ov a) _ = _; rw [h2]; rfl
theorem r_sub {o i ov k v} (h1 : ev W cb sc n m o σ = .ok ov σ₁) (h2 : ev W cb sc n m i σ₁ = .ok (.int k) σ₂) (h3 : subI W σ₂ ov k = some v) (h0 : ∀ a b c q, i ≠ .Slice a b c q) : ev W cb sc (n + 1) m (.Subscript o i p) σ = .ok v σ₂ := by
  have e : ev W cb sc (n + 1) m (.Subscript o i p) σ = (ev W cb sc n m o σ).bind fun o σ => (ev W cb sc n m i σ).bind fun k σ => (match k with
      | .int k => ofO (subI W σ o k) fun r => .ok r σ
      | _ => .bad) := by
    cases i <;> first | rfl | exact absurd rfl (h0 _ _ _ _)
  rw [e, h1]; show (ev W cb sc n m i σ₁).bind _ = _; rw [h2]; show ofO (subI W σ₂ ov k) _ = _; rw [h3]; rfl
theorem r_slice {o lo hi st q ov a b c a' b' c' r} (h1 : ev W cb sc n m o σ = .ok ov σ₁) (h2 : evO W cb sc n m lo σ₁ = .ok a σ₂) (h3 : evO W cb sc n m hi σ₂ = .ok b σ₃) (h4 : evO W cb sc n m st σ₃ = .ok c σ₄)
    (e1 : partO a = some a') (e2 : partO b = some b') (e3 : partO c = some c') (h5 : subS W σ₄ ov a' b' c' = r) : ev W cb sc (n + 1) m (.Subscript o (.Slice lo hi st q) p) σ = r := by
  show (ev W cb sc n m o σ).bind _ = _; rw [h1]; show (evO W cb sc n m lo σ₁).bind _ = _; rw [h2]; show (evO W cb sc n m hi σ₂).bind _ = _; rw [h3]; show (evO W cb sc n m st σ₃).bind _ = _; rw [h4]
  show ofO (partO a) _ = _; rw [e1]; show ofO (partO b) _ = _; rw [e2]; show ofO (partO c) _ = _; rw [e3]; exact h5
theorem r_evO_none : evO W cb sc (n + 1) m none σ = .ok .none σ := rfl
theorem r_evO_some {e r} (h : ev W cb sc n m e σ = r) : evO W cb sc (n + 1) m (some e) σ = r := h
theorem r_nil {f : Expr → PH → R PV} : evL f [] σ = .ok [] σ := rfl
theorem r_cons {f : Expr → PH → R PV} {e r v vs} (h1 : f e σ = .ok v σ₁) (h2 : evL f r σ₁ = .ok vs σ₂) : evL f (e :: r) σ = .ok (v :: vs) σ₂ := by
  show (f e σ).bind _ = _; rw [h1]; show (evL f r σ₁).bind _ = _; rw [h2]; rfl
theorem r_meth {o a ap as q ov f xs vs args r} (h0 : (isCallE o || decide (as.length ≥ 29) || !(ap.endLine == q.line) || as.any isStarredE) = false) (h1 : ev W cb sc n m o σ = .ok ov σ₁) (h2 : getM W σ₁ ov a = some (f, xs)) (hc : callable W.K f = true)
    (h3 : evL (ev W cb sc n m) as σ₁ = .ok vs σ₂) (ha : xs ++ vs = args) (h4 : callV W cb f args σ₂ = r) : ev W cb sc (n + 1) m (.Call (.Attribute o a ap) as [] q) σ = r := by
  subst ha
  show (if _ then _ else (ev W cb sc n m o σ).bind _) = _; rw [if_neg (by rw [h0]; decide), h1]; show ofO (getM W σ₁ ov a) _ = _; rw [h2]; show (if _ then _ else _) = _; rw [if_pos hc, h3]; exact h4
theorem app0 {α : Type} {vs : List α} : [] ++ vs = vs := rfl
theorem app1 {α : Type} {a : α} {vs : List α} : [a] ++ vs = a :: vs := rfl
theorem r_call {x px as q f vs r} (h0 : as.any isStarredE = false) (h1 : ev W cb sc n m (.Name x px) σ = .ok f σ₁) (hc : callable W.K f = true) (h3 : evL (ev W cb sc n m) as σ₁ = .ok vs σ₂) (h4 : callV W cb f vs σ₂ = r) :
    ev W cb sc (n + 1) m (.Call (.Name x px) as [] q) σ = r := by
  show (if _ then _ else (ev W cb sc n m (.Name x px) σ).bind _) = _; rw [if_neg (by rw [h0]; decide), h1]; show (if _ then _ else _) = _; rw [if_pos hc, h3]; exact h4
theorem r_comp {elt x px iter scope v r} (h0 : (compOk sc m x scope && plainIter iter) = true) (h1 : ev W cb sc n m iter σ = .ok v σ₁)
    (h2 : compW W (fun m' => ev W cb (fun y => scope.names.lookup y) n m' elt) x (compVars (fun y => scope.names.lookup y) m) v σ₁ = r) : ev W cb sc (n + 1) m (.ListComp elt [⟨.Name x px, iter, [], 0⟩] scope p) σ = r := by
  show (if _ then (ev W cb sc n m iter σ).bind _ else _) = _; rw [if_pos h0, h1]; exact h2

/-! tests -/
theorem q_not {x b} (h1 : ts W cb sc n m x σ = .ok b σ₁) : ts W cb sc (n + 1) m (.UnaryOp .Not x p) σ = .ok (!b) σ₁ := by
  show (ts W cb sc n m x σ).bind _ = _; rw [h1]; rfl
theorem q_cmp {l op r a b c} (h1 : ev W cb sc n m l σ = .ok a σ₁) (h2 : ev W cb sc n m r σ₁ = .ok b σ₂) (h3 : cmpop op a b σ₂ = some c) (h0 : behindInMarks op r = false) : ts W cb sc (n + 1) m (.Compare l [op] [r] p) σ = .ok c σ₂ := by
  show (if behindInMarks op r = true then R.bad else (ev W cb sc n m l σ).bind _) = _; rw [if_neg (by rw [h0]; decide), h1]; show (ev W cb sc n m r σ₁).bind _ = _; rw [h2]; show ofO (cmpop op a b σ₂) _ = _; rw [h3]; rfl
theorem q_ops {op es r} (h : tsL W cb sc n op m es σ = r) : ts W cb sc (n + 1) m (.BoolOp op es p) σ = r := h
theorem q_nil {op} : tsL W cb sc (n + 1) op m [] σ = .ok (op == .And) σ := rfl
theorem q_and {e r b x} (h1 : ts W cb sc n m e σ = .ok b σ₁) (h2 : (if b then tsL W cb sc n .And m r σ₁ else .ok false σ₁) = x) : tsL W cb sc (n + 1) .And m (e :: r) σ = x := by
  show (ts W cb sc n m e σ).bind _ = _; rw [h1]; cases b <;> exact h2
theorem q_or {e r b x} (h1 : ts W cb sc n m e σ = .ok b σ₁) (h2 : (if b then .ok true σ₁ else tsL W cb sc n .Or m r σ₁) = x) : tsL W cb sc (n + 1) .Or m (e :: r) σ = x := by
  show (ts W cb sc n m e σ).bind _ = _; rw [h1]; cases b <;> exact h2
theorem q_name {x v b} (h1 : ev W cb sc n m (.Name x p) σ = .ok v σ₁) (h2 : truthO W σ₁ v = some b) : ts W cb sc (n + 1) m (.Name x p) σ = .ok b σ₁ := by
  show (ev W cb sc n m (.Name x p) σ).bind _ = _; rw [h1]; show ofO (truthO W σ₁ v) _ = _; rw [h2]; rfl
theorem q_attr {o a v b} (h1 : ev W cb sc n m (.Attribute o a p) σ = .ok v σ₁) (h2 : truthO W σ₁ v = some b) : ts W cb sc (n + 1) m (.Attribute o a p) σ = .ok b σ₁ := by
  show (ev W cb sc n m (.Attribute o a p) σ).bind _ = _; rw [h1]; show ofO (truthO W σ₁ v) _ = _; rw [h2]; rfl
theorem q_call {f as k v b} (h1 : ev W cb sc n m (.Call f as k p) σ = .ok v σ₁) (h2 : truthO W σ₁ v = some b) : ts W cb sc (n + 1) m (.Call f as k p) σ = .ok b σ₁ := by
  show (ev W cb sc n m (.Call f as k p) σ).bind _ = _; rw [h1]; show ofO (truthO W σ₁ v) _ = _; rw [h2]; rfl
theorem q_sub {o i v b} (h1 : ev W cb sc n m (.Subscript o i p) σ = .ok v σ₁) (h2 : truthO W σ₁ v = some b) : ts W cb sc (n + 1) m (.Subscript o i p) σ = .ok b σ₁ := by
  show (ev W cb sc n m (.Subscript o i p) σ).bind _ = _; rw [h1]; show ofO (truthO W σ₁ v) _ = _; rw [h2]; rfl
theorem q_bin {o i op v b} (h1 : ev W cb sc n m (.BinOp o op i p) σ = .ok v σ₁) (h2 : truthO W σ₁ v = some b) : ts W cb sc (n + 1) m (.BinOp o op i p) σ = .ok b σ₁ := by
  show (ev W cb sc n m (.BinOp o op i p) σ).bind _ = _; rw [h1]; show ofO (truthO W σ₁ v) _ = _; rw [h2]; rfl

/-! statements -/
theorem x_pass : ex W cb sc (n + 1) m (.Pass p) σ = .ok .next m σ := rfl
theorem x_ret0 : ex W cb sc (n + 1) m (.Return none p) σ = .ok (.ret .none) m σ := rfl
theorem x_ret {e v} (h : ev W cb sc n m e σ = .ok v σ₁) : ex W cb sc (n + 1) m (.Return (some e) p) σ = .ok (.ret v) m σ₁ := by
  show (ev W cb sc n m e σ).st m _ = _; rw [h]; rfl
theorem x_expr {e v} (h0 : isListComp e = false) (h : ev W cb sc n m e σ = .ok v σ₁) : ex W cb sc (n + 1) m (.Expr e p) σ = .ok .next m σ₁ := by
  show (if isListComp e = true then SR.bad else (ev W cb sc n m e σ).st m _) = _; rw [if_neg (by rw [h0]; decide), h]; rfl
theorem x_asgN {x px e v} (h0 : localIn sc x = true) (h : ev W cb sc n m e σ = .ok v σ₁) : ex W cb sc (n + 1) m (.Assign [.Name x px] e p) σ = .ok .next (m.set x v) σ₁ := by
  show (if localIn sc x = true then (ev W cb sc n m e σ).st m _ else _) = _; rw [if_pos h0, h]; rfl
theorem x_asgA {o a pa e v ov} (h0 : isListComp e = false) (h : ev W cb sc n m e σ = .ok v σ₁) (h2 : ev W cb sc n m o σ₁ = .ok ov σ₂) (h3 : setA W σ₂ ov a v = some σ₃) : ex W cb sc (n + 1) m (.Assign [.Attribute o a pa] e p) σ = .ok .next m σ₃ := by
  show (if isListComp e = true then SR.bad else (ev W cb sc n m e σ).st m _) = _; rw [if_neg (by rw [h0]; decide), h]; show (ev W cb sc n m o σ₁).st m _ = _; rw [h2]; show ofS (setA W σ₂ ov a v) _ = _; rw [h3]; rfl
theorem x_asgS {o lo hi q pa e v ov a b} (h0 : isListComp e = false) (h : ev W cb sc n m e σ = .ok v σ₁) (h2 : ev W cb sc n m o σ₁ = .ok ov σ₂) (h3 : ev W cb sc n m lo σ₂ = .ok (.int a) σ₃) (h4 : ev W cb sc n m hi σ₃ = .ok (.int b) σ₄) {σ₅ : PH} (h5 : setS σ₄ ov a b v = some σ₅) :
    ex W cb sc (n + 1) m (.Assign [.Subscript o (.Slice (some lo) (some hi) none q) pa] e p) σ = .ok .next m σ₅ := by
  show (if isListComp e = true then SR.bad else (ev W cb sc n m e σ).st m _) = _; rw [if_neg (by rw [h0]; decide), h]; show (ev W cb sc n m o σ₁).st m _ = _; rw [h2]; show (ev W cb sc n m lo σ₂).st m _ = _; rw [h3]; show (ev W cb sc n m hi σ₃).st m _ = _; rw [h4]
  show ofS (setS σ₄ ov a b v) _ = _; rw [h5]; rfl
theorem x_asgI {o i pa e v ov k} (h0 : isListComp e = false) (h : ev W cb sc n m e σ = .ok v σ₁) (h2 : ev W cb sc n m o σ₁ = .ok ov σ₂) (h3 : ev W cb sc n m i σ₂ = .ok (.int k) σ₃) (h4 : setI σ₃ ov k v = some σ₄) (h5 : ∀ a b c q, i ≠ .Slice a b c q) :
    ex W cb sc (n + 1) m (.Assign [.Subscript o i pa] e p) σ = .ok .next m σ₄ := by
  have q : ex W cb sc (n + 1) m (.Assign [.Subscript o i pa] e p) σ = if isListComp e then .bad else
        (ev W cb sc n m e σ).st m fun v σ => (ev W cb sc n m o σ).st m fun ov σ => (ev W cb sc n m i σ).st m fun iv σ => (match iv with
          | .int k => ofS (setI σ ov k v) fun σ => .ok .next m σ
          | _ => .bad) := by
    cases i <;> first | rfl | exact absurd rfl (h5 _ _ _ _)
  rw [q, if_neg (by rw [h0]; decide), h]; show (ev W cb sc n m o σ₁).st m _ = _; rw [h2]; show (ev W cb sc n m i σ₂).st m _ = _; rw [h3]; show ofS (setI σ₃ ov k v) _ = _; rw [h4]; rfl
theorem x_augN {x px op e a b i} (h0 : localIn sc x = true) (h1 : ev W cb sc n m (.Name x px) σ = .ok (.int a) σ₁) (h2 : ev W cb sc n m e σ₁ = .ok (.int b) σ₂) (h3 : intOp op a b = some i) : ex W cb sc (n + 1) m (.AugAssign (.Name x px) op e p) σ = .ok .next (m.set x (.int i)) σ₂ := by
  show (if localIn sc x = true then (ev W cb sc n m (.Name x px) σ).st m _ else _) = _; rw [if_pos h0, h1]; show (ev W cb sc n m e σ₁).st m _ = _; rw [h2]; show ofS (intOp op a b) _ = _; rw [h3]; rfl
theorem x_augA {o a pa op e ov x y i} (h1 : ev W cb sc n m o σ = .ok ov σ₁) (h2 : getA W σ₁ ov a = some (.int x)) (h3 : ev W cb sc n m e σ₁ = .ok (.int y) σ₂) (h4 : intOp op x y = some i) (h5 : setA W σ₂ ov a (.int i) = some σ₃) : ex W cb sc (n + 1) m (.AugAssign (.Attribute o a pa) op e p) σ = .ok .next m σ₃ := by
  show (ev W cb sc n m o σ).st m _ = _; rw [h1]; show ofS (getA W σ₁ ov a) _ = _; rw [h2]; show (ev W cb sc n m e σ₁).st m _ = _; rw [h3]; show ofS (intOp op x y) _ = _; rw [h4]; show ofS (setA W σ₂ ov a (.int i)) _ = _; rw [h5]; rfl
theorem x_if {t a b c r} (h1 : ts W cb sc n m t σ = .ok c σ₁) (h2 : (if c then exs W cb sc n m a σ₁ else exs W cb sc n m b σ₁) = r) : ex W cb sc (n + 1) m (.If t a b p) σ = r := by
  show (ts W cb sc n m t σ).st m _ = _; rw [h1]; exact h2
theorem x_for {tg it body v S r} (h0 : plainIter it = true) (h1 : ev W cb sc n m it σ = .ok v σ₁) (h2 : srcO W σ₁ v = some S) (h3 : loopG (tgt sc tg) (fun m σ => exs W cb sc n m body σ) S S.len 0 m σ₁ = r) : ex W cb sc (n + 1) m (.For tg it body [] p) σ = r := by
  show (if (!plainIter it) = true then SR.bad else (ev W cb sc n m it σ).st m _) = _; rw [if_neg (by rw [h0]; decide), h1]; show ofS (srcO W σ₁ v) _ = _; rw [h2]; exact h3
theorem x_while {t body r} (h : loopW (fun m σ => ts W cb sc n m t σ) (fun m σ => exs W cb sc n m body σ) whileMost m σ = r) : ex W cb sc (n + 1) m (.While t body [] p) σ = r := h
theorem x_try {body h hs fl m'} (h1 : exs W cb sc n m body σ = .ok fl m' σ₁) : ex W cb sc (n + 1) m (.Try body (h :: hs) [] [] p) σ = .ok fl m' σ₁ := by
  show (match exs W cb sc n m body σ with | .err .. => SR.bad | r => r) = _; rw [h1]
theorem xs_nil : exs W cb sc (n + 1) m [] σ = .ok .next m σ := rfl
theorem xs_next {s r m' x} (h1 : ex W cb sc n m s σ = .ok .next m' σ₁) (h2 : exs W cb sc n m' r σ₁ = x) : exs W cb sc (n + 1) m (s :: r) σ = x := by
  show (ex W cb sc n m s σ).andThen _ = _; rw [h1]; exact h2
theorem xs_ret {s r m' v} (h1 : ex W cb sc n m s σ = .ok (.ret v) m' σ₁) : exs W cb sc (n + 1) m (s :: r) σ = .ok (.ret v) m' σ₁ := by
  show (ex W cb sc n m s σ).andThen _ = _; rw [h1]; rfl

/-! calls of defs -/
structure FnIs (K : Frag) (a : Addr) (fd : FuncData) (body : List Stmt) : Prop where
  at_ : ∃ oc od sl, K.lookup a = some ⟨oc, od, .func fd, sl⟩
  body_ : fd.body = .stmts body
  ok_ : defOk K fd = true
theorem callF_def {d : Nat} {a : Addr} {args : List PV} {fd : FuncData} {body : List Stmt} {l : List (Str × PV)} {r : SR} {v : PV} (F : FnIs W.K a fd body) (hl : bindPL W.K fd args = some l) (ho : bindOk fd l = true)
    (h : exs W (callF W d) (fun y => fd.scope.names.lookup y) 100 (bindP l) body σ = r) (hr : ansOf r = .ok v σ₁) : callF W (d + 1) a args σ = .ok v σ₁ := by
  obtain ⟨oc, od, sl, hk⟩ := F.at_
  have e : callF W (d + 1) a args σ = (match W.K.lookup a with
    | some ⟨_, _, .func fd, _⟩ => (match fd.body with
      | .stmts body => if defOk W.K fd then (match bindPL W.K fd args with
        | some l => if bindOk fd l then (match exs W (callF W d) (fun y => fd.scope.names.lookup y) fuel (bindP l) body σ with
          | .ok (.ret v) _ σ => .ok v σ
          | .ok _ _ σ => .ok .none σ
          | .err e _ σ => .err e σ
          | .bad => .bad) else .bad
        | .none => .bad) else .bad
      | _ => .bad)
    | _ => .bad) := rfl
  rw [e]
  rw [hk]; dsimp only
  rw [F.body_]; dsimp only
  rw [if_pos F.ok_, hl]; dsimp only
  rw [if_pos ho, show fuel = 100 from rfl, h]
  cases r with
  | ok f _ _ => cases f <;> exact hr
  | _ => exact hr
theorem callV_fn {a : Addr} {args : List PV} {fd : FuncData} {body : List Stmt} {r : R PV} (F : FnIs W.K a fd body) (h : cb a args σ = r) : callV W cb (.top a) args σ = r := by
  obtain ⟨oc, od, sl, hk⟩ := F.at_
  unfold callV; dsimp only; rw [hk]; exact h
theorem callV_meth {f : Addr} {p : PV} {args : List PV} {r : R PV} (h : cb f (p :: args) σ = r) : callV W cb (.meth f p) args σ = r := h
theorem callV_blt {i : String} {args : List PV} {r : R PV} (h : bcall W (.blt i) args σ = r) : callV W cb (.blt i) args σ = r := h
theorem callV_type {i : String} {args : List PV} {r : R PV} (h : bcall W (.type i) args σ = r) : callV W cb (.type i) args σ = r := h
end
end Mine
end
/-! part Rv -/
section
open PySem PySem.W PySem.Calls PyProof.Rows
namespace Mine

section
variable {W : Wd} {cb : CB} {sc : Str → Option NameKind} {n : Nat} {m : Vars} {σ σ₁ σ₂ σ₃ σ₄ : PH} {p p2 p3 : Pos}

/-! the heap's places -/
theorem h_set {α : Nat} {o o' : PO} (h : σ[α]? = some o) : (σ.set α o')[α]? = some o' := by
  rw [List.getElem?_set_self (List.getElem?_eq_some_iff.mp h).1]
theorem h_ne {α β : Nat} {o o' : PO} (hn : α ≠ β) (h : σ[β]? = some o) : (σ.set α o')[β]? = some o := by rw [List.getElem?_set_ne hn]; exact h
theorem h_app {α : Nat} {o : PO} {t : PH} (h : σ[α]? = some o) : (σ ++ t)[α]? = some o := by
  rw [List.getElem?_append_left (List.getElem?_eq_some_iff.mp h).1]; exact h
theorem h_new {o : PO} : (σ ++ [o])[σ.length]? = some o := by rw [List.getElem?_append_right (Nat.le_refl _), Nat.sub_self]; rfl
theorem h_lt {α : Nat} {o : PO} (h : σ[α]? = some o) : α < σ.length := (List.getElem?_eq_some_iff.mp h).1
theorem h_fresh {α : Nat} {o : PO} (h : σ[α]? = some o) : α ≠ σ.length := Nat.ne_of_lt (h_lt h)
theorem h_fresh' {α : Nat} {o : PO} (h : σ[α]? = some o) : σ.length ≠ α := Ne.symm (h_fresh h)

/-! attributes, methods -/
def getOk (K : Frag) (C : Addr) (name : Str) : Bool := plainGet K C name && hasDictIn K C && (findIn K (.ref C) name).any (noGet K)
theorem getA_of {α : Nat} {C : Addr} {fs : List (Str × PV)} {name : Str} {v : PV} (h : σ[α]? = some (.inst C fs)) (hk : getOk W.K C name = true) (hl : lookF name fs = some v) (hn : notBlt v = true) : getA W σ (.obj α) name = some v := by
  unfold getA; dsimp only; rw [h]; dsimp only
  unfold getOk at hk
  rw [if_pos hk, hl]
  simp [Option.filter, hn]
def methIn (K : Frag) (C : Addr) (name : Str) : Option Addr := if plainGet K C name then (match findIn K (.ref C) name with
  | some (some (.ref f)) => if isFn K (.ref f) && keepIn K (.ref f) then some f else Option.none
  | _ => Option.none) else Option.none
theorem getM_of {α : Nat} {C f : Addr} {fs : List (Str × PV)} {name : Str} (h : σ[α]? = some (.inst C fs)) (hk : methIn W.K C name = some f) (hl : (lookF name fs).isNone = true) : getM W σ (.obj α) name = some (.top f, [.obj α]) := by
  unfold getM; dsimp only; rw [h]; dsimp only
  unfold methIn at hk
  by_cases h1 : plainGet W.K C name = true
  · rw [if_pos h1] at hk
    rw [if_pos (by rw [h1, hl]; rfl)]
    split at hk
    · rename_i f' h2
      split at hk
      · rename_i h3; cases hk; first | (rw [h2]; dsimp only; rw [if_pos h3]) | rw [if_pos h3]
      · cases hk
    · cases hk
  · rw [if_neg h1] at hk; cases hk
theorem getM_app {α : Nat} {vs : List PV} (h : σ[α]? = some (.list vs)) : getM W σ (.obj α) "append" = some (.blt "list.append", [.obj α]) := by
  unfold getM; dsimp only; rw [h]; rfl
theorem getM_idx {x : Str} : getM W σ (.str x) "index" = some (.blt "str.index", [.str x]) := rfl
theorem getM_cls {C : Addr} {name : Str} {r : PV × List PV} (h : clsMeth W.K C name = some r) : getM W σ (.top C) name = some r := h
theorem setA_of {α : Nat} {C : Addr} {fs : List (Str × PV)} {name : Str} {x : PV} {fs' : List (Str × PV)} (h : σ[α]? = some (.inst C fs)) (hk : setOk W.K C name = true) (hl : decide (fs.length < 1000) = true) (hp : putF name x fs = fs') : setA W σ (.obj α) name x = some (σ.set α (.inst C fs')) := by
  unfold setA; dsimp only; rw [h]; dsimp only; rw [if_pos (by rw [hk, hl]; rfl), hp]

/-! arithmetic -/
theorem i_bin {op : Operator} {a b i : Int} (h : intOp op a b = some i) : binop op (.int a) (.int b) σ = .ok (.int i) σ := by
  have e : binop op (.int a) (.int b) σ = ofO (intOp op a b) fun i => .ok (.int i) σ := by cases op <;> rfl
  rw [e, h]; rfl
theorem i_add {a b : Int} : intOp .Add a b = some (a + b) := rfl
theorem i_sub {a b : Int} : intOp .Sub a b = some (a - b) := rfl
theorem i_and {a b : Int} : intOp .BitAnd a b = some (Builtin.bitAnd a b) := rfl
theorem i_or {a b : Int} : intOp .BitOr a b = some (Builtin.bitOr a b) := rfl
theorem i_xor {a b : Int} : intOp .BitXor a b = some (Builtin.bitXor a b) := rfl
theorem i_mul {a b : Int} (h : mulOk a b = true) : intOp .Mult a b = some (a * b) := if_pos h
theorem i_div {a b : Int} (h : b ≠ 0) (h2 : divOk a b = true) : intOp .FloorDiv a b = some (a.fdiv b) := if_pos ⟨h, h2⟩
theorem i_mod {a b : Int} (h : b ≠ 0) : intOp .Mod a b = some (a.fmod b) := if_pos h
theorem i_pow {a b : Int} (h : 0 ≤ b) (h2 : powOk a b = true) : intOp .Pow a b = some (a ^ b.toNat) := if_pos ⟨h, h2⟩
theorem i_shl {a b : Int} (h : 0 ≤ b) (h2 : shlOk a b = true) : intOp .LShift a b = some (a * 2 ^ b.toNat) := if_pos ⟨h, h2⟩
theorem i_shr {a b : Int} (h : 0 ≤ b) : intOp .RShift a b = some (a.fdiv (2 ^ b.toNat)) := if_pos h

/-! built-ins -/
theorem b_len {v : PV} {k : Nat} (h1 : lenP W σ v = some k) (h : sizeOk k = true) : bcall W (.blt "len") [v] σ = .ok (.int k) σ := by
  have e : bcall W (.blt "len") [v] σ = ofO (lenP W σ v) fun n => if sizeOk n then .ok (.int n) σ else .bad := rfl
  rw [e, h1]; exact if_pos h
theorem b_len_bytes {b : Array UInt8} (h : sizeOk b.size = true) : bcall W (.blt "len") [.bytes b] σ = .ok (.int b.size) σ := by
  exact b_len rfl h
theorem b_len_str {x : Str} (h : sizeOk x.length = true) : bcall W (.blt "len") [.str x] σ = .ok (.int x.length) σ := by
  exact b_len rfl h
theorem b_len_barr {α : Nat} {b : Array UInt8} (hα : σ[α]? = some (.barr b)) (h : sizeOk b.size = true) : bcall W (.blt "len") [.obj α] σ = .ok (.int b.size) σ := by
  exact b_len (by unfold lenP; dsimp only; rw [hα]) h
theorem b_len_list {α : Nat} {b : List PV} (hα : σ[α]? = some (.list b)) (h : sizeOk b.length = true) : bcall W (.blt "len") [.obj α] σ = .ok (.int b.length) σ := by
  exact b_len (by unfold lenP; dsimp only; rw [hα]) h
theorem b_ord {x : Str} (h : x.length = 1) : bcall W (.blt "ord") [.str x] σ = .ok (.int (x.cps.getD 0 0 : Nat)) σ := by
  show (if _ then _ else _) = _; rw [if_pos h]
theorem b_append {α : Nat} {xs : List PV} {v : PV} (hα : σ[α]? = some (.list xs)) (h : sizeOk (xs.length + 1) = true) : bcall W (.blt "list.append") [.obj α, v] σ = .ok .none (σ.set α (.list (xs ++ [v]))) := by
  show (match σ[α]? with | some (.list xs) => _ | _ => _) = _; rw [hα]; show (if _ then _ else _) = _; rw [if_pos h]
theorem b_index {x y : Str} (h : 0 ≤ Txt.find x y) : bcall W (.blt "str.index") [.str x, .str y] σ = .ok (.int (Txt.find x y)) σ := by
  show (if _ then _ else _) = _; rw [if_pos h]
theorem b_new {C : Addr} (h : ownNewIn W C = true) : bcall W (.blt "object.__new__") [.top C] σ = .ok (.obj σ.length) (σ ++ [.inst C []]) := by
  show (if _ then _ else _) = _; rw [if_pos h]
theorem b_type {v t : PV} (h : typeOfP σ v = some t) : bcall W (.type "type") [v] σ = .ok t σ := by
  show ofO (typeOfP σ v) _ = _; rw [h]; rfl
theorem ty_int {i : Int} : typeOfP σ (.int i) = some (.type "int") := rfl
theorem ty_bytes {i : Array UInt8} : typeOfP σ (.bytes i) = some (.type "bytes") := rfl
theorem ty_barr {α : Nat} {i : Array UInt8} (h : σ[α]? = some (.barr i)) : typeOfP σ (.obj α) = some (.type "bytearray") := by
  unfold typeOfP; dsimp only; rw [h]
theorem b_int {i : Int} : bcall W (.type "int") [.int i] σ = .ok (.int i) σ := rfl
theorem b_bytes_n {i : Int} (h : 0 ≤ i) (h2 : sizeOk i.toNat = true) : bcall W (.type "bytes") [.int i] σ = .ok (.bytes (Array.replicate i.toNat 0)) σ := by
  show (if _ then _ else _) = _; rw [if_pos ⟨h, h2⟩]
theorem b_bytes_1 {i : Int} (h : 0 ≤ i) (h2 : i < 256) : bcall W (.type "bytes") [.tup [.int i]] σ = .ok (.bytes #[UInt8.ofNat i.toNat]) σ := by
  show (if _ then _ else _) = _; rw [if_pos ⟨h, h2⟩]
theorem b_bytes_l {α : Nat} {vs : List PV} {b : List UInt8} (hα : σ[α]? = some (.list vs)) (h : octets vs = some b) (h2 : sizeOk b.length = true) : bcall W (.type "bytes") [.obj α] σ = .ok (.bytes b.toArray) σ := by
  show (match σ[α]? with | some (.list vs) => _ | some (.barr b) => _ | _ => _) = _; rw [hα]; show ofO (octets vs) _ = _; rw [h]; show (if _ then _ else _) = _; rw [if_pos h2]
theorem b_bytes_b {α : Nat} {b : Array UInt8} (hα : σ[α]? = some (.barr b)) (h2 : sizeOk b.size = true) : bcall W (.type "bytes") [.obj α] σ = .ok (.bytes b) σ := by
  show (match σ[α]? with | some (.list vs) => _ | some (.barr b) => _ | _ => _) = _; rw [hα]; show (if _ then _ else _) = _; rw [if_pos h2]
theorem b_barr_n {i : Int} (h : 0 ≤ i) (h2 : sizeOk i.toNat = true) : bcall W (.type "bytearray") [.int i] σ = .ok (.obj σ.length) (σ ++ [.barr (Array.replicate i.toNat 0)]) := by
  show (if _ then _ else _) = _; rw [if_pos ⟨h, h2⟩]
theorem b_barr_b {b : Array UInt8} (h2 : sizeOk b.size = true) : bcall W (.type "bytearray") [.bytes b] σ = .ok (.obj σ.length) (σ ++ [.barr b]) := by
  show (if _ then _ else _) = _; rw [if_pos h2]
theorem b_range1 {b : Int} (h : Builtin.Range.small 0 b 1 = true) : bcall W (.type "range") [.int b] σ = .ok (.rng 0 b 1) σ := by
  show (if _ then _ else _) = _; rw [if_pos h]
theorem b_range2 {a b : Int} (h : Builtin.Range.small a b 1 = true) : bcall W (.type "range") [.int a, .int b] σ = .ok (.rng a b 1) σ := by
  show (if _ then _ else _) = _; rw [if_pos h]
theorem b_range3 {a b c : Int} (h0 : c ≠ 0) (h : Builtin.Range.small a b c = true) (h2 : divOk (b - a) c = true) : bcall W (.type "range") [.int a, .int b, .int c] σ = .ok (.rng a b c) σ := by
  show (if _ then _ else _) = _; rw [if_pos ⟨h0, h, h2⟩]

/-! calls of classes -/
theorem callV_make {C fI : Addr} {args : List PV} {oc od cd sl} (hk : W.K.lookup C = some ⟨oc, od, .cls cd, sl⟩) (hm : makesIn W.K C = true) (hi : findIn W.K (.ref C) "__init__" = some (some (.ref fI))) (hf : isFn W.K (.ref fI) = true)
    (h : cb fI (.obj σ.length :: args) (σ ++ [.inst C []]) = .ok .none σ₁) : callV W cb (.top C) args σ = .ok (.obj σ.length) σ₁ := by
  unfold callV; dsimp only; rw [hk]; dsimp only; rw [if_pos hm, hi]; dsimp only; rw [if_pos hf, h]; rfl
theorem callV_own {C fN fI : Addr} {args : List PV} {oc od cd sl} {β : Nat} {fs : List (Str × PV)} (hk : W.K.lookup C = some ⟨oc, od, .cls cd, sl⟩) (hm : makesIn W.K C = false) (hn : newDefIn W.K C = some fN) (hi : findIn W.K (.ref C) "__init__" = some (some (.ref fI))) (hf : isFn W.K (.ref fI) = true)
    (h1 : cb fN (.top C :: args) σ = .ok (.obj β) σ₁) (h2 : σ₁[β]? = some (.inst C fs)) (h : cb fI (.obj β :: args) σ₁ = .ok .none σ₂) : callV W cb (.top C) args σ = .ok (.obj β) σ₂ := by
  unfold callV; dsimp only; rw [hk]; dsimp only; rw [if_neg (by rw [hm]; decide), hn, hi]; dsimp only; rw [if_pos hf, h1]
  show initOwn cb fI C args (.obj β) σ₁ = _
  unfold initOwn; dsimp only; rw [h2]; dsimp only; rw [if_pos rfl, h]; rfl

/-! comparisons, truth -/
theorem c_is_none {v : PV} (h : isT v .none = some true) : cmpop .Is v .none σ = some true := by show isT v .none = _; rw [h]
theorem c_is {v w : PV} {b : Bool} (h : isT v w = some b) : cmpop .Is v w σ = some b := h
theorem c_isnot {v w : PV} {b : Bool} (h : isT v w = some b) : cmpop .IsNot v w σ = some (!b) := by show (isT v w).map _ = _; rw [h]; rfl
theorem tr_list {α : Nat} {vs : List PV} (h : σ[α]? = some (.list vs)) (hs : sizeOk vs.length = true) : truthO W σ (.obj α) = some (!vs.isEmpty) := by
  unfold truthO; dsimp only; rw [h]; dsimp only; rw [if_pos hs]
theorem c_eq_lists {α β : Nat} {xs ys : List PV} {a b : List Int} (h1 : σ[α]? = some (.list xs)) (h2 : σ[β]? = some (.list ys)) (e1 : intsO xs = some a) (e2 : intsO ys = some b) : cmpop .Eq (.obj α) (.obj β) σ = some (decide (a = b)) := by
  unfold cmpop; dsimp only; rw [h1, h2]; dsimp only; rw [e1, e2]; rfl
theorem c_ne_lists {α β : Nat} {xs ys : List PV} {a b : List Int} (h1 : σ[α]? = some (.list xs)) (h2 : σ[β]? = some (.list ys)) (e1 : intsO xs = some a) (e2 : intsO ys = some b) : cmpop .NotEq (.obj α) (.obj β) σ = some (!decide (a = b)) := by
  unfold cmpop; dsimp only; rw [h1, h2]; dsimp only; rw [e1, e2]; rfl

/-! items -/
theorem s_barr {α : Nat} {b : Array UInt8} {lo hi : Option Int} (h : σ[α]? = some (.barr b)) (hs : sizeOk b.size = true) : subS W σ (.obj α) lo hi none = .ok (.obj σ.length) (σ ++ [.barr (KBy.picked b lo hi)]) := by
  unfold subS; dsimp only; rw [h]; dsimp only; rw [if_pos ⟨rfl, hs⟩]
theorem s_list {α : Nat} {xs : List PV} {lo hi st : Option Int} (h : σ[α]? = some (.list xs)) (h0 : st ≠ some 0) (hs : sizeOk xs.length = true) : subS W σ (.obj α) lo hi st = .ok (.obj σ.length) (σ ++ [.list (pick xs lo hi st)]) := by
  unfold subS; dsimp only; rw [h]; dsimp only; rw [if_pos ⟨h0, hs⟩]
theorem s_scr {lo hi st : Option Int} (h0 : st ≠ some 0) (hs : sizeOk W.ns.length = true) : subS W σ .scr lo hi st = .ok (.obj σ.length) (σ ++ [.list ((pick W.ns lo hi st).map .int)]) := by
  unfold subS; dsimp only; rw [if_pos ⟨h0, hs⟩]
theorem s_bytes {b : Array UInt8} {lo hi : Option Int} (hs : sizeOk b.size = true) : subS W σ (.bytes b) lo hi none = .ok (.bytes (KBy.picked b lo hi)) σ := by
  unfold subS; dsimp only; rw [if_pos ⟨rfl, hs⟩]
theorem st_barr_i {α : Nat} {b : Array UInt8} {i k : Int} (h : σ[α]? = some (.barr b)) (hi : 0 ≤ i ∧ i < 2 ^ 63 ∧ i.toNat < b.size ∧ 0 ≤ k ∧ k < 256 ∧ sizeOk b.size = true) : setI σ (.obj α) i (.int k) = some (σ.set α (.barr (b.setIfInBounds i.toNat (UInt8.ofNat k.toNat)))) := by
  unfold setI; dsimp only; rw [h]; dsimp only; rw [if_pos hi]
theorem st_barr_s {α : Nat} {b c : Array UInt8} {lo hi : Int} {x : PV} (h : σ[α]? = some (.barr b)) (hc : octetsOf σ x = some c) (h0 : 0 ≤ lo) (h1 : 0 ≤ hi) (h2 : sameObj (.obj α) x = false) (h3 : sizeOk c.size = true) (h4 : sizeOk (splicedB b c lo hi).size = true) :
    setS σ (.obj α) lo hi x = some (σ.set α (.barr (splicedB b c lo hi))) := by
  unfold setS; dsimp only; rw [h]; dsimp only; rw [hc]; show (if _ then _ else _) = _; rw [if_pos ⟨h0, h1, h2, h3, h4⟩]
theorem oc_bytes {c : Array UInt8} : octetsOf σ (.bytes c) = some c := rfl
theorem oc_barr {α : Nat} {c : Array UInt8} (h : σ[α]? = some (.barr c)) : octetsOf σ (.obj α) = some c := by unfold octetsOf; dsimp only; rw [h]

/-! one statement, and the rest -/
theorem xs_step {s : Stmt} {r : List Stmt} {a x : SR} (h1 : ex W cb sc n m s σ = a) (h2 : a.andThen (fun m σ => exs W cb sc n m r σ) = x) : exs W cb sc (n + 1) m (s :: r) σ = x := by
  show (ex W cb sc n m s σ).andThen _ = _; rw [h1]; exact h2
theorem at_next {r : List Stmt} {x : SR} (h : exs W cb sc n m r σ = x) : (SR.ok .next m σ).andThen (fun m σ => exs W cb sc n m r σ) = x := h
theorem at_ret {v : PV} {f : Vars → PH → SR} : (SR.ok (.ret v) m σ).andThen f = .ok (.ret v) m σ := rfl
theorem an_ret {v : PV} : ansOf (.ok (.ret v) m σ) = .ok v σ := rfl
theorem an_next : ansOf (.ok .next m σ) = .ok .none σ := rfl
theorem ite_t {α : Type} {c : Bool} {a b r : α} (hc : c = true) (h : a = r) : (if c = true then a else b) = r := by rw [if_pos hc]; exact h
theorem ite_f {α : Type} {c : Bool} {a b r : α} (hc : c = false) (h : b = r) : (if c = true then a else b) = r := by rw [if_neg (by rw [hc]; decide)]; exact h

/-! loops -/
theorem while_end {test : Vars → PH → R Bool} {body : Vars → PH → SR} {k : Nat} (h : test m σ = .ok false σ₁) : loopW test body (k + 1) m σ = .ok .next m σ₁ := by
  show (test m σ).st m _ = _; rw [h]; rfl
theorem while_turn {test : Vars → PH → R Bool} {body : Vars → PH → SR} {k : Nat} {m' : Vars} {r : SR} (h : test m σ = .ok true σ₁) (hb : body m σ₁ = .ok .next m' σ₂) (hr : loopW test body k m' σ₂ = r) : loopW test body (k + 1) m σ = r := by
  show (test m σ).st m _ = _; rw [h]; show (match body m σ₁ with | .ok .next m' σ' | .ok .cont m' σ' => _ | .ok .brk m' σ' => _ | x => x) = _; rw [hb]; exact hr
theorem for_end {tg : Vars → PV → Option Vars} {body : Vars → PH → SR} {S : Src} {i : Nat} (h : S.get σ i = some none) : loopG tg body S 0 i m σ = .ok .next m σ := by
  unfold loopG; rw [h]
theorem for_turn {tg : Vars → PV → Option Vars} {body : Vars → PH → SR} {S : Src} {k i : Nat} {v : PV} {m' m'' : Vars} {r : SR} (h : S.get σ i = some (some v)) (ht : tg m v = some m') (hb : body m' σ = .ok .next m'' σ₁) (hr : loopG tg body S k (i + 1) m'' σ₁ = r) : loopG tg body S (k + 1) i m σ = r := by
  unfold loopG; rw [h]; show ofS (tg m v) _ = _; rw [ht]; show (match body m' σ with | .ok .next m'' σ' | .ok .cont m'' σ' => _ | .ok .brk m'' σ' => _ | x => x) = _; rw [hb]; exact hr
end
end Mine
end
/-! part Rw -/
section
open PySem PySem.W PySem.Calls PyProof.Rows
namespace Mine

theorem clipI {n : Nat} {k : Int} (h : 0 ≤ k) : clipAt n k = min k.toNat n := by
  obtain ⟨m, rfl⟩ := Int.eq_ofNat_of_zero_le h
  rw [clipAt_nat]; simp
theorem drop_take_min {α : Type} (l : List α) (i j : Nat) : (l.drop (min i l.length)).take (min j l.length - min i l.length) = (l.drop i).take (j - i) := by
  apply List.ext_getElem?
  intro k
  simp only [List.getElem?_take, List.getElem?_drop]
  by_cases h1 : i ≤ l.length
  · rw [Nat.min_eq_left h1]
    by_cases h2 : k < j - i
    · rw [if_pos h2]
      split
      · rfl
      · rw [List.getElem?_eq_none]; omega
    · rw [if_neg h2, if_neg (by omega)]
  · rw [if_neg (by omega)]
    split
    · rw [List.getElem?_eq_none]; omega
    · rfl
theorem picked_ex {b : Array UInt8} {lo hi : Int} (h0 : 0 ≤ lo) (h1 : 0 ≤ hi) : KBy.picked b (some lo) (some hi) = b.extract lo.toNat hi.toNat := by
  rw [KBc.picked_eq]
  simp only [Option.elim, clipI h0, clipI h1]
  have := drop_take_min b.toList lo.toNat hi.toNat
  rw [Array.length_toList] at this
  rw [this]
  apply Array.ext'
  simp [List.extract_eq_take_drop]
theorem pick_eq {α : Type} (xs : List α) (lo hi : Option Int) : pick xs lo hi none = (xs.drop (lo.elim 0 (clipAt xs.length))).take (hi.elim xs.length (clipAt xs.length) - lo.elim 0 (clipAt xs.length)) := by
  unfold pick
  rw [sliceBounds_plain]
  dsimp only
  rw [sliceRange_one]
  have : ∀ (i j : Nat), (List.filterMap (fun x => xs[x]?) ((List.range (j - i)).map fun k => i + k)) = (xs.drop i).take (j - i) := by
    intro i j
    generalize j - i = n
    induction n generalizing i with
    | zero => simp
    | succ n ih =>
      rw [List.range_succ_eq_map, List.map_cons, List.filterMap_cons]
      have e : List.map (fun k => i + k) (List.map Nat.succ (List.range n)) = List.map (fun k => i + 1 + k) (List.range n) := by
        rw [List.map_map]; apply List.map_congr_left; intro a _; show i + (a + 1) = _; omega
      rw [e, ih (i + 1)]
      simp only [Nat.add_zero]
      cases h : xs[i]? with
      | none =>
        rw [List.getElem?_eq_none_iff] at h
        simp [List.drop_eq_nil_of_le h, List.drop_eq_nil_of_le (Nat.le_succ_of_le h)]
      | some v =>
        obtain ⟨hl, hv⟩ := List.getElem?_eq_some_iff.mp h
        rw [List.drop_eq_getElem_cons hl, List.take_succ_cons, hv]
  first | exact this _ _ | simpa using this _ _
theorem pick_take {α : Type} {xs : List α} {k : Int} (h : 0 ≤ k) : pick xs none (some k) none = xs.take k.toNat := by
  rw [pick_eq]
  simp only [Option.elim, clipI h]
  have := drop_take_min xs 0 k.toNat
  simpa using this
theorem pick_dt {α : Type} {xs : List α} {a b : Int} (h : 0 ≤ a) (h2 : 0 ≤ b) : pick xs (some a) (some b) none = (xs.drop a.toNat).take (b.toNat - a.toNat) := by
  rw [pick_eq]
  simp only [Option.elim, clipI h, clipI h2]
  exact drop_take_min xs a.toNat b.toNat
theorem picked_hi {b : Array UInt8} {hi : Int} (h1 : 0 ≤ hi) : KBy.picked b none (some hi) = b.extract 0 hi.toNat := by
  rw [KBc.picked_eq]
  simp only [Option.elim, clipI h1]
  have := drop_take_min b.toList 0 hi.toNat
  rw [Array.length_toList] at this
  simp only [Nat.zero_min] at this
  rw [this]
  apply Array.ext'
  simp [List.extract_eq_take_drop]
theorem picked_lo {b : Array UInt8} {lo : Int} (h1 : 0 ≤ lo) : KBy.picked b (some lo) none = b.extract lo.toNat b.size := by
  rw [KBc.picked_eq]
  simp only [Option.elim, clipI h1]
  have := drop_take_min b.toList lo.toNat b.size
  rw [Array.length_toList, Nat.min_self] at this
  rw [this]
  apply Array.ext'
  simp [List.extract_eq_take_drop]
section
variable {W : Wd} {σ : PH} {α : Nat}
theorem s_barr_ex {b : Array UInt8} {lo hi : Int} (h : σ[α]? = some (.barr b)) (h0 : 0 ≤ lo) (h1 : 0 ≤ hi) (hs : sizeOk b.size = true) : subS W σ (.obj α) (some lo) (some hi) none = .ok (.obj σ.length) (σ ++ [.barr (b.extract lo.toNat hi.toNat)]) := by
  rw [s_barr h hs, picked_ex h0 h1]
theorem s_bytes_hi {b : Array UInt8} {hi : Int} (h1 : 0 ≤ hi) (hs : sizeOk b.size = true) : subS W σ (.bytes b) none (some hi) none = .ok (.bytes (b.extract 0 hi.toNat)) σ := by
  rw [s_bytes hs, picked_hi h1]
theorem s_bytes_lo {b : Array UInt8} {lo : Int} (h1 : 0 ≤ lo) (hs : sizeOk b.size = true) : subS W σ (.bytes b) (some lo) none none = .ok (.bytes (b.extract lo.toNat b.size)) σ := by
  rw [s_bytes hs, picked_lo h1]
theorem s_list_dt {xs : List PV} {lo hi : Int} (h : σ[α]? = some (.list xs)) (h0 : 0 ≤ lo) (h1 : 0 ≤ hi) (hs : sizeOk xs.length = true) : subS W σ (.obj α) (some lo) (some hi) none = .ok (.obj σ.length) (σ ++ [.list ((xs.drop lo.toNat).take (hi.toNat - lo.toNat))]) := by
  rw [s_list h (by decide) hs, pick_dt h0 h1]
theorem s_list_hi {xs : List PV} {hi : Int} (h : σ[α]? = some (.list xs)) (h1 : 0 ≤ hi) (hs : sizeOk xs.length = true) : subS W σ (.obj α) none (some hi) none = .ok (.obj σ.length) (σ ++ [.list (xs.take hi.toNat)]) := by
  rw [s_list h (by decide) hs, pick_take h1]
theorem s_scr_hi {hi : Int} (h1 : 0 ≤ hi) (hs : sizeOk W.ns.length = true) : subS W σ .scr none (some hi) none = .ok (.obj σ.length) (σ ++ [.list ((W.ns.take hi.toNat).map .int)]) := by
  rw [s_scr (by decide) hs, pick_take h1]
end
end Mine
end
/-! part Rx -/
section
open PySem PySem.W PySem.Calls PyProof.Rows
namespace Mine

/-! what comes of a row of statements -/
def Ok (r : SR) (Q : Fl → Vars → PH → Prop) : Prop := ∃ f m σ, r = .ok f m σ ∧ Q f m σ
/-- what comes behind a statement that went on, or left -/
def Beh (W : Wd) (cb : CB) (sc : Str → Option NameKind) (n : Nat) (r : List Stmt) (Q : Fl → Vars → PH → Prop) : Fl → Vars → PH → Prop
  | .next, m, σ => Ok (exs W cb sc n m r σ) Q
  | f, m, σ => Q f m σ
section
variable {W : Wd} {cb : CB} {sc : Str → Option NameKind} {n : Nat} {m m' : Vars} {σ σ₁ : PH} {p : Pos} {Q : Fl → Vars → PH → Prop} {s : Stmt} {r : List Stmt}
theorem ok_eq {a : SR} {f : Fl} (h : a = .ok f m σ) (k : Q f m σ) : Ok a Q := ⟨f, m, σ, h, k⟩
theorem ok_mono {a : SR} {Q' : Fl → Vars → PH → Prop} (h : Ok a Q) (k : ∀ f m σ, Q f m σ → Q' f m σ) : Ok a Q' := by
  obtain ⟨f, m, σ, e, q⟩ := h; exact ⟨f, m, σ, e, k _ _ _ q⟩
theorem ok_nil (k : Q .next m σ) : Ok (exs W cb sc (n + 1) m [] σ) Q := ⟨_, _, _, rfl, k⟩
theorem ok_st (h : Ok (ex W cb sc n m s σ) (Beh W cb sc n r Q)) : Ok (exs W cb sc (n + 1) m (s :: r) σ) Q := by
  obtain ⟨f, m', σ', e, q⟩ := h
  cases f with
  | next => obtain ⟨f, m2, σ2, e2, q2⟩ := q; exact ⟨f, m2, σ2, by show (ex W cb sc n m s σ).andThen _ = _; rw [e]; exact e2, q2⟩
  | brk => exact ⟨.brk, m', σ', by show (ex W cb sc n m s σ).andThen _ = _; rw [e]; rfl, q⟩
  | cont => exact ⟨.cont, m', σ', by show (ex W cb sc n m s σ).andThen _ = _; rw [e]; rfl, q⟩
  | ret v => exact ⟨.ret v, m', σ', by show (ex W cb sc n m s σ).andThen _ = _; rw [e]; rfl, q⟩
theorem ok_step (h : ex W cb sc n m s σ = .ok .next m' σ₁) (k : Ok (exs W cb sc n m' r σ₁) Q) : Ok (exs W cb sc (n + 1) m (s :: r) σ) Q := ok_st ⟨_, _, _, h, k⟩
theorem ok_ret {v : PV} (h : ex W cb sc n m s σ = .ok (.ret v) m' σ₁) (k : Q (.ret v) m' σ₁) : Ok (exs W cb sc (n + 1) m (s :: r) σ) Q := ok_st ⟨_, _, _, h, k⟩
theorem ok_if {t : Expr} {a b : List Stmt} {c : Bool} (h : ts W cb sc n m t σ = .ok c σ₁) (k : Ok (if c then exs W cb sc n m a σ₁ else exs W cb sc n m b σ₁) Q) : Ok (ex W cb sc (n + 1) m (.If t a b p) σ) Q := by
  obtain ⟨f, m', σ', e, q⟩ := k
  exact ⟨f, m', σ', x_if h e, q⟩
theorem ok_ite_t {c : Bool} {a b : SR} (hc : c = true) (h : Ok a Q) : Ok (if c = true then a else b) Q := by rw [if_pos hc]; exact h
theorem ok_ite_f {c : Bool} {a b : SR} (hc : c = false) (h : Ok b Q) : Ok (if c = true then a else b) Q := by rw [if_neg (by rw [hc]; decide)]; exact h
theorem ok_try {body : List Stmt} {h hs} (k : Ok (exs W cb sc n m body σ) Q) : Ok (ex W cb sc (n + 1) m (.Try body (h :: hs) [] [] p) σ) Q := by
  obtain ⟨f, m', σ', e, q⟩ := k
  exact ⟨f, m', σ', x_try e, q⟩

/-! loops -/
theorem loop_inv {tg : Vars → PV → Option Vars} {body : Vars → PH → SR} {S : Src} {len : Nat} (I : Nat → Vars → PH → Prop) (hend : ∀ m σ, I len m σ → S.get σ len = some none)
    (hstep : ∀ i m σ, i < len → I i m σ → ∃ v m₁, S.get σ i = some (some v) ∧ tg m v = some m₁ ∧ Ok (body m₁ σ) (fun f m₂ σ₂ => f = .next ∧ I (i + 1) m₂ σ₂)) :
    ∀ k i m σ, i + k = len → I i m σ → Ok (loopG tg body S k i m σ) (fun f m' σ' => f = .next ∧ I len m' σ')
  | 0, i, m, σ, hk, h => by
    obtain rfl : i = len := by omega
    exact ⟨_, _, _, for_end (hend _ _ h), rfl, h⟩
  | k + 1, i, m, σ, hk, h => by
    obtain ⟨v, m₁, h1, h2, f, m₂, σ₂, h3, rfl, h4⟩ := hstep i m σ (by omega) h
    obtain ⟨f', m', σ', h5, h6⟩ := loop_inv I hend hstep k (i + 1) m₂ σ₂ (by omega) h4
    exact ⟨f', m', σ', for_turn h1 h2 h3 h5, h6⟩
theorem ok_for {tg it : Expr} {body : List Stmt} {v : PV} {S : Src} (I : Nat → Vars → PH → Prop) (h0 : plainIter it = true) (h1 : ev W cb sc n m it σ = .ok v σ₁) (h2 : srcO W σ₁ v = some S) (hI : I 0 m σ₁) (hend : ∀ m σ, I S.len m σ → S.get σ S.len = some none)
    (hstep : ∀ i m σ, i < S.len → I i m σ → ∃ v m₁, S.get σ i = some (some v) ∧ tgt sc tg m v = some m₁ ∧ Ok (exs W cb sc n m₁ body σ) (fun f m₂ σ₂ => f = .next ∧ I (i + 1) m₂ σ₂))
    (k : ∀ m' σ', I S.len m' σ' → Q .next m' σ') : Ok (ex W cb sc (n + 1) m (.For tg it body [] p) σ) Q := by
  obtain ⟨f, m', σ', h3, rfl, h4⟩ := loop_inv I hend hstep S.len 0 m σ₁ (by omega) hI
  exact ⟨_, _, _, x_for h0 h1 h2 h3, k _ _ h4⟩
theorem while_inv {test : Vars → PH → R Bool} {body : Vars → PH → SR} (I : Nat → Vars → PH → Prop) {Q : Fl → Vars → PH → Prop}
    (hstep : ∀ k m σ, I k m σ → ∃ c σ₁, test m σ = .ok c σ₁ ∧ if c then 0 < k ∧ Ok (body m σ₁) (fun f m₂ σ₂ => match f with | .next => I (k - 1) m₂ σ₂ | .ret v => Q (.ret v) m₂ σ₂ | _ => False) else Q .next m σ₁) :
    ∀ k fu m σ, k < fu → I k m σ → Ok (loopW test body fu m σ) Q := by
  intro k
  induction k using Nat.strongRecOn with
  | _ k ih =>
    intro fu m σ hf h
    obtain ⟨fu, rfl⟩ : ∃ g, fu = g + 1 := ⟨fu - 1, by omega⟩
    obtain ⟨c, σ₁, h1, h2⟩ := hstep k m σ h
    cases c with
    | false => exact ⟨_, _, _, while_end h1, h2⟩
    | true =>
      obtain ⟨hk, f, m₂, σ₂, h3, h4⟩ := h2
      cases f with
      | next =>
        obtain ⟨f', m', σ', h5, h6⟩ := ih (k - 1) (by omega) fu m₂ σ₂ (by omega) h4
        exact ⟨f', m', σ', while_turn h1 h3 h5, h6⟩
      | ret v =>
        refine ⟨.ret v, m₂, σ₂, ?_, h4⟩
        show (test m σ).st m _ = _; rw [h1]; show (match body m σ₁ with | .ok .next m' σ' | .ok .cont m' σ' => _ | .ok .brk m' σ' => _ | x => x) = _; rw [h3]
      | brk => exact h4.elim
      | cont => exact h4.elim
theorem ok_while {t : Expr} {body : List Stmt} (I : Nat → Vars → PH → Prop) (k₀ : Nat) (hk : k₀ < 1048576) (hI : I k₀ m σ)
    (hstep : ∀ k m σ, I k m σ → ∃ c σ₁, ts W cb sc n m t σ = .ok c σ₁ ∧ if c then 0 < k ∧ Ok (exs W cb sc n m body σ₁) (fun f m₂ σ₂ => match f with | .next => I (k - 1) m₂ σ₂ | .ret v => Q (.ret v) m₂ σ₂ | _ => False) else Q .next m σ₁) :
    Ok (ex W cb sc (n + 1) m (.While t body [] p) σ) Q := by
  obtain ⟨f, m', σ', e, q⟩ := while_inv I hstep k₀ whileMost m σ hk hI
  exact ⟨f, m', σ', x_while e, q⟩

/-! comprehensions over a source that does not turn -/
theorem comp_eq {f : Vars → PH → R PV} {x : Str} {S : Src} {is ws : List PV} (hs : ∀ j, S.get σ j = some is[j]?) (hl : is.length = ws.length) (hf : ∀ (j : Nat) (v w : PV), is[j]? = some v → ws[j]? = some w → f (m.set x v) σ = .ok w σ) :
    ∀ k i, i + k = is.length → compG f x m S k i σ = .ok (ws.drop i) σ
  | 0, i, hk => by
    unfold compG
    rw [hs i, List.getElem?_eq_none (by omega), List.drop_eq_nil_of_le (by omega)]
  | k + 1, i, hk => by
    have h1 : i < is.length := by omega
    have h2 : i < ws.length := by omega
    unfold compG
    rw [hs i, List.getElem?_eq_getElem h1]
    show (f (m.set x is[i]) σ).bind _ = _
    rw [hf i _ _ (List.getElem?_eq_getElem h1) (List.getElem?_eq_getElem h2)]
    show (compG f x m S k (i + 1) σ).bind _ = _
    rw [comp_eq hs hl hf k (i + 1) (by omega), List.drop_eq_getElem_cons h2]
    rfl
theorem compW_fix {f : Vars → PH → R PV} {x : Str} {v : PV} {is ws : List PV} (h : srcO W σ v = some (.fix is)) (hz : sizeOk is.length = true) (hl : is.length = ws.length) (hf : ∀ (j : Nat) (v w : PV), is[j]? = some v → ws[j]? = some w → f (m.set x v) σ = .ok w σ) :
    compW W f x m v σ = .ok (.obj σ.length) (σ ++ [.list ws]) := by
  unfold compW; rw [h]
  show (if sizeOk (Src.fix is).len then _ else _) = _
  rw [if_pos (show sizeOk (Src.fix is).len = true from hz)]
  show (compG f x m (.fix is) is.length 0 σ).bind _ = _
  rw [comp_eq (is := is) (ws := ws) (fun j => rfl) hl hf is.length 0 (by omega)]
  rfl
theorem compW_lst {f : Vars → PH → R PV} {x : Str} {α : Nat} {is ws : List PV} (h : σ[α]? = some (.list is)) (hz : sizeOk is.length = true) (hl : is.length = ws.length) (hf : ∀ (j : Nat) (v w : PV), is[j]? = some v → ws[j]? = some w → f (m.set x v) σ = .ok w σ) :
    compW W f x m (.obj α) σ = .ok (.obj σ.length) (σ ++ [.list ws]) := by
  unfold compW
  rw [show srcO W σ (.obj α) = some (.lst α is.length) by unfold srcO; dsimp only; rw [h]]
  show (if sizeOk (Src.lst α is.length).len then _ else _) = _
  rw [if_pos (show sizeOk (Src.lst α is.length).len = true from hz)]
  show (compG f x m (.lst α is.length) is.length 0 σ).bind _ = _
  rw [comp_eq (is := is) (ws := ws) (fun j => by unfold Src.get; dsimp only; rw [h]) hl hf is.length 0 (by omega)]
  rfl

/-! calls -/
def Runs (W : Wd) (d : Nat) (a : Addr) (args : List PV) (σ : PH) (Q : PV → PH → Prop) : Prop := ∃ v σ', callF W d a args σ = .ok v σ' ∧ Q v σ'
def RetQ (Q : PV → PH → Prop) : Fl → Vars → PH → Prop
  | .ret v, _, σ => Q v σ
  | _, _, σ => Q .none σ
theorem does_def {d : Nat} {a : Addr} {args : List PV} {fd : FuncData} {body : List Stmt} (l : List (Str × PV)) {Q : PV → PH → Prop} (F : FnIs W.K a fd body) (hl : bindPL W.K fd args = some l) (ho : bindOk fd l = true)
    (h : Ok (exs W (callF W d) (fun y => fd.scope.names.lookup y) 100 (bindP l) body σ) (RetQ Q)) : Runs W (d + 1) a args σ Q := by
  obtain ⟨f, m, σ', e, q⟩ := h
  cases f with
  | ret v => exact ⟨v, σ', callF_def F hl ho e rfl, q⟩
  | next => exact ⟨.none, σ', callF_def F hl ho e rfl, q⟩
  | brk => exact ⟨.none, σ', callF_def F hl ho e rfl, q⟩
  | cont => exact ⟨.none, σ', callF_def F hl ho e rfl, q⟩
theorem does_eq {d : Nat} {a : Addr} {args : List PV} {Q : PV → PH → Prop} {v : PV} {σ' : PH} (h : callF W d a args σ = .ok v σ') (k : Q v σ') : Runs W d a args σ Q := ⟨v, σ', h, k⟩
end

section
variable {W : Wd} {cb : CB} {sc : Str → Option NameKind} {n n' : Nat} {m m' : Vars} {σ σ₁ : PH} {p : Pos} {Q : Fl → Vars → PH → Prop} {s : Stmt} {r : List Stmt}
theorem ok_nilB (k : Ok (exs W cb sc n' m r σ) Q) : Ok (exs W cb sc (n + 1) m [] σ) (Beh W cb sc n' r Q) := ok_nil k
theorem ok_beh (k : Ok (exs W cb sc n m r σ) Q) : Beh W cb sc n r Q .next m σ := k
theorem ok_retB {v : PV} (h : ex W cb sc n m s σ = .ok (.ret v) m' σ₁) (k : Q (.ret v) m' σ₁) {t : List Stmt} : Ok (exs W cb sc (n + 1) m (s :: r) σ) (Beh W cb sc n' t Q) := ok_ret h k

theorem ex_ts {X : R Bool} {Q : Bool → PH → Prop} {c : Bool} (h : X = .ok c σ₁) (k : Q c σ₁) : ∃ c σ₁, X = .ok c σ₁ ∧ Q c σ₁ := ⟨c, σ₁, h, k⟩

/-! arithmetic of the walk -/
theorem i_divp {a b : Int} (h : 0 < b) (h2 : b < 1073741824) : intOp .FloorDiv a b = some (a / b) := by
  rw [i_div (by omega) (by unfold divOk; rw [PyProof.noPylong_small (by omega)]; rfl), Int.fdiv_eq_ediv_of_nonneg _ (by omega)]
theorem i_modp {a b : Int} (h : 0 < b) : intOp .Mod a b = some (a % b) := by
  rw [i_mod (by omega), Int.fmod_eq_emod_of_nonneg _ (by omega)]
theorem i_shrp {a b : Int} (h : 0 ≤ b) : intOp .RShift a b = some (a / 2 ^ b.toNat) := by
  rw [i_shr h, Int.fdiv_eq_ediv_of_nonneg _ (Int.le_of_lt (Int.pow_pos (by decide)))]
theorem shl_ok {a n : Int} {m : Nat} (h0 : 0 ≤ a) (h : a < 2 ^ m) (hm : (m : Int) + n ≤ 134217728) : shlOk a n = true := by
  unfold shlOk
  have hc : ((2 ^ m : Nat) : Int) = 2 ^ m := by simp
  have : Builtin.Int.intBits a ≤ m := PySem.intBits_le_iff.mpr (by omega)
  exact decide_eq_true (by omega)
theorem shl_one {n : Int} (hm : n ≤ 134217727) : shlOk 1 n = true := shl_ok (m := 1) (by decide) (by decide) (by omega)
theorem mul_ok {a b : Int} (h : a.natAbs < 2 ^ 64) : mulOk a b = true := by
  unfold mulOk
  have : Builtin.Int.intBits a ≤ 64 := PySem.intBits_le_iff.mpr h
  have e : shortFactorBits = 64 := rfl
  rw [decide_eq_false (show ¬ Builtin.Int.intBits a > shortFactorBits by rw [e]; omega)]; rfl
theorem mul_ok' {a b : Int} (h : b.natAbs < 2 ^ 64) : mulOk a b = true := by
  unfold mulOk
  have : Builtin.Int.intBits b ≤ 64 := PySem.intBits_le_iff.mpr h
  have e : shortFactorBits = 64 := rfl
  rw [decide_eq_false (show ¬ Builtin.Int.intBits b > shortFactorBits by rw [e]; omega), Bool.and_false, Bool.false_and]; rfl
theorem pow_ok {b : Int} {a : Int} (h : a.natAbs < 2 ^ 2) (hb0 : 0 ≤ b) (hb : b ≤ 1000000) : powOk a b = true := by
  unfold powOk
  have h1 : Builtin.Int.intBits a ≤ 2 := PySem.intBits_le_iff.mpr h
  refine decide_eq_true ?_
  have : (Builtin.Int.intBits a : Int) * b ≤ 2 * b := Int.mul_le_mul_of_nonneg_right (by omega) hb0
  omega
theorem div_ok {a c : Int} (h : c.natAbs < 1073741824) : divOk a c = true := by unfold divOk; rw [PyProof.noPylong_small h]; rfl
theorem range_up {b : Int} (h0 : 0 ≤ b) (h : b ≤ 1000000000) : bcall W (.type "range") [.int b] σ = .ok (.rng 0 b 1) σ := b_range1 (PySem.small_one (by omega) (by omega) (by omega) (by omega))
theorem range_ab {a b : Int} (h1 : -1000000000 ≤ a) (h2 : a ≤ 1000000000) (h0 : -1000000000 ≤ b) (h : b ≤ 1000000000) : bcall W (.type "range") [.int a, .int b] σ = .ok (.rng a b 1) σ := b_range2 (PySem.small_one (by omega) (by omega) (by omega) (by omega))
theorem range_down {a b : Int} (h1 : -1000000000 ≤ a) (h2 : a ≤ 1000000000) (h0 : -1000000000 ≤ b) (h : b ≤ 1000000000) : bcall W (.type "range") [.int a, .int b, .int (-1)] σ = .ok (.rng a b (-1)) σ := b_range3 (by decide) (small_down (by omega) (by omega) (by omega) (by omega)) (div_ok (by decide))
theorem src_up {b : Int} (h0 : 0 ≤ b) (h : b ≤ 1000000000) : srcO W σ (.rng 0 b 1) = some (.fix ((List.range b.toNat).map fun (k : Nat) => .int (k : Int))) := by
  show (itemsO W σ (.rng 0 b 1)).map _ = _
  unfold itemsO
  dsimp only
  rw [PySem.rangeSize_one]
  rw [if_pos ⟨PySem.small_one (by omega) (by omega) (by omega) (by omega), by split <;> omega⟩]
  unfold rangeL
  rw [PySem.rangeSize_one, List.map_map]
  have : (if 0 < b then b - 0 else 0).toNat = b.toNat := by split <;> omega
  rw [this]
  simp only [Option.map_some, Option.some.injEq, Src.fix.injEq]
  apply List.map_congr_left
  intro k _
  show PV.int (0 + 1 * (k : Int)) = _
  rw [Int.zero_add, Int.one_mul]
theorem src_down {k : Nat} (h : (k : Int) ≤ 1000000000) : srcO W σ (.rng ((k : Int) - 1) (-1) (-1)) = some (.fix ((List.range k).map fun (j : Nat) => .int ((k : Int) - 1 - j))) := by
  show (itemsO W σ (.rng ((k : Int) - 1) (-1) (-1))).map _ = _
  unfold itemsO
  dsimp only
  rw [rangeSize_down]
  rw [if_pos ⟨small_down (by omega) (by omega) (by omega) (by omega), by split <;> omega⟩]
  unfold rangeL
  rw [rangeSize_down, List.map_map]
  have : (if (k : Int) - 1 > -1 then (k : Int) - 1 - -1 else 0).toNat = k := by split <;> omega
  rw [this]
  simp only [Option.map_some, Option.some.injEq, Src.fix.injEq]
  apply List.map_congr_left
  intro j _
  show PV.int ((k : Int) - 1 + -1 * (j : Int)) = _
  congr 1; omega
theorem b_cat {α β : Nat} {xs ys : List PV} (h1 : σ[α]? = some (.list xs)) (h2 : σ[β]? = some (.list ys)) (h3 : sizeOk (xs.length + ys.length) = true) : binop .Add (.obj α) (.obj β) σ = .ok (.obj σ.length) (σ ++ [.list (xs ++ ys)]) := by
  unfold binop; dsimp only; rw [h1, h2]; dsimp only; rw [if_pos h3]
theorem b_rep {α : Nat} {xs : List PV} {k : Int} (h1 : σ[α]? = some (.list xs)) (h2 : xs.length * k.toNat ≤ 2 ^ 24 ∧ k < 2 ^ 63 ∧ -(2 ^ 63) ≤ k) : binop .Mult (.obj α) (.int k) σ = .ok (.obj σ.length) (σ ++ [.list (rep xs k)]) := by
  unfold binop; dsimp only; rw [h1]; dsimp only; rw [if_pos h2]
theorem b_cats {x y : Str} (h3 : sizeOk (x.length + y.length) = true) : binop .Add (.str x) (.str y) σ = .ok (.str (x ++ y)) σ := by
  unfold binop; dsimp only; rw [if_pos h3]
theorem b_smul {x : Str} {k : Int} (h : x.length ≤ 16 ∧ k ≤ 1048576 ∧ -(2 ^ 63) ≤ k) : binop .Mult (.str x) (.int k) σ = .ok (.str (Txt.mul x k)) σ := by
  unfold binop; dsimp only; rw [if_pos h]
theorem x_for3 {x : Str} {px : Pos} {it : Expr} {body : List Stmt} {a : Nat} {L : List PV} {v1 v2 v3 : PV} {m1 m2 m3 : Vars} (h0 : plainIter it = true) (h1 : ev W cb sc n m it σ = .ok (.obj a) σ₁) (h2 : σ₁[a]? = some (.list L)) (hL : L = [v1, v2, v3]) (hl : localIn sc x = true)
    (b1 : exs W cb sc n (m.set x v1) body σ₁ = .ok .next m1 σ₁) (b2 : exs W cb sc n (m1.set x v2) body σ₁ = .ok .next m2 σ₁) (b3 : exs W cb sc n (m2.set x v3) body σ₁ = .ok .next m3 σ₁) : ex W cb sc (n + 1) m (.For (.Name x px) it body [] p) σ = .ok .next m3 σ₁ := by
  subst hL
  have g : ∀ i, Src.get (.lst a 3) σ₁ i = some ([v1, v2, v3][i]?) := fun i => by unfold Src.get; dsimp only; rw [h2]
  refine x_for (S := .lst a 3) h0 h1 (by unfold srcO; dsimp only; rw [h2]; rfl) ?_
  exact for_turn (g 0) (if_pos hl) b1 (for_turn (g 1) (if_pos hl) b2 (for_turn (g 2) (if_pos hl) b3 (for_end (g 3))))
theorem small_up {b c : Int} (hc : 0 < c) (hc2 : c ≤ 1000) (h0 : 0 ≤ b) (hb : b ≤ 1000000000) : Builtin.Range.small 0 b c = true ∧ 0 ≤ Builtin.Range.rangeSize 0 b c := by
  have hr : Builtin.Range.rangeSize 0 b c = if 0 < b then (b - 0 - 1) / c + 1 else 0 := by unfold Builtin.Range.rangeSize; rw [if_pos hc]
  have h1 : 0 ≤ (b - 0 - 1) / c ∨ b ≤ 0 := by
    by_cases hb : b ≤ 0
    · exact .inr hb
    · exact .inl (Int.ediv_nonneg (by omega) (by omega))
  have h2 : (b - 0 - 1) / c ≤ b - 0 - 1 ∨ b ≤ 0 := by
    by_cases hb : b ≤ 0
    · exact .inr hb
    · exact .inl (Int.ediv_le_self _ (by omega))
  have h3 : b ≤ 0 ∨ (b - 0 - 1) / c * c ≤ b - 0 - 1 := .inr (Int.ediv_mul_le _ (by omega))
  refine ⟨?_, ?_⟩
  · unfold Builtin.Range.small
    rw [hr]
    simp only [Builtin.Range.rangeFitsLong, Bool.and_eq_true, Bool.or_eq_true, decide_eq_true_eq, beq_iff_eq, show c > 0 by omega, if_true]
    generalize (b - 0 - 1) / c = q at *
    split <;> omega
  · rw [hr]; split <;> omega
theorem src_by {b : Int} {c : Int} (hc : 0 < c) (hc2 : c ≤ 1000) (h0 : 0 ≤ b) (hb : b ≤ 1000000000) : srcO W σ (.rng 0 b c) = some (.fix ((List.range ((b + c - 1) / c).toNat).map fun (k : Nat) => .int (c * (k : Int)))) := by
  show (itemsO W σ (.rng 0 b c)).map _ = _
  unfold itemsO
  dsimp only
  rw [if_pos (small_up hc hc2 h0 hb)]
  unfold rangeL
  have hr : Builtin.Range.rangeSize 0 b c = (b + c - 1) / c := by
    unfold Builtin.Range.rangeSize
    rw [if_pos hc]
    split
    · rw [show b + c - 1 = (b - 0 - 1) + c by omega, Int.add_ediv_of_dvd_right (Int.dvd_refl c), Int.ediv_self (by omega)]
    · rw [Int.ediv_eq_zero_of_lt (by omega) (by omega)]
  rw [hr, List.map_map]
  simp only [Option.map_some, Option.some.injEq, Src.fix.injEq]
  apply List.map_congr_left
  intro k _
  show PV.int (0 + c * (k : Int)) = _
  rw [Int.zero_add]
theorem range_by {b c : Int} (hc : 0 < c) (hc2 : c ≤ 1000) (h0 : 0 ≤ b) (hb : b ≤ 1000000000) : bcall W (.type "range") [.int 0, .int b, .int c] σ = .ok (.rng 0 b c) σ := b_range3 (by omega) (small_up hc hc2 h0 hb).1 (div_ok (by omega))
/-- what stood stands, but for some -/
def Keep (σ σ' : PH) (A : List Nat) : Prop := ∀ x o, x ∉ A → σ[x]? = some o → σ'[x]? = some o
theorem Keep.refl {A : List Nat} : Keep σ σ A := fun _ _ _ h => h
theorem Keep.trans {σ₂ : PH} {A : List Nat} (h : Keep σ σ₁ A) (k : Keep σ₁ σ₂ A) : Keep σ σ₂ A := fun x o hx e => k x o hx (h x o hx e)
theorem Keep.mono {A B : List Nat} (h : Keep σ σ₁ A) (k : ∀ x ∈ A, x ∈ B) : Keep σ σ₁ B := fun x o hx e => h x o (fun q => hx (k x q)) e
theorem Keep.set {A : List Nat} {α : Nat} {o : PO} (h : Keep σ σ₁ A) (hα : α ∈ A) : Keep σ (σ₁.set α o) A := fun x o' hx e => by
  rw [List.getElem?_set_ne (fun q => hx (by rw [← q]; exact hα))]; exact h x o' hx e
theorem Keep.app {A : List Nat} {t : PH} (h : Keep σ σ₁ A) : Keep σ (σ₁ ++ t) A := fun x o hx e => h_app (h x o hx e)
end

/-! bits -/
theorem bor_nat (a b : Nat) : Builtin.bitOr (a : Int) (b : Int) = ((a ||| b : Nat) : Int) := by
  unfold Builtin.bitOr Builtin.bitAnd Builtin.bitNot
  have h1 : ¬ (0 : Int) ≤ -(a : Int) - 1 := by omega
  have h2 : ¬ (0 : Int) ≤ -(b : Int) - 1 := by omega
  simp only [h1, h2, decide_false]
  have e1 : (-(-(a : Int) - 1) - 1).toNat = a := by omega
  have e2 : (-(-(b : Int) - 1) - 1).toNat = b := by omega
  rw [e1, e2]; omega
theorem band_nat (a b : Nat) : Builtin.bitAnd (a : Int) (b : Int) = ((a &&& b : Nat) : Int) := by
  unfold Builtin.bitAnd
  simp
theorem band_mask (x : Int) (k : Nat) : Builtin.bitAnd x (2 ^ k - 1) = x % 2 ^ k := kbt_mask x k
theorem bor_shift {x y : Int} {k : Nat} (hx : 0 ≤ x) (hy : 0 ≤ y) (hk : y < 2 ^ k) : Builtin.bitOr (x * 2 ^ k) y = x * 2 ^ k + y := by
  obtain ⟨a, rfl⟩ := Int.eq_ofNat_of_zero_le hx
  obtain ⟨b, rfl⟩ := Int.eq_ofNat_of_zero_le hy
  have hc : ((2 ^ k : Nat) : Int) = 2 ^ k := by simp
  have hb : b < 2 ^ k := by omega
  rw [← hc, ← Int.natCast_mul, bor_nat, Nat.mul_comm, ← Nat.two_pow_add_eq_or_of_lt hb]
  simp
theorem bor_shift' {x y : Int} {k : Nat} (hx : 0 ≤ x) (hy : 0 ≤ y) (hk : y < 2 ^ k) : Builtin.bitOr y (x * 2 ^ k) = x * 2 ^ k + y := by
  obtain ⟨a, rfl⟩ := Int.eq_ofNat_of_zero_le hx
  obtain ⟨b, rfl⟩ := Int.eq_ofNat_of_zero_le hy
  have hc : ((2 ^ k : Nat) : Int) = 2 ^ k := by simp
  have hb : b < 2 ^ k := by omega
  rw [← hc, ← Int.natCast_mul, bor_nat, Nat.or_comm, Nat.mul_comm, ← Nat.two_pow_add_eq_or_of_lt hb]
  simp
end Mine
end
/-! part Kbr5014_04 -/
section
open PySem PySem.W PySem.Calls PyProof.Rows
namespace Mine
abbrev pr : Program := PySem.Challenge.pw_br5014_04
def tst (i : Nat) : Stmt := (pr.main.body[i]?).getD default
def cst (i j : Nat) : Stmt := match tst i with
  | .ClassDef _ _ _ b _ _ _ _ _ _ _ => (b[j]?).getD default
  | s => s
def sBody : Stmt → List Stmt
  | .FunctionDef _ _ b _ _ _ _ _ _ _ => b
  | _ => []
def sArgs : Stmt → Arguments
  | .FunctionDef _ a _ _ _ _ _ _ _ _ => a
  | _ => default
def sScope : Stmt → Scope
  | .FunctionDef _ _ _ _ _ _ s _ _ _ => s
  | _ => default
def sStr : Stmt → Str
  | .Assign _ (.Constant (.str y) _ _) _ => y
  | _ => default
abbrev sv (x : String) (t : Nat) : Value := .str (Str.ofString x) t
abbrev svl (i : Nat) (t : Nat) : Value := .str (sStr (tst i)) t
def de (P : Params) (x : String) (t : Nat) (v : Value) : DictEntry := ⟨PyData.keyHash P (Str.ofString x), .str (Str.ofString x) t, v⟩
def fdt (s : Stmt) (n q : String) (cl : List (String × Addr)) (d kd doc pm cd ct : Value) (an : Option Addr) : FuncData :=
  { name := Str.ofString n, qualname := Str.ofString q, params := sArgs s, body := .stmts (sBody s), scope := sScope s, globals := 3, closure := cl.map fun y => (Str.ofString y.1, y.2), defaults := d, kwdefaults := kd, doc := doc, pyModule := pm, annotations := an, code := cd, closureTuple := ct, builtins := 0 }
def cdt (n q : String) (bs mro : List Value) (ns : Addr) (sub : List Value) (hd : Bool) : ClassData :=
  { name := Str.ofString n, bases := bs, mro := mro, ns := ns, qualname := Str.ofString q, hasDict := hd, subclasses := sub }
def stm (f : FuncData) : List Stmt := match f.body with
  | .stmts b => b
  | _ => []
/-! the reached objects of the top's heap: 103 -/
def o2 (P : Params) : Obj := ⟨.none, none, .dict [de P "type.__subclasses__.OSError.0" 233 (.int (45) 0), de P "type.__subclasses__.OSError.n" 234 (.int (1) 0), de P "type.__subclasses__.Exception.0" 1598 (.int (1070) 0), de P "type.__subclasses__.Exception.n" 1599 (.int (1) 0), de P "type.__subclasses__.EOFError.0" 1656 (.int (1113) 0), de P "type.__subclasses__.EOFError.n" 1657 (.int (1) 0)].toArray 6, [].toArray⟩
def o3 (P : Params) : Obj := ⟨.type "dict", none, .dict [de P "__name__" 165 (sv "law_br5014_04" 1660), de P "__doc__" 166 .none, de P "__package__" 167 .none, de P "__loader__" 168 (.builtin "__main__.__loader__#opaque"), de P "__spec__" 169 .none, de P "__annotations__" 170 (.ref 6), de P "__builtins__" 171 (.ref 4), de P "__file__" 173 (sv "/claim/cut.py" 172), de P "__cached__" 174 .none, de P "_wall" 193 (.ref 21), de P "SEEK_END" 195 (.int (2) 194), de P "PY2" 196 (.bool false), de P "_whence" 206 (.ref 28), de P "_index" 214 (.ref 35), de P "UnsupportedOperation" 236 (.ref 45), de P "IOBase" 268 (.ref 65), de P "BufferedIOBase" 286 (.ref 80), de P "TextIOBase" 304 (.ref 92), de P "BytesIO" 566 (.ref 322), de P "StringIO" 853 (.ref 569), de P "KaitaiStruct" 931 (.ref 615), de P "KaitaiStream" 1569 (.ref 1047), de P "KaitaiStructError" 1601 (.ref 1070), de P "InvalidArgumentError" 1627 (.ref 1092), de P "EndOfStreamError" 1659 (.ref 1113), de P "_law_alphabet" 1663 (svl 19 1662), de P "_law_vectors" 1669 (.ref 1122), de P "_law_plain_groups" 1682 (.ref 1129), de P "_law_text" 1692 (.ref 1136), de P "_law_read" 1702 (.ref 1143), de P "_law_sextets" 1711 (.ref 1150), de P "_law_write" 1722 (.ref 1157), de P "_law_round" 1728 (.ref 1162), de P "law" 1734 (.ref 1167)].toArray 34, [].toArray⟩
def o27 (P : Params) : Obj := ⟨.type "code", none, .fields [sv "_whence" 199, sv "_whence" 200, sv "/claim/cut.py" 201, .int (7) 0, .int (2) 0, .int (0) 0, .int (0) 0, .int (3) 0, .ref 22, .bool true, .int (181) 0, .ref 23, .none, .ref 24, .ref 25, .ref 26, .int (204) 0, .int (7) 0, sv "/claim/cut.py" 205].toArray, [].toArray⟩
def f__whence : FuncData := fdt (tst 4) "_whence" "_whence" [] .none .none .none (sv "io" 197) (.ref 27) .none none
def o28 (P : Params) : Obj := ⟨.type "function", none, .func f__whence, [].toArray⟩
def o34 (P : Params) : Obj := ⟨.type "code", none, .fields [sv "_index" 207, sv "_index" 208, sv "/claim/cut.py" 209, .int (12) 0, .int (2) 0, .int (0) 0, .int (0) 0, .int (3) 0, .ref 29, .bool true, .int (181) 0, .ref 30, .none, .ref 31, .ref 32, .ref 33, .int (212) 0, .int (12) 0, sv "/claim/cut.py" 213].toArray, [].toArray⟩
def f__index : FuncData := fdt (tst 5) "_index" "_index" [] .none .none .none (sv "io" 197) (.ref 34) .none none
def o35 (P : Params) : Obj := ⟨.type "function", none, .func f__index, [].toArray⟩
def o61 (P : Params) : Obj := ⟨.type "code", none, .fields [sv "__new__" 251, sv "IOBase.__new__" 252, sv "/claim/cut.py" 253, .int (24) 0, .int (1) 0, .int (1) 0, .int (0) 0, .int (15) 0, .ref 56, .bool true, .int (181) 0, .ref 57, .none, .ref 58, .ref 59, .ref 60, .int (257) 0, .int (24) 0, sv "/claim/cut.py" 258].toArray, [].toArray⟩
def f_IOBase___new__ : FuncData := fdt (cst 7 1) "__new__" "IOBase.__new__" [] .none .none .none (sv "io" 197) (.ref 61) .none none
def o62 (P : Params) : Obj := ⟨.type "function", none, .func f_IOBase___new__, [].toArray⟩
def o64 (P : Params) : Obj := ⟨.type "dict", none, .dict [de P "__module__" 244 (sv "io" 249), de P "__firstlineno__" 248 (.int (21) 247), de P "__new__" 259 (.ref 66), de P "__static_attributes__" 260 (.ref 63), de P "__dict__" 263 (.ref 67), de P "__weakref__" 265 (.ref 68), de P "__doc__" 266 .none].toArray 4, [].toArray⟩
def o65 (P : Params) : Obj := ⟨.type "type", none, .cls (cdt "IOBase" "IOBase" [.type "object"] [.ref 65, .type "object"] 64 [.ref 80, .ref 92] true), [none, none, some (sv "IOBase" 237), some (sv "IOBase" 245), some .none, some (.bool true)].toArray⟩
def o66 (P : Params) : Obj := ⟨.type "staticmethod", none, .fields [.ref 62].toArray, [].toArray⟩
def o79 (P : Params) : Obj := ⟨.type "dict", none, .dict [de P "__module__" 276 (sv "io" 281), de P "__firstlineno__" 280 (.int (28) 279), de P "__static_attributes__" 283 (.ref 78), de P "__doc__" 284 .none].toArray 2, [].toArray⟩
def o80 (P : Params) : Obj := ⟨.type "type", none, .cls (cdt "BufferedIOBase" "BufferedIOBase" [.ref 65] [.ref 80, .ref 65, .type "object"] 79 [.ref 322] true), [some (.ref 71), none, some (sv "BufferedIOBase" 269), some (sv "BufferedIOBase" 277), some .none, some (.bool true)].toArray⟩
def o102 (P : Params) : Obj := ⟨.type "tuple", none, .seq [.none].toArray 0, [].toArray⟩
def o108 (P : Params) : Obj := ⟨.type "code", none, .fields [sv "__init__" 319, sv "BytesIO.__init__" 320, sv "/claim/cut.py" 321, .int (35) 0, .int (2) 0, .int (0) 0, .int (0) 0, .int (3) 0, .ref 103, .bool true, .int (181) 0, .ref 104, .none, .ref 105, .ref 106, .ref 107, .int (324) 0, .int (35) 0, sv "/claim/cut.py" 325].toArray, [].toArray⟩
def f_BytesIO___init__ : FuncData := fdt (cst 10 1) "__init__" "BytesIO.__init__" [] (.ref 102) .none .none (sv "io" 197) (.ref 108) .none none
def o109 (P : Params) : Obj := ⟨.type "function", none, .func f_BytesIO___init__, [].toArray⟩
def o115 (P : Params) : Obj := ⟨.type "code", none, .fields [sv "__check" 327, sv "BytesIO.__check" 328, sv "/claim/cut.py" 329, .int (41) 0, .int (1) 0, .int (0) 0, .int (0) 0, .int (3) 0, .ref 110, .bool true, .int (181) 0, .ref 111, .none, .ref 112, .ref 113, .ref 114, .int (331) 0, .int (41) 0, sv "/claim/cut.py" 332].toArray, [].toArray⟩
def f_BytesIO___check : FuncData := fdt (cst 10 2) "__check" "BytesIO.__check" [] .none .none .none (sv "io" 197) (.ref 115) .none none
def o116 (P : Params) : Obj := ⟨.type "function", none, .func f_BytesIO___check, [].toArray⟩
def o172 (P : Params) : Obj := ⟨.type "code", none, .fields [sv "seekable" 389, sv "BytesIO.seekable" 390, sv "/claim/cut.py" 391, .int (80) 0, .int (1) 0, .int (0) 0, .int (0) 0, .int (3) 0, .ref 167, .bool true, .int (181) 0, .ref 168, .none, .ref 169, .ref 170, .ref 171, .int (393) 0, .int (80) 0, sv "/claim/cut.py" 394].toArray, [].toArray⟩
def f_BytesIO_seekable : FuncData := fdt (cst 10 10) "seekable" "BytesIO.seekable" [] .none .none .none (sv "io" 197) (.ref 172) .none none
def o173 (P : Params) : Obj := ⟨.type "function", none, .func f_BytesIO_seekable, [].toArray⟩
def o221 (P : Params) : Obj := ⟨.type "code", none, .fields [sv "tell" 438, sv "BytesIO.tell" 439, sv "/claim/cut.py" 440, .int (103) 0, .int (1) 0, .int (0) 0, .int (0) 0, .int (3) 0, .ref 216, .bool true, .int (181) 0, .ref 217, .none, .ref 218, .ref 219, .ref 220, .int (442) 0, .int (103) 0, sv "/claim/cut.py" 443].toArray, [].toArray⟩
def f_BytesIO_tell : FuncData := fdt (cst 10 17) "tell" "BytesIO.tell" [] .none .none .none (sv "io" 197) (.ref 221) .none none
def o222 (P : Params) : Obj := ⟨.type "function", none, .func f_BytesIO_tell, [].toArray⟩
def o223 (P : Params) : Obj := ⟨.type "tuple", none, .seq [.int (0) 445].toArray 0, [].toArray⟩
def o229 (P : Params) : Obj := ⟨.type "code", none, .fields [sv "seek" 446, sv "BytesIO.seek" 447, sv "/claim/cut.py" 448, .int (107) 0, .int (3) 0, .int (3) 0, .int (0) 0, .int (3) 0, .ref 224, .bool true, .int (181) 0, .ref 225, .none, .ref 226, .ref 227, .ref 228, .int (452) 0, .int (107) 0, sv "/claim/cut.py" 453].toArray, [].toArray⟩
def f_BytesIO_seek : FuncData := fdt (cst 10 18) "seek" "BytesIO.seek" [] (.ref 223) .none .none (sv "io" 197) (.ref 229) .none none
def o230 (P : Params) : Obj := ⟨.type "function", none, .func f_BytesIO_seek, [].toArray⟩
def o239 (P : Params) : Obj := ⟨.type "tuple", none, .seq [.int (-1) 464].toArray 0, [].toArray⟩
def o245 (P : Params) : Obj := ⟨.type "code", none, .fields [sv "read" 465, sv "BytesIO.read" 466, sv "/claim/cut.py" 467, .int (127) 0, .int (2) 0, .int (2) 0, .int (0) 0, .int (3) 0, .ref 240, .bool true, .int (181) 0, .ref 241, .none, .ref 242, .ref 243, .ref 244, .int (472) 0, .int (127) 0, sv "/claim/cut.py" 473].toArray, [].toArray⟩
def f_BytesIO_read : FuncData := fdt (cst 10 20) "read" "BytesIO.read" [] (.ref 239) .none .none (sv "io" 197) (.ref 245) .none none
def o246 (P : Params) : Obj := ⟨.type "function", none, .func f_BytesIO_read, [].toArray⟩
def o304 (P : Params) : Obj := ⟨.type "code", none, .fields [sv "write" 536, sv "BytesIO.write" 537, sv "/claim/cut.py" 538, .int (181) 0, .int (2) 0, .int (2) 0, .int (0) 0, .int (3) 0, .ref 299, .bool true, .int (181) 0, .ref 300, .none, .ref 301, .ref 302, .ref 303, .int (543) 0, .int (181) 0, sv "/claim/cut.py" 544].toArray, [].toArray⟩
def f_BytesIO_write : FuncData := fdt (cst 10 28) "write" "BytesIO.write" [] .none .none .none (sv "io" 197) (.ref 304) .none none
def o305 (P : Params) : Obj := ⟨.type "function", none, .func f_BytesIO_write, [].toArray⟩
def o321 (P : Params) : Obj := ⟨.type "dict", none, .dict [de P "__module__" 312 (sv "_io" 317), de P "__firstlineno__" 316 (.int (32) 315), de P "__init__" 326 (.ref 109), de P "_BytesIO__check" 333 (.ref 116), de P "_BytesIO__line" 344 (.ref 123), de P "closed" 352 (.ref 131), de P "close" 359 (.ref 138), de P "__enter__" 366 (.ref 145), de P "__exit__" 374 (.ref 152), de P "readable" 381 (.ref 159), de P "writable" 388 (.ref 166), de P "seekable" 395 (.ref 173), de P "isatty" 402 (.ref 180), de P "flush" 409 (.ref 187), de P "fileno" 416 (.ref 194), de P "detach" 423 (.ref 201), de P "getvalue" 430 (.ref 208), de P "getbuffer" 437 (.ref 215), de P "tell" 444 (.ref 222), de P "seek" 454 (.ref 230), de P "truncate" 462 (.ref 238), de P "read" 474 (.ref 246), de P "read1" 484 (.ref 254), de P "readinto" 494 (.ref 261), de P "readinto1" 502 (.ref 268), de P "readline" 512 (.ref 276), de P "readlines" 520 (.ref 284), de P "__iter__" 527 (.ref 291), de P "__next__" 535 (.ref 298), de P "write" 545 (.ref 305), de P "writelines" 553 (.ref 312), de P "__repr__" 560 (.ref 319), de P "__static_attributes__" 563 (.ref 320), de P "__doc__" 564 .none].toArray 2, [].toArray⟩
def o322 (P : Params) : Obj := ⟨.type "type", none, .cls (cdt "BytesIO" "BytesIO" [.ref 80] [.ref 322, .ref 80, .ref 65, .type "object"] 321 [] true), [some (.ref 95), none, some (sv "BytesIO" 305), some (sv "BytesIO" 313), some .none, some (.bool true)].toArray⟩
def o584 (P : Params) : Obj := ⟨.type "code", none, .fields [sv "__init__" 868, sv "KaitaiStruct.__init__" 869, sv "/claim/cut.py" 870, .int (410) 0, .int (2) 0, .int (0) 0, .int (0) 0, .int (3) 0, .ref 579, .bool true, .int (181) 0, .ref 580, .none, .ref 581, .ref 582, .ref 583, .int (873) 0, .int (410) 0, sv "/claim/cut.py" 874].toArray, [].toArray⟩
def f_KaitaiStruct___init__ : FuncData := fdt (cst 13 0) "__init__" "KaitaiStruct.__init__" [] .none .none .none (sv "kaitaistruct" 854) (.ref 584) .none none
def o585 (P : Params) : Obj := ⟨.type "function", none, .func f_KaitaiStruct___init__, [].toArray⟩
def o598 (P : Params) : Obj := ⟨.type "code", none, .fields [sv "from_bytes" 883, sv "KaitaiStruct.from_bytes" 884, sv "/claim/cut.py" 885, .int (416) 0, .int (2) 0, .int (0) 0, .int (0) 0, .int (3) 0, .ref 593, .bool true, .int (181) 0, .ref 594, .none, .ref 595, .ref 596, .ref 597, .int (888) 0, .int (416) 0, sv "/claim/cut.py" 889].toArray, [].toArray⟩
def f_KaitaiStruct_from_bytes : FuncData := fdt (cst 13 2) "from_bytes" "KaitaiStruct.from_bytes" [] .none .none .none (sv "kaitaistruct" 854) (.ref 598) .none (some 602)
def o599 (P : Params) : Obj := ⟨.type "function", none, .func f_KaitaiStruct_from_bytes, [].toArray⟩
def o601 (P : Params) : Obj := ⟨.type "classmethod", some 600, .fields [.ref 599, .bool false].toArray, [].toArray⟩
def o614 (P : Params) : Obj := ⟨.type "dict", none, .dict [de P "__module__" 863 (sv "kaitaistruct" 854), de P "__firstlineno__" 867 (.int (408) 866), de P "__init__" 875 (.ref 585), de P "close" 882 (.ref 592), de P "from_bytes" 902 (.ref 601), de P "from_io" 922 (.ref 611), de P "__static_attributes__" 924 (.ref 613), de P "__dict__" 926 (.ref 616), de P "__weakref__" 928 (.ref 617), de P "__doc__" 929 .none].toArray 4, [].toArray⟩
def o615 (P : Params) : Obj := ⟨.type "type", none, .cls (cdt "KaitaiStruct" "KaitaiStruct" [.type "object"] [.ref 615, .type "object"] 614 [] true), [some (.ref 572), none, some (sv "KaitaiStruct" 856), some (sv "KaitaiStruct" 864), some (.builtin "object.__new__"), some (.bool true)].toArray⟩
def o632 (P : Params) : Obj := ⟨.type "code", none, .fields [sv "__init__" 944, sv "KaitaiStream.__init__" 945, sv "/claim/cut.py" 946, .int (425) 0, .int (2) 0, .int (0) 0, .int (0) 0, .int (3) 0, .ref 627, .bool true, .int (181) 0, .ref 628, .none, .ref 629, .ref 630, .ref 631, .int (949) 0, .int (425) 0, sv "/claim/cut.py" 950].toArray, [].toArray⟩
def f_KaitaiStream___init__ : FuncData := fdt (cst 14 0) "__init__" "KaitaiStream.__init__" [] .none .none .none (sv "kaitaistruct" 854) (.ref 632) .none none
def o633 (P : Params) : Obj := ⟨.type "function", none, .func f_KaitaiStream___init__, [].toArray⟩
def o646 (P : Params) : Obj := ⟨.type "code", none, .fields [sv "is_eof" 959, sv "KaitaiStream.is_eof" 960, sv "/claim/cut.py" 961, .int (446) 0, .int (1) 0, .int (0) 0, .int (0) 0, .int (3) 0, .ref 641, .bool true, .int (181) 0, .ref 642, .none, .ref 643, .ref 644, .ref 645, .int (963) 0, .int (446) 0, sv "/claim/cut.py" 964].toArray, [].toArray⟩
def f_KaitaiStream_is_eof : FuncData := fdt (cst 14 2) "is_eof" "KaitaiStream.is_eof" [] .none .none .none (sv "kaitaistruct" 854) (.ref 646) .none none
def o647 (P : Params) : Obj := ⟨.type "function", none, .func f_KaitaiStream_is_eof, [].toArray⟩
def o653 (P : Params) : Obj := ⟨.type "code", none, .fields [sv "seek" 966, sv "KaitaiStream.seek" 967, sv "/claim/cut.py" 968, .int (451) 0, .int (2) 0, .int (0) 0, .int (0) 0, .int (3) 0, .ref 648, .bool true, .int (181) 0, .ref 649, .none, .ref 650, .ref 651, .ref 652, .int (971) 0, .int (451) 0, sv "/claim/cut.py" 972].toArray, [].toArray⟩
def f_KaitaiStream_seek : FuncData := fdt (cst 14 3) "seek" "KaitaiStream.seek" [] .none .none .none (sv "kaitaistruct" 854) (.ref 653) .none none
def o654 (P : Params) : Obj := ⟨.type "function", none, .func f_KaitaiStream_seek, [].toArray⟩
def o660 (P : Params) : Obj := ⟨.type "code", none, .fields [sv "pos" 974, sv "KaitaiStream.pos" 975, sv "/claim/cut.py" 976, .int (460) 0, .int (1) 0, .int (0) 0, .int (0) 0, .int (3) 0, .ref 655, .bool true, .int (181) 0, .ref 656, .none, .ref 657, .ref 658, .ref 659, .int (978) 0, .int (460) 0, sv "/claim/cut.py" 979].toArray, [].toArray⟩
def f_KaitaiStream_pos : FuncData := fdt (cst 14 4) "pos" "KaitaiStream.pos" [] .none .none .none (sv "kaitaistruct" 854) (.ref 660) .none none
def o661 (P : Params) : Obj := ⟨.type "function", none, .func f_KaitaiStream_pos, [].toArray⟩
def o667 (P : Params) : Obj := ⟨.type "code", none, .fields [sv "size" 981, sv "KaitaiStream.size" 982, sv "/claim/cut.py" 983, .int (463) 0, .int (1) 0, .int (0) 0, .int (0) 0, .int (3) 0, .ref 662, .bool true, .int (181) 0, .ref 663, .none, .ref 664, .ref 665, .ref 666, .int (988) 0, .int (463) 0, sv "/claim/cut.py" 989].toArray, [].toArray⟩
def f_KaitaiStream_size : FuncData := fdt (cst 14 5) "size" "KaitaiStream.size" [] .none .none .none (sv "kaitaistruct" 854) (.ref 667) .none none
def o668 (P : Params) : Obj := ⟨.type "function", none, .func f_KaitaiStream_size, [].toArray⟩
def o723 (P : Params) : Obj := ⟨.type "code", none, .fields [sv "align_to_byte" 1040, sv "KaitaiStream.align_to_byte" 1041, sv "/claim/cut.py" 1042, .int (493) 0, .int (1) 0, .int (0) 0, .int (0) 0, .int (3) 0, .ref 718, .bool true, .int (181) 0, .ref 719, .none, .ref 720, .ref 721, .ref 722, .int (1044) 0, .int (493) 0, sv "/claim/cut.py" 1045].toArray, [].toArray⟩
def f_KaitaiStream_align_to_byte : FuncData := fdt (cst 14 13) "align_to_byte" "KaitaiStream.align_to_byte" [] .none .none .none (sv "kaitaistruct" 854) (.ref 723) .none none
def o724 (P : Params) : Obj := ⟨.type "function", none, .func f_KaitaiStream_align_to_byte, [].toArray⟩
def o730 (P : Params) : Obj := ⟨.type "code", none, .fields [sv "read_bits_int_be" 1047, sv "KaitaiStream.read_bits_int_be" 1048, sv "/claim/cut.py" 1049, .int (497) 0, .int (2) 0, .int (0) 0, .int (0) 0, .int (3) 0, .ref 725, .bool true, .int (181) 0, .ref 726, .none, .ref 727, .ref 728, .ref 729, .int (1059) 0, .int (497) 0, sv "/claim/cut.py" 1060].toArray, [].toArray⟩
def f_KaitaiStream_read_bits_int_be : FuncData := fdt (cst 14 14) "read_bits_int_be" "KaitaiStream.read_bits_int_be" [] .none .none .none (sv "kaitaistruct" 854) (.ref 730) .none none
def o731 (P : Params) : Obj := ⟨.type "function", none, .func f_KaitaiStream_read_bits_int_be, [].toArray⟩
def o758 (P : Params) : Obj := ⟨.type "code", none, .fields [sv "_read_bytes_not_aligned" 1086, sv "KaitaiStream._read_bytes_not_aligned" 1087, sv "/claim/cut.py" 1088, .int (527) 0, .int (2) 0, .int (0) 0, .int (0) 0, .int (3) 0, .ref 753, .bool true, .int (181) 0, .ref 754, .none, .ref 755, .ref 756, .ref 757, .int (1094) 0, .int (527) 0, sv "/claim/cut.py" 1095].toArray, [].toArray⟩
def f_KaitaiStream__read_bytes_not_aligned : FuncData := fdt (cst 14 18) "_read_bytes_not_aligned" "KaitaiStream._read_bytes_not_aligned" [] .none .none .none (sv "kaitaistruct" 854) (.ref 758) .none none
def o759 (P : Params) : Obj := ⟨.type "function", none, .func f_KaitaiStream__read_bytes_not_aligned, [].toArray⟩
def o765 (P : Params) : Obj := ⟨.type "code", none, .fields [sv "read_bytes_full" 1097, sv "KaitaiStream.read_bytes_full" 1098, sv "/claim/cut.py" 1099, .int (542) 0, .int (1) 0, .int (0) 0, .int (0) 0, .int (3) 0, .ref 760, .bool true, .int (181) 0, .ref 761, .none, .ref 762, .ref 763, .ref 764, .int (1101) 0, .int (542) 0, sv "/claim/cut.py" 1102].toArray, [].toArray⟩
def f_KaitaiStream_read_bytes_full : FuncData := fdt (cst 14 19) "read_bytes_full" "KaitaiStream.read_bytes_full" [] .none .none .none (sv "kaitaistruct" 854) (.ref 765) .none none
def o766 (P : Params) : Obj := ⟨.type "function", none, .func f_KaitaiStream_read_bytes_full, [].toArray⟩
def o823 (P : Params) : Obj := ⟨.type "code", none, .fields [sv "_ensure_bytes_left_to_write" 1196, sv "KaitaiStream._ensure_bytes_left_to_write" 1197, sv "/claim/cut.py" 1198, .int (567) 0, .int (3) 0, .int (0) 0, .int (0) 0, .int (3) 0, .ref 818, .bool true, .int (181) 0, .ref 819, .none, .ref 820, .ref 821, .ref 822, .int (1204) 0, .int (567) 0, sv "/claim/cut.py" 1205].toArray, [].toArray⟩
def f_KaitaiStream__ensure_bytes_left_to_write : FuncData := fdt (cst 14 26) "_ensure_bytes_left_to_write" "KaitaiStream._ensure_bytes_left_to_write" [] .none .none .none (sv "kaitaistruct" 854) (.ref 823) .none none
def o824 (P : Params) : Obj := ⟨.type "function", none, .func f_KaitaiStream__ensure_bytes_left_to_write, [].toArray⟩
def o879 (P : Params) : Obj := ⟨.type "code", none, .fields [sv "write_align_to_byte" 1263, sv "KaitaiStream.write_align_to_byte" 1264, sv "/claim/cut.py" 1265, .int (597) 0, .int (1) 0, .int (0) 0, .int (0) 0, .int (3) 0, .ref 874, .bool true, .int (181) 0, .ref 875, .none, .ref 876, .ref 877, .ref 878, .int (1268) 0, .int (597) 0, sv "/claim/cut.py" 1269].toArray, [].toArray⟩
def f_KaitaiStream_write_align_to_byte : FuncData := fdt (cst 14 34) "write_align_to_byte" "KaitaiStream.write_align_to_byte" [] .none .none .none (sv "kaitaistruct" 854) (.ref 879) .none none
def o880 (P : Params) : Obj := ⟨.type "function", none, .func f_KaitaiStream_write_align_to_byte, [].toArray⟩
def o886 (P : Params) : Obj := ⟨.type "code", none, .fields [sv "write_bits_int_be" 1271, sv "KaitaiStream.write_bits_int_be" 1272, sv "/claim/cut.py" 1273, .int (605) 0, .int (3) 0, .int (0) 0, .int (0) 0, .int (3) 0, .ref 881, .bool true, .int (181) 0, .ref 882, .none, .ref 883, .ref 884, .ref 885, .int (1284) 0, .int (605) 0, sv "/claim/cut.py" 1285].toArray, [].toArray⟩
def f_KaitaiStream_write_bits_int_be : FuncData := fdt (cst 14 35) "write_bits_int_be" "KaitaiStream.write_bits_int_be" [] .none .none .none (sv "kaitaistruct" 854) (.ref 886) .none none
def o887 (P : Params) : Obj := ⟨.type "function", none, .func f_KaitaiStream_write_bits_int_be, [].toArray⟩
def o907 (P : Params) : Obj := ⟨.type "code", none, .fields [sv "_write_bytes_not_aligned" 1304, sv "KaitaiStream._write_bytes_not_aligned" 1305, sv "/claim/cut.py" 1306, .int (634) 0, .int (2) 0, .int (0) 0, .int (0) 0, .int (3) 0, .ref 902, .bool true, .int (181) 0, .ref 903, .none, .ref 904, .ref 905, .ref 906, .int (1310) 0, .int (634) 0, sv "/claim/cut.py" 1311].toArray, [].toArray⟩
def f_KaitaiStream__write_bytes_not_aligned : FuncData := fdt (cst 14 38) "_write_bytes_not_aligned" "KaitaiStream._write_bytes_not_aligned" [] .none .none .none (sv "kaitaistruct" 854) (.ref 907) .none none
def o908 (P : Params) : Obj := ⟨.type "function", none, .func f_KaitaiStream__write_bytes_not_aligned, [].toArray⟩
def o961 (P : Params) : Obj := ⟨.type "code", none, .fields [sv "byte_from_int" 1404, sv "KaitaiStream.byte_from_int" 1405, sv "/claim/cut.py" 1406, .int (658) 0, .int (1) 0, .int (0) 0, .int (0) 0, .int (3) 0, .ref 956, .bool true, .int (181) 0, .ref 957, .none, .ref 958, .ref 959, .ref 960, .int (1408) 0, .int (658) 0, sv "/claim/cut.py" 1409].toArray, [].toArray⟩
def f_KaitaiStream_byte_from_int : FuncData := fdt (cst 14 44) "byte_from_int" "KaitaiStream.byte_from_int" [] .none .none .none (sv "kaitaistruct" 854) (.ref 961) .none (some 965)
def o962 (P : Params) : Obj := ⟨.type "function", none, .func f_KaitaiStream_byte_from_int, [].toArray⟩
def o964 (P : Params) : Obj := ⟨.type "staticmethod", some 963, .fields [.ref 962, .bool false].toArray, [].toArray⟩
def o1021 (P : Params) : Obj := ⟨.type "code", none, .fields [sv "to_byte_array" 1521, sv "KaitaiStream.to_byte_array" 1522, sv "/claim/cut.py" 1523, .int (682) 0, .int (1) 0, .int (0) 0, .int (0) 0, .int (3) 0, .ref 1016, .bool true, .int (181) 0, .ref 1017, .none, .ref 1018, .ref 1019, .ref 1020, .int (1527) 0, .int (682) 0, sv "/claim/cut.py" 1528].toArray, [].toArray⟩
def f_KaitaiStream_to_byte_array : FuncData := fdt (cst 14 50) "to_byte_array" "KaitaiStream.to_byte_array" [] .none .none .none (sv "kaitaistruct" 854) (.ref 1021) .none none
def o1022 (P : Params) : Obj := ⟨.type "function", none, .func f_KaitaiStream_to_byte_array, [].toArray⟩
def o1046 (P : Params) : Obj := ⟨.type "dict", none, .dict [de P "__module__" 939 (sv "kaitaistruct" 854), de P "__firstlineno__" 943 (.int (423) 942), de P "__init__" 951 (.ref 633), de P "close" 958 (.ref 640), de P "is_eof" 965 (.ref 647), de P "seek" 973 (.ref 654), de P "pos" 980 (.ref 661), de P "size" 990 (.ref 668), de P "read_s1" 997 (.ref 675), de P "read_s4be" 1004 (.ref 682), de P "read_s2le" 1011 (.ref 689), de P "read_u1" 1018 (.ref 696), de P "read_u2be" 1025 (.ref 703), de P "read_u8be" 1032 (.ref 710), de P "read_u4le" 1039 (.ref 717), de P "align_to_byte" 1046 (.ref 724), de P "read_bits_int_be" 1061 (.ref 731), de P "read_bits_int" 1069 (.ref 738), de P "read_bits_int_le" 1077 (.ref 745), de P "read_bytes" 1085 (.ref 752), de P "_read_bytes_not_aligned" 1096 (.ref 759), de P "read_bytes_full" 1103 (.ref 766), de P "read_bytes_term" 1114 (.ref 773), de P "read_bytes_term_multi" 1125 (.ref 780), de P "ensure_fixed_contents" 1133 (.ref 787), de P "bytes_strip_right" 1153 (.ref 796), de P "bytes_terminate" 1174 (.ref 806), de P "bytes_terminate_multi" 1195 (.ref 816), de P "_ensure_bytes_left_to_write" 1206 (.ref 824), de P "write_s1" 1214 (.ref 831), de P "write_s4be" 1222 (.ref 838), de P "write_s2le" 1230 (.ref 845), de P "write_u1" 1238 (.ref 852), de P "write_u2be" 1246 (.ref 859), de P "write_u8be" 1254 (.ref 866), de P "write_u4le" 1262 (.ref 873), de P "write_align_to_byte" 1270 (.ref 880), de P "write_bits_int_be" 1286 (.ref 887), de P "write_bits_int_le" 1295 (.ref 894), de P "write_bytes" 1303 (.ref 901), de P "_write_bytes_not_aligned" 1312 (.ref 908), de P "write_bytes_limit" 1323 (.ref 915), de P "process_xor_one" 1343 (.ref 924), de P "process_xor_many" 1363 (.ref 934), de P "process_rotate_left" 1384 (.ref 944), de P "int_from_byte" 1403 (.ref 954), de P "byte_from_int" 1422 (.ref 964), de P "byte_array_index" 1442 (.ref 974), de P "byte_array_min" 1461 (.ref 984), de P "byte_array_max" 1480 (.ref 994), de P "byte_array_index_of" 1500 (.ref 1004), de P "resolve_enum" 1520 (.ref 1014), de P "to_byte_array" 1529 (.ref 1022), de P "add_child_stream" 1537 (.ref 1029), de P "write_back_child_streams" 1545 (.ref 1037), de P "_write_back" 1553 (.ref 1044), de P "__static_attributes__" 1562 (.ref 1045), de P "__dict__" 1564 (.ref 1048), de P "__weakref__" 1566 (.ref 1049), de P "__doc__" 1567 .none].toArray 4, [].toArray⟩
def o1047 (P : Params) : Obj := ⟨.type "type", none, .cls (cdt "KaitaiStream" "KaitaiStream" [.type "object"] [.ref 1047, .type "object"] 1046 [] true), [some (.ref 620), none, some (sv "KaitaiStream" 932), some (sv "KaitaiStream" 940), some (.builtin "object.__new__"), some (.bool true)].toArray⟩
def o1055 (P : Params) : Obj := ⟨.type "cell", none, .cell (some (.ref 1070)), [].toArray⟩
def o1066 (P : Params) : Obj := ⟨.type "code", none, .fields [sv "__init__" 1582, sv "KaitaiStructError.__init__" 1583, sv "/claim/cut.py" 1584, .int (699) 0, .int (3) 0, .int (0) 0, .int (0) 0, .int (3) 0, .ref 1061, .bool true, .int (181) 0, .ref 1062, .none, .ref 1063, .ref 1064, .ref 1065, .int (1589) 0, .int (699) 0, sv "/claim/cut.py" 1590].toArray, [].toArray⟩
def f_KaitaiStructError___init__ : FuncData := fdt (cst 15 0) "__init__" "KaitaiStructError.__init__" [("__class__", 1055)] .none .none .none (sv "kaitaistruct" 854) (.ref 1066) (.ref 1060) none
def o1067 (P : Params) : Obj := ⟨.type "function", none, .func f_KaitaiStructError___init__, [].toArray⟩
def o1069 (P : Params) : Obj := ⟨.type "dict", none, .dict [de P "__module__" 1577 (sv "kaitaistruct" 854), de P "__firstlineno__" 1581 (.int (697) 1580), de P "__init__" 1591 (.ref 1067), de P "__static_attributes__" 1593 (.ref 1068), de P "__weakref__" 1596 (.ref 1071), de P "__doc__" 1597 .none].toArray 4, [].toArray⟩
def o1070 (P : Params) : Obj := ⟨.type "type", none, .cls (cdt "KaitaiStructError" "KaitaiStructError" [.type "Exception"] [.ref 1070, .type "Exception", .type "BaseException", .type "object"] 1069 [.ref 1092, .ref 1113] true), [some (.ref 1052), none, some (sv "KaitaiStructError" 1570), some (sv "KaitaiStructError" 1578), some (.builtin "Exception.__new__"), some (.bool true)].toArray⟩
def o1077 (P : Params) : Obj := ⟨.type "cell", none, .cell (some (.ref 1092)), [].toArray⟩
def o1088 (P : Params) : Obj := ⟨.type "code", none, .fields [sv "__init__" 1614, sv "InvalidArgumentError.__init__" 1615, sv "/claim/cut.py" 1616, .int (704) 0, .int (2) 0, .int (0) 0, .int (0) 0, .int (3) 0, .ref 1083, .bool true, .int (181) 0, .ref 1084, .none, .ref 1085, .ref 1086, .ref 1087, .int (1620) 0, .int (704) 0, sv "/claim/cut.py" 1621].toArray, [].toArray⟩
def f_InvalidArgumentError___init__ : FuncData := fdt (cst 16 0) "__init__" "InvalidArgumentError.__init__" [("__class__", 1077)] .none .none .none (sv "kaitaistruct" 854) (.ref 1088) (.ref 1082) none
def o1089 (P : Params) : Obj := ⟨.type "function", none, .func f_InvalidArgumentError___init__, [].toArray⟩
def o1091 (P : Params) : Obj := ⟨.type "dict", none, .dict [de P "__module__" 1609 (sv "kaitaistruct" 854), de P "__firstlineno__" 1613 (.int (702) 1612), de P "__init__" 1622 (.ref 1089), de P "__static_attributes__" 1623 (.ref 1090), de P "__doc__" 1625 .none].toArray 3, [].toArray⟩
def o1092 (P : Params) : Obj := ⟨.type "type", none, .cls (cdt "InvalidArgumentError" "InvalidArgumentError" [.ref 1070, .type "ValueError"] [.ref 1092, .ref 1070, .type "ValueError", .type "Exception", .type "BaseException", .type "object"] 1091 [] true), [some (.ref 1074), none, some (sv "InvalidArgumentError" 1602), some (sv "InvalidArgumentError" 1610), some (.builtin "Exception.__new__"), some (.bool true)].toArray⟩
def o1098 (P : Params) : Obj := ⟨.type "cell", none, .cell (some (.ref 1113)), [].toArray⟩
def o1109 (P : Params) : Obj := ⟨.type "code", none, .fields [sv "__init__" 1640, sv "EndOfStreamError.__init__" 1641, sv "/claim/cut.py" 1642, .int (708) 0, .int (4) 0, .int (0) 0, .int (0) 0, .int (3) 0, .ref 1104, .bool true, .int (181) 0, .ref 1105, .none, .ref 1106, .ref 1107, .ref 1108, .int (1648) 0, .int (708) 0, sv "/claim/cut.py" 1649].toArray, [].toArray⟩
def f_EndOfStreamError___init__ : FuncData := fdt (cst 17 0) "__init__" "EndOfStreamError.__init__" [("__class__", 1098)] .none .none .none (sv "kaitaistruct" 854) (.ref 1109) (.ref 1103) none
def o1110 (P : Params) : Obj := ⟨.type "function", none, .func f_EndOfStreamError___init__, [].toArray⟩
def o1112 (P : Params) : Obj := ⟨.type "dict", none, .dict [de P "__module__" 1635 (sv "kaitaistruct" 854), de P "__firstlineno__" 1639 (.int (706) 1638), de P "__init__" 1650 (.ref 1110), de P "__static_attributes__" 1653 (.ref 1111), de P "__doc__" 1655 .none].toArray 3, [].toArray⟩
def o1113 (P : Params) : Obj := ⟨.type "type", none, .cls (cdt "EndOfStreamError" "EndOfStreamError" [.ref 1070, .type "EOFError"] [.ref 1113, .ref 1070, .type "EOFError", .type "Exception", .type "BaseException", .type "object"] 1112 [] true), [some (.ref 1095), none, some (sv "EndOfStreamError" 1628), some (sv "EndOfStreamError" 1636), some (.builtin "Exception.__new__"), some (.bool true)].toArray⟩
def o1121 (P : Params) : Obj := ⟨.type "code", none, .fields [sv "_law_vectors" 1664, sv "_law_vectors" 1665, sv "/claim/cut.py" 1666, .int (714) 0, .int (0) 0, .int (0) 0, .int (0) 0, .int (3) 0, .ref 1116, .bool true, .int (181) 0, .ref 1117, .none, .ref 1118, .ref 1119, .ref 1120, .int (1667) 0, .int (714) 0, sv "/claim/cut.py" 1668].toArray, [].toArray⟩
def f__law_vectors : FuncData := fdt (tst 20) "_law_vectors" "_law_vectors" [] .none .none .none (sv "law_br5014_04" 1660) (.ref 1121) .none none
def o1122 (P : Params) : Obj := ⟨.type "function", none, .func f__law_vectors, [].toArray⟩
def o1128 (P : Params) : Obj := ⟨.type "code", none, .fields [sv "_law_plain_groups" 1670, sv "_law_plain_groups" 1671, sv "/claim/cut.py" 1672, .int (716) 0, .int (1) 0, .int (0) 0, .int (0) 0, .int (3) 0, .ref 1123, .bool true, .int (181) 0, .ref 1124, .none, .ref 1125, .ref 1126, .ref 1127, .int (1680) 0, .int (716) 0, sv "/claim/cut.py" 1681].toArray, [].toArray⟩
def f__law_plain_groups : FuncData := fdt (tst 21) "_law_plain_groups" "_law_plain_groups" [] .none .none .none (sv "law_br5014_04" 1660) (.ref 1128) .none none
def o1129 (P : Params) : Obj := ⟨.type "function", none, .func f__law_plain_groups, [].toArray⟩
def o1135 (P : Params) : Obj := ⟨.type "code", none, .fields [sv "_law_text" 1683, sv "_law_text" 1684, sv "/claim/cut.py" 1685, .int (726) 0, .int (2) 0, .int (0) 0, .int (0) 0, .int (3) 0, .ref 1130, .bool true, .int (181) 0, .ref 1131, .none, .ref 1132, .ref 1133, .ref 1134, .int (1690) 0, .int (726) 0, sv "/claim/cut.py" 1691].toArray, [].toArray⟩
def f__law_text : FuncData := fdt (tst 22) "_law_text" "_law_text" [] .none .none .none (sv "law_br5014_04" 1660) (.ref 1135) .none none
def o1136 (P : Params) : Obj := ⟨.type "function", none, .func f__law_text, [].toArray⟩
def o1142 (P : Params) : Obj := ⟨.type "code", none, .fields [sv "_law_read" 1693, sv "_law_read" 1694, sv "/claim/cut.py" 1695, .int (731) 0, .int (1) 0, .int (0) 0, .int (0) 0, .int (3) 0, .ref 1137, .bool true, .int (181) 0, .ref 1138, .none, .ref 1139, .ref 1140, .ref 1141, .int (1700) 0, .int (731) 0, sv "/claim/cut.py" 1701].toArray, [].toArray⟩
def f__law_read : FuncData := fdt (tst 23) "_law_read" "_law_read" [] .none .none .none (sv "law_br5014_04" 1660) (.ref 1142) .none none
def o1143 (P : Params) : Obj := ⟨.type "function", none, .func f__law_read, [].toArray⟩
def o1149 (P : Params) : Obj := ⟨.type "code", none, .fields [sv "_law_sextets" 1703, sv "_law_sextets" 1704, sv "/claim/cut.py" 1705, .int (745) 0, .int (1) 0, .int (0) 0, .int (0) 0, .int (3) 0, .ref 1144, .bool true, .int (181) 0, .ref 1145, .none, .ref 1146, .ref 1147, .ref 1148, .int (1709) 0, .int (745) 0, sv "/claim/cut.py" 1710].toArray, [].toArray⟩
def f__law_sextets : FuncData := fdt (tst 24) "_law_sextets" "_law_sextets" [] .none .none .none (sv "law_br5014_04" 1660) (.ref 1149) .none none
def o1150 (P : Params) : Obj := ⟨.type "function", none, .func f__law_sextets, [].toArray⟩
def o1156 (P : Params) : Obj := ⟨.type "code", none, .fields [sv "_law_write" 1712, sv "_law_write" 1713, sv "/claim/cut.py" 1714, .int (751) 0, .int (2) 0, .int (0) 0, .int (0) 0, .int (3) 0, .ref 1151, .bool true, .int (181) 0, .ref 1152, .none, .ref 1153, .ref 1154, .ref 1155, .int (1720) 0, .int (751) 0, sv "/claim/cut.py" 1721].toArray, [].toArray⟩
def f__law_write : FuncData := fdt (tst 25) "_law_write" "_law_write" [] .none .none .none (sv "law_br5014_04" 1660) (.ref 1156) .none none
def o1157 (P : Params) : Obj := ⟨.type "function", none, .func f__law_write, [].toArray⟩
def o1161 (P : Params) : Obj := ⟨.type "code", none, .fields [sv "_law_round" 1723, sv "_law_round" 1724, sv "/claim/cut.py" 1725, .int (761) 0, .int (1) 0, .int (0) 0, .int (0) 0, .int (3) 0, .ref 1158, .bool true, .int (181) 0, .ref 1159, .none, .none, .none, .ref 1160, .int (1726) 0, .int (761) 0, sv "/claim/cut.py" 1727].toArray, [].toArray⟩
def f__law_round : FuncData := fdt (tst 26) "_law_round" "_law_round" [] .none .none .none (sv "law_br5014_04" 1660) (.ref 1161) .none none
def o1162 (P : Params) : Obj := ⟨.type "function", none, .func f__law_round, [].toArray⟩
def o1166 (P : Params) : Obj := ⟨.type "code", none, .fields [sv "law" 1729, sv "law" 1730, sv "/claim/cut.py" 1731, .int (770) 0, .int (1) 0, .int (0) 0, .int (0) 0, .int (3) 0, .ref 1163, .bool true, .int (181) 0, .ref 1164, .none, .none, .none, .ref 1165, .int (1732) 0, .int (770) 0, sv "/claim/cut.py" 1733].toArray, [].toArray⟩
def f_law : FuncData := fdt (tst 27) "law" "law" [] .none .none .none (sv "law_br5014_04" 1660) (.ref 1166) .none none
def o1167 (P : Params) : Obj := ⟨.type "function", none, .func f_law, [].toArray⟩
def kap (P : Params) : Frag := [(2, o2 P), (3, o3 P), (27, o27 P), (28, o28 P), (34, o34 P), (35, o35 P), (61, o61 P), (62, o62 P), (64, o64 P), (65, o65 P), (66, o66 P), (79, o79 P), (80, o80 P), (102, o102 P), (108, o108 P), (109, o109 P), (115, o115 P), (116, o116 P), (172, o172 P), (173, o173 P), (221, o221 P), (222, o222 P), (223, o223 P), (229, o229 P), (230, o230 P), (239, o239 P), (245, o245 P), (246, o246 P), (304, o304 P), (305, o305 P), (321, o321 P), (322, o322 P), (584, o584 P), (585, o585 P), (598, o598 P), (599, o599 P), (601, o601 P), (614, o614 P), (615, o615 P), (632, o632 P), (633, o633 P), (646, o646 P), (647, o647 P), (653, o653 P), (654, o654 P), (660, o660 P), (661, o661 P), (667, o667 P), (668, o668 P), (723, o723 P), (724, o724 P), (730, o730 P), (731, o731 P), (758, o758 P), (759, o759 P), (765, o765 P), (766, o766 P), (823, o823 P), (824, o824 P), (879, o879 P), (880, o880 P), (886, o886 P), (887, o887 P), (907, o907 P), (908, o908 P), (961, o961 P), (962, o962 P), (964, o964 P), (1021, o1021 P), (1022, o1022 P), (1046, o1046 P), (1047, o1047 P), (1055, o1055 P), (1066, o1066 P), (1067, o1067 P), (1069, o1069 P), (1070, o1070 P), (1077, o1077 P), (1088, o1088 P), (1089, o1089 P), (1091, o1091 P), (1092, o1092 P), (1098, o1098 P), (1109, o1109 P), (1110, o1110 P), (1112, o1112 P), (1113, o1113 P), (1121, o1121 P), (1122, o1122 P), (1128, o1128 P), (1129, o1129 P), (1135, o1135 P), (1136, o1136 P), (1142, o1142 P), (1143, o1143 P), (1149, o1149 P), (1150, o1150 P), (1156, o1156 P), (1157, o1157 P), (1161, o1161 P), (1162, o1162 P), (1166, o1166 P), (1167, o1167 P)]
def kas : List Addr := [2, 3, 27, 28, 34, 35, 61, 62, 64, 65, 66, 79, 80, 102, 108, 109, 115, 116, 172, 173, 221, 222, 223, 229, 230, 239, 245, 246, 304, 305, 321, 322, 584, 585, 598, 599, 601, 614, 615, 632, 633, 646, 647, 653, 654, 660, 661, 667, 668, 723, 724, 730, 731, 758, 759, 765, 766, 823, 824, 879, 880, 886, 887, 907, 908, 961, 962, 964, 1021, 1022, 1046, 1047, 1055, 1066, 1067, 1069, 1070, 1077, 1088, 1089, 1091, 1092, 1098, 1109, 1110, 1112, 1113, 1121, 1122, 1128, 1129, 1135, 1136, 1142, 1143, 1149, 1150, 1156, 1157, 1161, 1162, 1166, 1167]
def W0 (P : Params) (ns : List Int) : Wd := ⟨kap P, ns, [322]⟩
end Mine
end
/-! part Fbr5014_04 -/
section
open PySem PySem.W PySem.Calls PyProof.Rows
namespace Mine
section
variable {P : Params} {ns : List Int}
theorem gv_AttributeError : globV (W0 P ns).K "AttributeError" = some (.type "AttributeError") := by kernel_rfl
theorem gv_BytesIO : globV (W0 P ns).K "BytesIO" = some (.top 322) := by kernel_rfl
theorem gv_EndOfStreamError : globV (W0 P ns).K "EndOfStreamError" = some (.top 1113) := by kernel_rfl
theorem gv_InvalidArgumentError : globV (W0 P ns).K "InvalidArgumentError" = some (.top 1092) := by kernel_rfl
theorem gv_KaitaiStream : globV (W0 P ns).K "KaitaiStream" = some (.top 1047) := by kernel_rfl
theorem gv_KaitaiStruct : globV (W0 P ns).K "KaitaiStruct" = some (.top 615) := by kernel_rfl
theorem gv_KaitaiStructError : globV (W0 P ns).K "KaitaiStructError" = some (.top 1070) := by kernel_rfl
theorem gv_OSError : globV (W0 P ns).K "OSError" = some (.type "OSError") := by kernel_rfl
theorem gv_PY2 : globV (W0 P ns).K "PY2" = some (.bool false) := by kernel_rfl
theorem gv_SEEK_END : globV (W0 P ns).K "SEEK_END" = some (.int (2)) := by kernel_rfl
theorem gv_ValueError : globV (W0 P ns).K "ValueError" = some (.type "ValueError") := by kernel_rfl
theorem gv__index : globV (W0 P ns).K "_index" = some (.top 35) := by kernel_rfl
-- global _law_alphabet
theorem gv__law_plain_groups : globV (W0 P ns).K "_law_plain_groups" = some (.top 1129) := by kernel_rfl
theorem gv__law_read : globV (W0 P ns).K "_law_read" = some (.top 1143) := by kernel_rfl
theorem gv__law_round : globV (W0 P ns).K "_law_round" = some (.top 1162) := by kernel_rfl
theorem gv__law_sextets : globV (W0 P ns).K "_law_sextets" = some (.top 1150) := by kernel_rfl
theorem gv__law_text : globV (W0 P ns).K "_law_text" = some (.top 1136) := by kernel_rfl
theorem gv__law_vectors : globV (W0 P ns).K "_law_vectors" = some (.top 1122) := by kernel_rfl
theorem gv__law_write : globV (W0 P ns).K "_law_write" = some (.top 1157) := by kernel_rfl
theorem gv__whence : globV (W0 P ns).K "_whence" = some (.top 28) := by kernel_rfl
theorem gv_bool : globV (W0 P ns).K "bool" = some (.type "bool") := by kernel_rfl
theorem gv_bytearray : globV (W0 P ns).K "bytearray" = some (.type "bytearray") := by kernel_rfl
theorem gv_bytes : globV (W0 P ns).K "bytes" = some (.type "bytes") := by kernel_rfl
theorem gv_callable : globV (W0 P ns).K "callable" = some (.blt "callable") := by kernel_rfl
theorem gv_chr : globV (W0 P ns).K "chr" = some (.blt "chr") := by kernel_rfl
theorem gv_getattr : globV (W0 P ns).K "getattr" = some (.blt "getattr") := by kernel_rfl
theorem gv_int : globV (W0 P ns).K "int" = some (.type "int") := by kernel_rfl
theorem gv_len : globV (W0 P ns).K "len" = some (.blt "len") := by kernel_rfl
theorem gv_object : globV (W0 P ns).K "object" = some (.type "object") := by kernel_rfl
theorem gv_ord : globV (W0 P ns).K "ord" = some (.blt "ord") := by kernel_rfl
theorem gv_range : globV (W0 P ns).K "range" = some (.type "range") := by kernel_rfl
theorem gv_str : globV (W0 P ns).K "str" = some (.type "str") := by kernel_rfl
theorem gv_super : globV (W0 P ns).K "super" = some (.type "super") := by kernel_rfl
theorem gv_type : globV (W0 P ns).K "type" = some (.type "type") := by kernel_rfl
theorem fn__whence : FnIs (W0 P ns).K 28 f__whence (stm f__whence) := ⟨⟨_, _, _, rfl⟩, rfl, by kernel_rfl⟩
theorem ck__whence : callable (W0 P ns).K (.top 28) = true := by kernel_rfl
theorem fn__index : FnIs (W0 P ns).K 35 f__index (stm f__index) := ⟨⟨_, _, _, rfl⟩, rfl, by kernel_rfl⟩
theorem ck__index : callable (W0 P ns).K (.top 35) = true := by kernel_rfl
theorem fn_IOBase___new__ : FnIs (W0 P ns).K 62 f_IOBase___new__ (stm f_IOBase___new__) := ⟨⟨_, _, _, rfl⟩, rfl, by kernel_rfl⟩
theorem ck_IOBase___new__ : callable (W0 P ns).K (.top 62) = true := by kernel_rfl
theorem cc_IOBase : callable (W0 P ns).K (.top 65) = true := by kernel_rfl
theorem mk_IOBase : makesIn (W0 P ns).K 65 = false := by kernel_rfl
theorem nd_IOBase : newDefIn (W0 P ns).K 65 = some 62 := by kernel_rfl
theorem cm_IOBase___new__ : clsMeth (W0 P ns).K 65 "__new__" = some ((.top 62), []) := by kernel_rfl
theorem cm2_IOBase___new__ : callable (W0 P ns).K (.top 62) = true := by kernel_rfl
theorem cc_BufferedIOBase : callable (W0 P ns).K (.top 80) = true := by kernel_rfl
theorem mk_BufferedIOBase : makesIn (W0 P ns).K 80 = false := by kernel_rfl
theorem nd_BufferedIOBase : newDefIn (W0 P ns).K 80 = some 62 := by kernel_rfl
theorem cm_BufferedIOBase___new__ : clsMeth (W0 P ns).K 80 "__new__" = some ((.top 62), []) := by kernel_rfl
theorem cm2_BufferedIOBase___new__ : callable (W0 P ns).K (.top 62) = true := by kernel_rfl
theorem fn_BytesIO___init__ : FnIs (W0 P ns).K 109 f_BytesIO___init__ (stm f_BytesIO___init__) := ⟨⟨_, _, _, rfl⟩, rfl, by kernel_rfl⟩
theorem ck_BytesIO___init__ : callable (W0 P ns).K (.top 109) = true := by kernel_rfl
theorem fn_BytesIO___check : FnIs (W0 P ns).K 116 f_BytesIO___check (stm f_BytesIO___check) := ⟨⟨_, _, _, rfl⟩, rfl, by kernel_rfl⟩
theorem ck_BytesIO___check : callable (W0 P ns).K (.top 116) = true := by kernel_rfl
theorem fn_BytesIO_seekable : FnIs (W0 P ns).K 173 f_BytesIO_seekable (stm f_BytesIO_seekable) := ⟨⟨_, _, _, rfl⟩, rfl, by kernel_rfl⟩
theorem ck_BytesIO_seekable : callable (W0 P ns).K (.top 173) = true := by kernel_rfl
theorem fn_BytesIO_tell : FnIs (W0 P ns).K 222 f_BytesIO_tell (stm f_BytesIO_tell) := ⟨⟨_, _, _, rfl⟩, rfl, by kernel_rfl⟩
theorem ck_BytesIO_tell : callable (W0 P ns).K (.top 222) = true := by kernel_rfl
theorem fn_BytesIO_seek : FnIs (W0 P ns).K 230 f_BytesIO_seek (stm f_BytesIO_seek) := ⟨⟨_, _, _, rfl⟩, rfl, by kernel_rfl⟩
theorem ck_BytesIO_seek : callable (W0 P ns).K (.top 230) = true := by kernel_rfl
theorem fn_BytesIO_read : FnIs (W0 P ns).K 246 f_BytesIO_read (stm f_BytesIO_read) := ⟨⟨_, _, _, rfl⟩, rfl, by kernel_rfl⟩
theorem ck_BytesIO_read : callable (W0 P ns).K (.top 246) = true := by kernel_rfl
theorem fn_BytesIO_write : FnIs (W0 P ns).K 305 f_BytesIO_write (stm f_BytesIO_write) := ⟨⟨_, _, _, rfl⟩, rfl, by kernel_rfl⟩
theorem ck_BytesIO_write : callable (W0 P ns).K (.top 305) = true := by kernel_rfl
theorem cc_BytesIO : callable (W0 P ns).K (.top 322) = true := by kernel_rfl
theorem mk_BytesIO : makesIn (W0 P ns).K 322 = false := by kernel_rfl
theorem nd_BytesIO : newDefIn (W0 P ns).K 322 = some 62 := by kernel_rfl
theorem fi_BytesIO : findIn (W0 P ns).K (.ref 322) "__init__" = some (some (.ref 109)) := by kernel_rfl
theorem if_BytesIO : isFn (W0 P ns).K (.ref 109) = true := by kernel_rfl
theorem ga_BytesIO__BytesIO__buf : getOk (W0 P ns).K 322 "_BytesIO__buf" = true := by kernel_rfl
theorem sa_BytesIO__BytesIO__buf : setOk (W0 P ns).K 322 "_BytesIO__buf" = true := by kernel_rfl
theorem ga_BytesIO__BytesIO__pos : getOk (W0 P ns).K 322 "_BytesIO__pos" = true := by kernel_rfl
theorem sa_BytesIO__BytesIO__pos : setOk (W0 P ns).K 322 "_BytesIO__pos" = true := by kernel_rfl
theorem me_BytesIO__BytesIO__check : methIn (W0 P ns).K 322 "_BytesIO__check" = some 116 := by kernel_rfl
theorem me_BytesIO___init__ : methIn (W0 P ns).K 322 "__init__" = some 109 := by kernel_rfl
theorem cm_BytesIO___new__ : clsMeth (W0 P ns).K 322 "__new__" = some ((.top 62), []) := by kernel_rfl
theorem cm2_BytesIO___new__ : callable (W0 P ns).K (.top 62) = true := by kernel_rfl
theorem me_BytesIO_read : methIn (W0 P ns).K 322 "read" = some 246 := by kernel_rfl
theorem me_BytesIO_seek : methIn (W0 P ns).K 322 "seek" = some 230 := by kernel_rfl
theorem me_BytesIO_seekable : methIn (W0 P ns).K 322 "seekable" = some 173 := by kernel_rfl
theorem me_BytesIO_tell : methIn (W0 P ns).K 322 "tell" = some 222 := by kernel_rfl
theorem me_BytesIO_write : methIn (W0 P ns).K 322 "write" = some 305 := by kernel_rfl
theorem fn_KaitaiStruct___init__ : FnIs (W0 P ns).K 585 f_KaitaiStruct___init__ (stm f_KaitaiStruct___init__) := ⟨⟨_, _, _, rfl⟩, rfl, by kernel_rfl⟩
theorem ck_KaitaiStruct___init__ : callable (W0 P ns).K (.top 585) = true := by kernel_rfl
theorem fn_KaitaiStruct_from_bytes : FnIs (W0 P ns).K 599 f_KaitaiStruct_from_bytes (stm f_KaitaiStruct_from_bytes) := ⟨⟨_, _, _, rfl⟩, rfl, by kernel_rfl⟩
theorem ck_KaitaiStruct_from_bytes : callable (W0 P ns).K (.top 599) = true := by kernel_rfl
theorem cc_KaitaiStruct : callable (W0 P ns).K (.top 615) = true := by kernel_rfl
theorem mk_KaitaiStruct : makesIn (W0 P ns).K 615 = true := by kernel_rfl
theorem fi_KaitaiStruct : findIn (W0 P ns).K (.ref 615) "__init__" = some (some (.ref 585)) := by kernel_rfl
theorem if_KaitaiStruct : isFn (W0 P ns).K (.ref 585) = true := by kernel_rfl
theorem ga_KaitaiStruct__io : getOk (W0 P ns).K 615 "_io" = true := by kernel_rfl
theorem sa_KaitaiStruct__io : setOk (W0 P ns).K 615 "_io" = true := by kernel_rfl
theorem me_KaitaiStruct___init__ : methIn (W0 P ns).K 615 "__init__" = some 585 := by kernel_rfl
theorem cm_KaitaiStruct_from_bytes : clsMeth (W0 P ns).K 615 "from_bytes" = some ((.meth 599 (.top 615)), []) := by kernel_rfl
theorem cm2_KaitaiStruct_from_bytes : callable (W0 P ns).K (.meth 599 (.top 615)) = true := by kernel_rfl
theorem fn_KaitaiStream___init__ : FnIs (W0 P ns).K 633 f_KaitaiStream___init__ (stm f_KaitaiStream___init__) := ⟨⟨_, _, _, rfl⟩, rfl, by kernel_rfl⟩
theorem ck_KaitaiStream___init__ : callable (W0 P ns).K (.top 633) = true := by kernel_rfl
theorem fn_KaitaiStream_is_eof : FnIs (W0 P ns).K 647 f_KaitaiStream_is_eof (stm f_KaitaiStream_is_eof) := ⟨⟨_, _, _, rfl⟩, rfl, by kernel_rfl⟩
theorem ck_KaitaiStream_is_eof : callable (W0 P ns).K (.top 647) = true := by kernel_rfl
theorem fn_KaitaiStream_seek : FnIs (W0 P ns).K 654 f_KaitaiStream_seek (stm f_KaitaiStream_seek) := ⟨⟨_, _, _, rfl⟩, rfl, by kernel_rfl⟩
theorem ck_KaitaiStream_seek : callable (W0 P ns).K (.top 654) = true := by kernel_rfl
theorem fn_KaitaiStream_pos : FnIs (W0 P ns).K 661 f_KaitaiStream_pos (stm f_KaitaiStream_pos) := ⟨⟨_, _, _, rfl⟩, rfl, by kernel_rfl⟩
theorem ck_KaitaiStream_pos : callable (W0 P ns).K (.top 661) = true := by kernel_rfl
theorem fn_KaitaiStream_size : FnIs (W0 P ns).K 668 f_KaitaiStream_size (stm f_KaitaiStream_size) := ⟨⟨_, _, _, rfl⟩, rfl, by kernel_rfl⟩
theorem ck_KaitaiStream_size : callable (W0 P ns).K (.top 668) = true := by kernel_rfl
theorem fn_KaitaiStream_align_to_byte : FnIs (W0 P ns).K 724 f_KaitaiStream_align_to_byte (stm f_KaitaiStream_align_to_byte) := ⟨⟨_, _, _, rfl⟩, rfl, by kernel_rfl⟩
theorem ck_KaitaiStream_align_to_byte : callable (W0 P ns).K (.top 724) = true := by kernel_rfl
theorem fn_KaitaiStream_read_bits_int_be : FnIs (W0 P ns).K 731 f_KaitaiStream_read_bits_int_be (stm f_KaitaiStream_read_bits_int_be) := ⟨⟨_, _, _, rfl⟩, rfl, by kernel_rfl⟩
theorem ck_KaitaiStream_read_bits_int_be : callable (W0 P ns).K (.top 731) = true := by kernel_rfl
theorem fn_KaitaiStream__read_bytes_not_aligned : FnIs (W0 P ns).K 759 f_KaitaiStream__read_bytes_not_aligned (stm f_KaitaiStream__read_bytes_not_aligned) := ⟨⟨_, _, _, rfl⟩, rfl, by kernel_rfl⟩
theorem ck_KaitaiStream__read_bytes_not_aligned : callable (W0 P ns).K (.top 759) = true := by kernel_rfl
theorem fn_KaitaiStream_read_bytes_full : FnIs (W0 P ns).K 766 f_KaitaiStream_read_bytes_full (stm f_KaitaiStream_read_bytes_full) := ⟨⟨_, _, _, rfl⟩, rfl, by kernel_rfl⟩
theorem ck_KaitaiStream_read_bytes_full : callable (W0 P ns).K (.top 766) = true := by kernel_rfl
theorem fn_KaitaiStream__ensure_bytes_left_to_write : FnIs (W0 P ns).K 824 f_KaitaiStream__ensure_bytes_left_to_write (stm f_KaitaiStream__ensure_bytes_left_to_write) := ⟨⟨_, _, _, rfl⟩, rfl, by kernel_rfl⟩
theorem ck_KaitaiStream__ensure_bytes_left_to_write : callable (W0 P ns).K (.top 824) = true := by kernel_rfl
theorem fn_KaitaiStream_write_align_to_byte : FnIs (W0 P ns).K 880 f_KaitaiStream_write_align_to_byte (stm f_KaitaiStream_write_align_to_byte) := ⟨⟨_, _, _, rfl⟩, rfl, by kernel_rfl⟩
theorem ck_KaitaiStream_write_align_to_byte : callable (W0 P ns).K (.top 880) = true := by kernel_rfl
theorem fn_KaitaiStream_write_bits_int_be : FnIs (W0 P ns).K 887 f_KaitaiStream_write_bits_int_be (stm f_KaitaiStream_write_bits_int_be) := ⟨⟨_, _, _, rfl⟩, rfl, by kernel_rfl⟩
theorem ck_KaitaiStream_write_bits_int_be : callable (W0 P ns).K (.top 887) = true := by kernel_rfl
theorem fn_KaitaiStream__write_bytes_not_aligned : FnIs (W0 P ns).K 908 f_KaitaiStream__write_bytes_not_aligned (stm f_KaitaiStream__write_bytes_not_aligned) := ⟨⟨_, _, _, rfl⟩, rfl, by kernel_rfl⟩
theorem ck_KaitaiStream__write_bytes_not_aligned : callable (W0 P ns).K (.top 908) = true := by kernel_rfl
theorem fn_KaitaiStream_byte_from_int : FnIs (W0 P ns).K 962 f_KaitaiStream_byte_from_int (stm f_KaitaiStream_byte_from_int) := ⟨⟨_, _, _, rfl⟩, rfl, by kernel_rfl⟩
theorem ck_KaitaiStream_byte_from_int : callable (W0 P ns).K (.top 962) = true := by kernel_rfl
theorem fn_KaitaiStream_to_byte_array : FnIs (W0 P ns).K 1022 f_KaitaiStream_to_byte_array (stm f_KaitaiStream_to_byte_array) := ⟨⟨_, _, _, rfl⟩, rfl, by kernel_rfl⟩
theorem ck_KaitaiStream_to_byte_array : callable (W0 P ns).K (.top 1022) = true := by kernel_rfl
theorem cc_KaitaiStream : callable (W0 P ns).K (.top 1047) = true := by kernel_rfl
theorem mk_KaitaiStream : makesIn (W0 P ns).K 1047 = true := by kernel_rfl
theorem fi_KaitaiStream : findIn (W0 P ns).K (.ref 1047) "__init__" = some (some (.ref 633)) := by kernel_rfl
theorem if_KaitaiStream : isFn (W0 P ns).K (.ref 633) = true := by kernel_rfl
theorem ga_KaitaiStream__io : getOk (W0 P ns).K 1047 "_io" = true := by kernel_rfl
theorem sa_KaitaiStream__io : setOk (W0 P ns).K 1047 "_io" = true := by kernel_rfl
theorem ga_KaitaiStream__size : getOk (W0 P ns).K 1047 "_size" = true := by kernel_rfl
theorem sa_KaitaiStream__size : setOk (W0 P ns).K 1047 "_size" = true := by kernel_rfl
theorem ga_KaitaiStream_bits : getOk (W0 P ns).K 1047 "bits" = true := by kernel_rfl
theorem sa_KaitaiStream_bits : setOk (W0 P ns).K 1047 "bits" = true := by kernel_rfl
theorem ga_KaitaiStream_bits_le : getOk (W0 P ns).K 1047 "bits_le" = true := by kernel_rfl
theorem sa_KaitaiStream_bits_le : setOk (W0 P ns).K 1047 "bits_le" = true := by kernel_rfl
theorem ga_KaitaiStream_bits_left : getOk (W0 P ns).K 1047 "bits_left" = true := by kernel_rfl
theorem sa_KaitaiStream_bits_left : setOk (W0 P ns).K 1047 "bits_left" = true := by kernel_rfl
theorem ga_KaitaiStream_bits_write_mode : getOk (W0 P ns).K 1047 "bits_write_mode" = true := by kernel_rfl
theorem sa_KaitaiStream_bits_write_mode : setOk (W0 P ns).K 1047 "bits_write_mode" = true := by kernel_rfl
theorem ga_KaitaiStream_child_streams : getOk (W0 P ns).K 1047 "child_streams" = true := by kernel_rfl
theorem sa_KaitaiStream_child_streams : setOk (W0 P ns).K 1047 "child_streams" = true := by kernel_rfl
theorem ga_KaitaiStream_write_back_handler : getOk (W0 P ns).K 1047 "write_back_handler" = true := by kernel_rfl
theorem sa_KaitaiStream_write_back_handler : setOk (W0 P ns).K 1047 "write_back_handler" = true := by kernel_rfl
theorem me_KaitaiStream___init__ : methIn (W0 P ns).K 1047 "__init__" = some 633 := by kernel_rfl
theorem me_KaitaiStream__ensure_bytes_left_to_write : methIn (W0 P ns).K 1047 "_ensure_bytes_left_to_write" = some 824 := by kernel_rfl
theorem me_KaitaiStream__read_bytes_not_aligned : methIn (W0 P ns).K 1047 "_read_bytes_not_aligned" = some 759 := by kernel_rfl
theorem me_KaitaiStream__write_bytes_not_aligned : methIn (W0 P ns).K 1047 "_write_bytes_not_aligned" = some 908 := by kernel_rfl
theorem me_KaitaiStream_align_to_byte : methIn (W0 P ns).K 1047 "align_to_byte" = some 724 := by kernel_rfl
theorem cm_KaitaiStream_byte_from_int : clsMeth (W0 P ns).K 1047 "byte_from_int" = some ((.top 962), []) := by kernel_rfl
theorem cm2_KaitaiStream_byte_from_int : callable (W0 P ns).K (.top 962) = true := by kernel_rfl
theorem me_KaitaiStream_is_eof : methIn (W0 P ns).K 1047 "is_eof" = some 647 := by kernel_rfl
theorem me_KaitaiStream_pos : methIn (W0 P ns).K 1047 "pos" = some 661 := by kernel_rfl
theorem me_KaitaiStream_read_bits_int_be : methIn (W0 P ns).K 1047 "read_bits_int_be" = some 731 := by kernel_rfl
theorem me_KaitaiStream_read_bytes_full : methIn (W0 P ns).K 1047 "read_bytes_full" = some 766 := by kernel_rfl
theorem me_KaitaiStream_seek : methIn (W0 P ns).K 1047 "seek" = some 654 := by kernel_rfl
theorem me_KaitaiStream_size : methIn (W0 P ns).K 1047 "size" = some 668 := by kernel_rfl
theorem me_KaitaiStream_to_byte_array : methIn (W0 P ns).K 1047 "to_byte_array" = some 1022 := by kernel_rfl
theorem me_KaitaiStream_write_align_to_byte : methIn (W0 P ns).K 1047 "write_align_to_byte" = some 880 := by kernel_rfl
theorem me_KaitaiStream_write_bits_int_be : methIn (W0 P ns).K 1047 "write_bits_int_be" = some 887 := by kernel_rfl
theorem fn_KaitaiStructError___init__ : FnIs (W0 P ns).K 1067 f_KaitaiStructError___init__ (stm f_KaitaiStructError___init__) := ⟨⟨_, _, _, rfl⟩, rfl, by kernel_rfl⟩
theorem ck_KaitaiStructError___init__ : callable (W0 P ns).K (.top 1067) = true := by kernel_rfl
theorem cc_KaitaiStructError : callable (W0 P ns).K (.top 1070) = true := by kernel_rfl
theorem mk_KaitaiStructError : makesIn (W0 P ns).K 1070 = false := by kernel_rfl
theorem fi_KaitaiStructError : findIn (W0 P ns).K (.ref 1070) "__init__" = some (some (.ref 1067)) := by kernel_rfl
theorem if_KaitaiStructError : isFn (W0 P ns).K (.ref 1067) = true := by kernel_rfl
theorem fn_InvalidArgumentError___init__ : FnIs (W0 P ns).K 1089 f_InvalidArgumentError___init__ (stm f_InvalidArgumentError___init__) := ⟨⟨_, _, _, rfl⟩, rfl, by kernel_rfl⟩
theorem ck_InvalidArgumentError___init__ : callable (W0 P ns).K (.top 1089) = true := by kernel_rfl
theorem cc_InvalidArgumentError : callable (W0 P ns).K (.top 1092) = true := by kernel_rfl
theorem mk_InvalidArgumentError : makesIn (W0 P ns).K 1092 = false := by kernel_rfl
theorem fi_InvalidArgumentError : findIn (W0 P ns).K (.ref 1092) "__init__" = some (some (.ref 1089)) := by kernel_rfl
theorem if_InvalidArgumentError : isFn (W0 P ns).K (.ref 1089) = true := by kernel_rfl
theorem fn_EndOfStreamError___init__ : FnIs (W0 P ns).K 1110 f_EndOfStreamError___init__ (stm f_EndOfStreamError___init__) := ⟨⟨_, _, _, rfl⟩, rfl, by kernel_rfl⟩
theorem ck_EndOfStreamError___init__ : callable (W0 P ns).K (.top 1110) = true := by kernel_rfl
theorem cc_EndOfStreamError : callable (W0 P ns).K (.top 1113) = true := by kernel_rfl
theorem mk_EndOfStreamError : makesIn (W0 P ns).K 1113 = false := by kernel_rfl
theorem fi_EndOfStreamError : findIn (W0 P ns).K (.ref 1113) "__init__" = some (some (.ref 1110)) := by kernel_rfl
theorem if_EndOfStreamError : isFn (W0 P ns).K (.ref 1110) = true := by kernel_rfl
theorem fn__law_vectors : FnIs (W0 P ns).K 1122 f__law_vectors (stm f__law_vectors) := ⟨⟨_, _, _, rfl⟩, rfl, by kernel_rfl⟩
theorem ck__law_vectors : callable (W0 P ns).K (.top 1122) = true := by kernel_rfl
theorem fn__law_plain_groups : FnIs (W0 P ns).K 1129 f__law_plain_groups (stm f__law_plain_groups) := ⟨⟨_, _, _, rfl⟩, rfl, by kernel_rfl⟩
theorem ck__law_plain_groups : callable (W0 P ns).K (.top 1129) = true := by kernel_rfl
theorem fn__law_text : FnIs (W0 P ns).K 1136 f__law_text (stm f__law_text) := ⟨⟨_, _, _, rfl⟩, rfl, by kernel_rfl⟩
theorem ck__law_text : callable (W0 P ns).K (.top 1136) = true := by kernel_rfl
theorem fn__law_read : FnIs (W0 P ns).K 1143 f__law_read (stm f__law_read) := ⟨⟨_, _, _, rfl⟩, rfl, by kernel_rfl⟩
theorem ck__law_read : callable (W0 P ns).K (.top 1143) = true := by kernel_rfl
theorem fn__law_sextets : FnIs (W0 P ns).K 1150 f__law_sextets (stm f__law_sextets) := ⟨⟨_, _, _, rfl⟩, rfl, by kernel_rfl⟩
theorem ck__law_sextets : callable (W0 P ns).K (.top 1150) = true := by kernel_rfl
theorem fn__law_write : FnIs (W0 P ns).K 1157 f__law_write (stm f__law_write) := ⟨⟨_, _, _, rfl⟩, rfl, by kernel_rfl⟩
theorem ck__law_write : callable (W0 P ns).K (.top 1157) = true := by kernel_rfl
theorem fn__law_round : FnIs (W0 P ns).K 1162 f__law_round (stm f__law_round) := ⟨⟨_, _, _, rfl⟩, rfl, by kernel_rfl⟩
theorem ck__law_round : callable (W0 P ns).K (.top 1162) = true := by kernel_rfl
theorem fn_law : FnIs (W0 P ns).K 1167 f_law (stm f_law) := ⟨⟨_, _, _, rfl⟩, rfl, by kernel_rfl⟩
theorem ck_law : callable (W0 P ns).K (.top 1167) = true := by kernel_rfl
end

end Mine
end
/-! part A1_br5014_04 -/
section
open PySem PySem.W PySem.Calls PyProof.Rows
namespace Mine
theorem vs_same {m : Vars} {x : Str} {v : PV} : (m.set x v) x = some v := if_pos rfl
theorem vs_ne {m : Vars} {x y : Str} {v : PV} {r : Option PV} (h : decide (y = x) = false) (h2 : m y = r) : (m.set x v) y = r := by
  show (if y = x then _ else _) = _; rw [if_neg (of_decide_eq_false h)]; exact h2
theorem okR {α : Type} {a : α} {σ : PH} : (R.ok a σ : R α) = .ok a σ := rfl
theorem okS {f : Fl} {m : Vars} {σ : PH} : SR.ok f m σ = .ok f m σ := rfl
theorem okP {v : PV} : v = v := rfl
theorem okH {v : PH} : v = v := rfl
theorem sz_ok {n : Nat} (h : n ≤ 16777216) : sizeOk n = true := decide_eq_true h

local macro_rules | `(tactic| walk_at "mini ne") => `(tactic| first
  | assumption
  | exact Ne.symm (by assumption)
  | ((with_reducible apply h_fresh); walk_at "mini h")
  | ((with_reducible apply h_fresh'); walk_at "mini h")
  | omega)
local macro_rules | `(tactic| walk_at "mini h") => `(tactic| first
  | assumption
  | (with_reducible exact h_new)
  | ((with_reducible apply h_set); walk_at "mini h")
  | ((with_reducible apply h_app); walk_at "mini h")
  | ((with_reducible apply h_ne); (walk_at "mini ne"); walk_at "mini h"))
local macro_rules | `(tactic| walk_at "mini v") => `(tactic| first
  | (with_reducible exact vs_same)
  | (with_reducible assumption)
  | ((with_reducible apply vs_ne); (decide +kernel); walk_at "mini v")
  | rfl)
local macro_rules | `(tactic| walk_at "mini c") => `(tactic| first
  | rfl
  | assumption
  | (simp only [decide_eq_true_eq, decide_eq_false_iff_not, beq_iff_eq, bne_iff_ne, bne_eq_false_iff_eq, Bool.not_eq_true', Bool.not_eq_false', ne_eq, beq_eq_false_iff_ne, not_true_eq_false, not_false_eq_true] <;> first | omega | assumption)
  | (simp; done))
local macro_rules | `(tactic| walk_at "mini g") => `(tactic| fail "mini g")
local macro_rules | `(tactic| walk_at "mini m") => `(tactic| ((with_reducible apply getM_app); walk_at "mini h"))
local macro_rules | `(tactic| walk_at "mini call") => `(tactic| first | (with_reducible assumption) | ((walk_at "mini fn"); with_reducible assumption))
local macro_rules | `(tactic| walk_at "mini xs") => `(tactic| first
  | (with_reducible exact xs_nil)
  | (apply xs_step))
local macro_rules | `(tactic| walk_at "mini x") => `(tactic| with_reducible first
  | (apply x_asgN)
  | (apply x_if)
  | (apply x_ret)
  | (apply x_asgA)
  | (apply x_expr)
  | (apply x_augN)
  | (apply x_augA)
  | (apply x_for)
  | (apply x_while)
  | (apply x_asgS)
  | (apply x_asgI)
  | (apply x_try)
  | (exact x_ret0)
  | (exact x_pass))
local macro_rules | `(tactic| walk_at "mini e") => `(tactic| with_reducible first
  | (apply r_name)
  | (exact r_int)
  | (apply r_attr)
  | (apply r_bin)
  | (apply r_meth)
  | (apply r_call)
  | (exact r_none)
  | (exact r_bool)
  | (exact r_str)
  | (exact r_bytes)
  | (apply r_neg)
  | (apply r_not)
  | (apply r_ifx)
  | (apply r_and)
  | (apply r_or)
  | (apply r_cmp)
  | (apply r_list)
  | (apply r_tup)
  | (apply r_slice)
  | (apply r_sub)
  | (apply r_comp))
local macro_rules | `(tactic| walk_at "mini ts") => `(tactic| with_reducible first
  | (apply q_cmp)
  | (apply q_name)
  | (apply q_not)
  | (apply q_ops)
  | (apply q_attr)
  | (apply q_call)
  | (apply q_sub)
  | (apply q_bin))
local macro_rules | `(tactic| walk_at "mini i") => `(tactic| first
  | (with_reducible exact i_add)
  | (with_reducible exact i_sub)
  | ((with_reducible apply i_modp); first | omega | decide)
  | ((with_reducible apply i_shrp); first | omega | decide)
  | ((with_reducible apply i_divp); (first | omega | decide); (first | omega | decide))
  | ((with_reducible apply i_shl); first | omega | decide)
  | ((with_reducible apply i_mul))
  | ((with_reducible apply i_pow); first | omega | decide)
  | (with_reducible exact i_and)
  | (with_reducible exact i_or)
  | (with_reducible exact i_xor))
local macro_rules | `(tactic| walk_at "mini b") => `(tactic| first
  | (with_reducible exact b_int)
  | (with_reducible apply b_type)
  | ((with_reducible apply b_len_barr); (walk_at "mini h"))
  | ((with_reducible apply b_len_bytes))
  | ((with_reducible apply b_len_str))
  | ((with_reducible apply b_len_list); (walk_at "mini h"))
  | ((with_reducible apply b_bytes_b); (walk_at "mini h"))
  | ((with_reducible apply b_barr_b))
  | ((with_reducible apply b_bytes_1); (omega); (omega))
  | ((with_reducible apply b_barr_n); (omega))
  | ((with_reducible apply b_append); (walk_at "mini h"))
  | ((with_reducible apply b_bytes_l); (walk_at "mini h"); (with_reducible assumption))
  | ((with_reducible apply b_ord); (with_reducible assumption))
  | ((with_reducible apply range_up); (omega); (omega))
  | ((with_reducible apply range_ab); (omega); (omega); (omega); (omega))
  | ((with_reducible apply range_by); (first | omega | decide); (first | omega | decide); (omega); (omega))
  | ((with_reducible apply range_down); (omega); (omega); (omega); (omega)))
local macro_rules | `(tactic| walk_at "mini") => `(tactic| first
  | ((with_reducible change ev _ _ _ _ _ _ _ = _); walk_at "mini e")
  | ((with_reducible change nameV _ _ _ _ = _); first
    | ((with_reducible apply name_loc); (decide +kernel); (walk_at "mini v"); (decide +kernel))
    | ((with_reducible apply name_glob); (decide +kernel); (walk_at "mini m"); (decide +kernel))
    | ((with_reducible apply name_cell); (decide +kernel); (walk_at "mini v"); (decide +kernel)))
  | ((with_reducible change ex _ _ _ _ _ _ _ = _); walk_at "mini x")
  | ((with_reducible change exs _ _ _ _ _ _ _ = _); walk_at "mini xs")
  | ((with_reducible change SR.andThen _ _ = _); first | (with_reducible apply at_next) | (with_reducible exact at_ret))
  | ((with_reducible change ts _ _ _ _ _ _ _ = _); walk_at "mini ts")
  | ((with_reducible change tsL _ _ _ _ _ _ _ _ = _); with_reducible first | (apply q_and) | (apply q_or) | (exact q_nil))
  | ((with_reducible change evL _ _ _ = _); with_reducible first | (exact r_nil) | (apply r_cons))
  | ((with_reducible change getA _ _ _ _ = _); walk_at "mini g")
  | ((with_reducible change setA _ _ _ _ _ = _); walk_at "mini g")
  | ((with_reducible change getM _ _ _ _ = _); walk_at "mini m")
  | ((with_reducible change callable _ _ = _); first | (walk_at "mini m") | rfl)
  | ((with_reducible change binop _ _ _ _ = _); first
    | (with_reducible apply i_bin)
    | ((with_reducible apply b_cat); (walk_at "mini h"); (walk_at "mini h"))
    | ((with_reducible apply b_rep); (walk_at "mini h"))
    | (with_reducible apply b_cats)
    | (with_reducible apply b_smul))
  | ((with_reducible change intOp _ _ _ = _); walk_at "mini i")
  | ((with_reducible change cmpop _ _ _ _ = _); first | rfl | ((with_reducible apply c_eq_lists); (walk_at "mini h"); (walk_at "mini h")) | ((with_reducible apply c_ne_lists); (walk_at "mini h"); (walk_at "mini h")))
  | ((with_reducible change truthO _ _ _ = _); rfl)
  | ((with_reducible change callV _ _ _ _ _ = _); first | (with_reducible apply callV_type) | (with_reducible apply callV_blt) | (with_reducible apply callV_meth) | (walk_at "mini call"))
  | ((with_reducible change bcall _ _ _ _ = _); walk_at "mini b")
  | ((with_reducible change (ite _ _ _) = _); first
    | ((with_reducible apply ite_t); (walk_at "mini c"))
    | ((with_reducible apply ite_f); (walk_at "mini c")))
  | (with_reducible exact okR)
  | (with_reducible exact okS)
  | (with_reducible exact an_ret)
  | (with_reducible exact an_next)
  | (with_reducible exact okP)
  | (with_reducible exact okH)
  | ((with_reducible change callF _ _ _ _ _ = _); with_reducible assumption)
  | ((with_reducible change partO _ = _); rfl)
  | ((with_reducible change localIn _ _ = _); decide +kernel)
  | ((with_reducible change isListComp _ = _); rfl)
  | ((with_reducible change plainIter _ = _); rfl)
  | ((with_reducible change isCallE _ = _); rfl)
  | ((with_reducible change behindInMarks _ _ = _); rfl)
  | ((with_reducible change List.any _ isStarredE = _); rfl)
  | ((with_reducible change (isCallE _ || _ || _ || _) = _); rfl)
  | ((with_reducible change ∀ _ _ _ _, _); intros; intro hq; cases hq)
  | ((with_reducible change evO _ _ _ _ _ _ _ = _); with_reducible first | (exact r_evO_none) | (apply r_evO_some))
  | (with_reducible exact app1)
  | (with_reducible exact app0)
  | ((with_reducible change typeOfP _ _ = _); first | (with_reducible exact ty_int) | (with_reducible exact ty_bytes) | ((with_reducible apply ty_barr); walk_at "mini h"))
  | ((with_reducible change powOk _ _ = _); with_reducible assumption)
  | ((with_reducible change mulOk _ _ = _); first | (with_reducible assumption) | ((apply mul_ok); (first | decide | omega)) | ((apply mul_ok'); (first | decide | omega)))
  | ((with_reducible change shlOk _ _ = _); first | assumption | ((apply shl_one); omega))
  | ((with_reducible change (_ : Int) ≤ _); omega)
  | ((with_reducible change (_ : Int) < _); omega)
  | ((with_reducible change sizeOk _ = _); first | rfl | (apply sz_ok; first | omega | (simp; omega)))
  | ((with_reducible change subS _ _ _ _ _ _ = _); first
    | ((with_reducible apply s_barr_ex); (walk_at "mini h"); (omega); (omega))
    | ((with_reducible apply s_list_dt); (walk_at "mini h"); (omega); (omega))
    | ((with_reducible apply s_list_hi); (walk_at "mini h"); (omega))
    | ((with_reducible apply s_scr_hi); (omega))
    | ((with_reducible apply s_bytes_hi); (omega))
    | ((with_reducible apply s_bytes_lo); (omega)))
  | ((with_reducible change sameObj _ _ = _); first | rfl | (exact beq_eq_false_iff_ne.mpr (by walk_at "mini ne")))
  | ((with_reducible change setI _ _ _ _ = _); (with_reducible apply st_barr_i); (walk_at "mini h"); (with_reducible assumption))
  | ((with_reducible change setS _ _ _ _ _ = _); (with_reducible apply st_barr_s); (walk_at "mini h"))
  | ((with_reducible change octetsOf _ _ = _); first | (with_reducible exact oc_bytes) | ((with_reducible apply oc_barr); (walk_at "mini h"))))
local macro_rules | `(tactic| walk_at "mini s") => `(tactic| first
  | ((apply ok_step); (· ((repeat (walk_at "mini")); done)))
  | ((with_reducible apply ok_nilB))
  | ((with_reducible apply ok_beh))
  | ((with_reducible apply ok_nil)))
local macro_rules | `(tactic| walk_at "mini r") => `(tactic| first
  | ((apply ok_retB); (· ((repeat (walk_at "mini")); done)))
  | ((apply ok_ret); (· ((repeat (walk_at "mini")); done))))

/-! the stream's objects -/
def strm (io : Nat) (bl b : Int) (le wm : Bool) (ch : Nat) (sz : Int) : PO := .inst 1047 [("_io", .obj io), ("bits_left", .int bl), ("bits", .int b), ("bits_le", .bool le), ("bits_write_mode", .bool wm), ("write_back_handler", .none), ("child_streams", .obj ch), ("_size", .int sz)]
def kst (io : Nat) : PO := .inst 615 [("_io", .obj io)]
def bio (γ : Nat) (p : Int) : PO := .inst 322 [("_BytesIO__buf", .obj γ), ("_BytesIO__pos", .int p)]
section
variable {P : Params} {ns : List Int} {σ : PH} {α β γ ch : Nat} {io : Nat} {bl b sz v p : Int} {le wm lv : Bool} {buf : Array UInt8} {d : Nat}
theorem g_io (h : σ[α]? = some (strm io bl b le wm ch sz)) : getA (W0 P ns) σ (.obj α) "_io" = some (.obj io) := getA_of h ga_KaitaiStream__io rfl rfl
theorem g_bl (h : σ[α]? = some (strm io bl b le wm ch sz)) : getA (W0 P ns) σ (.obj α) "bits_left" = some (.int bl) := getA_of h ga_KaitaiStream_bits_left rfl rfl
theorem g_bits (h : σ[α]? = some (strm io bl b le wm ch sz)) : getA (W0 P ns) σ (.obj α) "bits" = some (.int b) := getA_of h ga_KaitaiStream_bits rfl rfl
theorem g_le (h : σ[α]? = some (strm io bl b le wm ch sz)) : getA (W0 P ns) σ (.obj α) "bits_le" = some (.bool le) := getA_of h ga_KaitaiStream_bits_le rfl rfl
theorem g_wm (h : σ[α]? = some (strm io bl b le wm ch sz)) : getA (W0 P ns) σ (.obj α) "bits_write_mode" = some (.bool wm) := getA_of h ga_KaitaiStream_bits_write_mode rfl rfl
theorem g_sz (h : σ[α]? = some (strm io bl b le wm ch sz)) : getA (W0 P ns) σ (.obj α) "_size" = some (.int sz) := getA_of h ga_KaitaiStream__size rfl rfl
theorem g_buf (h : σ[β]? = some (bio γ p)) : getA (W0 P ns) σ (.obj β) "_BytesIO__buf" = some (.obj γ) := getA_of h ga_BytesIO__BytesIO__buf rfl rfl
theorem g_pos (h : σ[β]? = some (bio γ p)) : getA (W0 P ns) σ (.obj β) "_BytesIO__pos" = some (.int p) := getA_of h ga_BytesIO__BytesIO__pos rfl rfl
theorem p_bl (h : σ[α]? = some (strm io bl b le wm ch sz)) : setA (W0 P ns) σ (.obj α) "bits_left" (.int v) = some (σ.set α (strm io v b le wm ch sz)) := setA_of h sa_KaitaiStream_bits_left rfl rfl
theorem p_bits (h : σ[α]? = some (strm io bl b le wm ch sz)) : setA (W0 P ns) σ (.obj α) "bits" (.int v) = some (σ.set α (strm io bl v le wm ch sz)) := setA_of h sa_KaitaiStream_bits rfl rfl
theorem p_le (h : σ[α]? = some (strm io bl b le wm ch sz)) : setA (W0 P ns) σ (.obj α) "bits_le" (.bool lv) = some (σ.set α (strm io bl b lv wm ch sz)) := setA_of h sa_KaitaiStream_bits_le rfl rfl
theorem p_wm (h : σ[α]? = some (strm io bl b le wm ch sz)) : setA (W0 P ns) σ (.obj α) "bits_write_mode" (.bool lv) = some (σ.set α (strm io bl b le lv ch sz)) := setA_of h sa_KaitaiStream_bits_write_mode rfl rfl
theorem p_sz (h : σ[α]? = some (strm io bl b le wm ch sz)) : setA (W0 P ns) σ (.obj α) "_size" (.int v) = some (σ.set α (strm io bl b le wm ch v)) := setA_of h sa_KaitaiStream__size rfl rfl
theorem p_pos (h : σ[β]? = some (bio γ p)) : setA (W0 P ns) σ (.obj β) "_BytesIO__pos" (.int v) = some (σ.set β (bio γ v)) := setA_of h sa_BytesIO__BytesIO__pos rfl rfl

end
local macro_rules | `(tactic| walk_at "mini g") => `(tactic| with_reducible first
  | (apply g_io; walk_at "mini h") | (apply g_bl; walk_at "mini h") | (apply g_bits; walk_at "mini h") | (apply g_le; walk_at "mini h") | (apply g_wm; walk_at "mini h") | (apply g_sz; walk_at "mini h")
  | (apply g_buf; walk_at "mini h") | (apply g_pos; walk_at "mini h")
  | (apply p_bl; walk_at "mini h") | (apply p_bits; walk_at "mini h") | (apply p_le; walk_at "mini h") | (apply p_wm; walk_at "mini h") | (apply p_sz; walk_at "mini h") | (apply p_pos; walk_at "mini h"))

section
variable {P : Params} {ns : List Int} {σ : PH} {α γ io ch : Nat} {bl b sz p : Int} {le wm : Bool}
theorem mm_BytesIO__BytesIO__check (h : σ[α]? = some (bio γ p)) : getM (W0 P ns) σ (.obj α) "_BytesIO__check" = some (.top 116, [.obj α]) := getM_of h me_BytesIO__BytesIO__check rfl
theorem mm_BytesIO___init__ (h : σ[α]? = some (bio γ p)) : getM (W0 P ns) σ (.obj α) "__init__" = some (.top 109, [.obj α]) := getM_of h me_BytesIO___init__ rfl
theorem mm_BytesIO_read (h : σ[α]? = some (bio γ p)) : getM (W0 P ns) σ (.obj α) "read" = some (.top 246, [.obj α]) := getM_of h me_BytesIO_read rfl
theorem mm_BytesIO_seek (h : σ[α]? = some (bio γ p)) : getM (W0 P ns) σ (.obj α) "seek" = some (.top 230, [.obj α]) := getM_of h me_BytesIO_seek rfl
theorem mm_BytesIO_seekable (h : σ[α]? = some (bio γ p)) : getM (W0 P ns) σ (.obj α) "seekable" = some (.top 173, [.obj α]) := getM_of h me_BytesIO_seekable rfl
theorem mm_BytesIO_tell (h : σ[α]? = some (bio γ p)) : getM (W0 P ns) σ (.obj α) "tell" = some (.top 222, [.obj α]) := getM_of h me_BytesIO_tell rfl
theorem mm_BytesIO_write (h : σ[α]? = some (bio γ p)) : getM (W0 P ns) σ (.obj α) "write" = some (.top 305, [.obj α]) := getM_of h me_BytesIO_write rfl
theorem mm_KaitaiStruct___init__ (h : σ[α]? = some (kst io)) : getM (W0 P ns) σ (.obj α) "__init__" = some (.top 585, [.obj α]) := getM_of h me_KaitaiStruct___init__ rfl
theorem mm_KaitaiStream___init__ (h : σ[α]? = some (strm io bl b le wm ch sz)) : getM (W0 P ns) σ (.obj α) "__init__" = some (.top 633, [.obj α]) := getM_of h me_KaitaiStream___init__ rfl
theorem mm_KaitaiStream__ensure_bytes_left_to_write (h : σ[α]? = some (strm io bl b le wm ch sz)) : getM (W0 P ns) σ (.obj α) "_ensure_bytes_left_to_write" = some (.top 824, [.obj α]) := getM_of h me_KaitaiStream__ensure_bytes_left_to_write rfl
theorem mm_KaitaiStream__read_bytes_not_aligned (h : σ[α]? = some (strm io bl b le wm ch sz)) : getM (W0 P ns) σ (.obj α) "_read_bytes_not_aligned" = some (.top 759, [.obj α]) := getM_of h me_KaitaiStream__read_bytes_not_aligned rfl
theorem mm_KaitaiStream__write_bytes_not_aligned (h : σ[α]? = some (strm io bl b le wm ch sz)) : getM (W0 P ns) σ (.obj α) "_write_bytes_not_aligned" = some (.top 908, [.obj α]) := getM_of h me_KaitaiStream__write_bytes_not_aligned rfl
theorem mm_KaitaiStream_align_to_byte (h : σ[α]? = some (strm io bl b le wm ch sz)) : getM (W0 P ns) σ (.obj α) "align_to_byte" = some (.top 724, [.obj α]) := getM_of h me_KaitaiStream_align_to_byte rfl
theorem mm_KaitaiStream_is_eof (h : σ[α]? = some (strm io bl b le wm ch sz)) : getM (W0 P ns) σ (.obj α) "is_eof" = some (.top 647, [.obj α]) := getM_of h me_KaitaiStream_is_eof rfl
theorem mm_KaitaiStream_pos (h : σ[α]? = some (strm io bl b le wm ch sz)) : getM (W0 P ns) σ (.obj α) "pos" = some (.top 661, [.obj α]) := getM_of h me_KaitaiStream_pos rfl
theorem mm_KaitaiStream_read_bits_int_be (h : σ[α]? = some (strm io bl b le wm ch sz)) : getM (W0 P ns) σ (.obj α) "read_bits_int_be" = some (.top 731, [.obj α]) := getM_of h me_KaitaiStream_read_bits_int_be rfl
theorem mm_KaitaiStream_read_bytes_full (h : σ[α]? = some (strm io bl b le wm ch sz)) : getM (W0 P ns) σ (.obj α) "read_bytes_full" = some (.top 766, [.obj α]) := getM_of h me_KaitaiStream_read_bytes_full rfl
theorem mm_KaitaiStream_seek (h : σ[α]? = some (strm io bl b le wm ch sz)) : getM (W0 P ns) σ (.obj α) "seek" = some (.top 654, [.obj α]) := getM_of h me_KaitaiStream_seek rfl
theorem mm_KaitaiStream_size (h : σ[α]? = some (strm io bl b le wm ch sz)) : getM (W0 P ns) σ (.obj α) "size" = some (.top 668, [.obj α]) := getM_of h me_KaitaiStream_size rfl
theorem mm_KaitaiStream_to_byte_array (h : σ[α]? = some (strm io bl b le wm ch sz)) : getM (W0 P ns) σ (.obj α) "to_byte_array" = some (.top 1022, [.obj α]) := getM_of h me_KaitaiStream_to_byte_array rfl
theorem mm_KaitaiStream_write_align_to_byte (h : σ[α]? = some (strm io bl b le wm ch sz)) : getM (W0 P ns) σ (.obj α) "write_align_to_byte" = some (.top 880, [.obj α]) := getM_of h me_KaitaiStream_write_align_to_byte rfl
theorem mm_KaitaiStream_write_bits_int_be (h : σ[α]? = some (strm io bl b le wm ch sz)) : getM (W0 P ns) σ (.obj α) "write_bits_int_be" = some (.top 887, [.obj α]) := getM_of h me_KaitaiStream_write_bits_int_be rfl
end

local macro_rules | `(tactic| walk_at "mini fn") => `(tactic| with_reducible first
  | apply callV_fn fn__whence
  | apply callV_fn fn__index
  | apply callV_fn fn_IOBase___new__
  | apply callV_fn fn_BytesIO___init__
  | apply callV_fn fn_BytesIO___check
  | apply callV_fn fn_BytesIO_seekable
  | apply callV_fn fn_BytesIO_tell
  | apply callV_fn fn_BytesIO_seek
  | apply callV_fn fn_BytesIO_read
  | apply callV_fn fn_BytesIO_write
  | apply callV_fn fn_KaitaiStruct___init__
  | apply callV_fn fn_KaitaiStruct_from_bytes
  | apply callV_fn fn_KaitaiStream___init__
  | apply callV_fn fn_KaitaiStream_is_eof
  | apply callV_fn fn_KaitaiStream_seek
  | apply callV_fn fn_KaitaiStream_pos
  | apply callV_fn fn_KaitaiStream_size
  | apply callV_fn fn_KaitaiStream_align_to_byte
  | apply callV_fn fn_KaitaiStream_read_bits_int_be
  | apply callV_fn fn_KaitaiStream__read_bytes_not_aligned
  | apply callV_fn fn_KaitaiStream_read_bytes_full
  | apply callV_fn fn_KaitaiStream__ensure_bytes_left_to_write
  | apply callV_fn fn_KaitaiStream_write_align_to_byte
  | apply callV_fn fn_KaitaiStream_write_bits_int_be
  | apply callV_fn fn_KaitaiStream__write_bytes_not_aligned
  | apply callV_fn fn_KaitaiStream_byte_from_int
  | apply callV_fn fn_KaitaiStream_to_byte_array
  | apply callV_fn fn_KaitaiStructError___init__
  | apply callV_fn fn_InvalidArgumentError___init__
  | apply callV_fn fn_EndOfStreamError___init__
  | apply callV_fn fn__law_vectors
  | apply callV_fn fn__law_plain_groups
  | apply callV_fn fn__law_text
  | apply callV_fn fn__law_read
  | apply callV_fn fn__law_sextets
  | apply callV_fn fn__law_write
  | apply callV_fn fn__law_round
  | apply callV_fn fn_law)
local macro_rules | `(tactic| walk_at "mini m") => `(tactic| with_reducible first
  | exact gv_AttributeError
  | exact gv_BytesIO
  | exact gv_EndOfStreamError
  | exact gv_InvalidArgumentError
  | exact gv_KaitaiStream
  | exact gv_KaitaiStruct
  | exact gv_KaitaiStructError
  | exact gv_OSError
  | exact gv_PY2
  | exact gv_SEEK_END
  | exact gv_ValueError
  | exact gv__index
  | exact gv__law_plain_groups
  | exact gv__law_read
  | exact gv__law_round
  | exact gv__law_sextets
  | exact gv__law_text
  | exact gv__law_vectors
  | exact gv__law_write
  | exact gv__whence
  | exact gv_bool
  | exact gv_bytearray
  | exact gv_bytes
  | exact gv_callable
  | exact gv_chr
  | exact gv_getattr
  | exact gv_int
  | exact gv_len
  | exact gv_object
  | exact gv_ord
  | exact gv_range
  | exact gv_str
  | exact gv_super
  | exact gv_type
  | (apply mm_BytesIO__BytesIO__check; walk_at "mini h")
  | (apply mm_BytesIO___init__; walk_at "mini h")
  | (apply mm_BytesIO_read; walk_at "mini h")
  | (apply mm_BytesIO_seek; walk_at "mini h")
  | (apply mm_BytesIO_seekable; walk_at "mini h")
  | (apply mm_BytesIO_tell; walk_at "mini h")
  | (apply mm_BytesIO_write; walk_at "mini h")
  | (apply mm_KaitaiStruct___init__; walk_at "mini h")
  | exact getM_cls cm_KaitaiStruct_from_bytes
  | exact cm2_KaitaiStruct_from_bytes
  | (apply mm_KaitaiStream___init__; walk_at "mini h")
  | (apply mm_KaitaiStream__ensure_bytes_left_to_write; walk_at "mini h")
  | (apply mm_KaitaiStream__read_bytes_not_aligned; walk_at "mini h")
  | (apply mm_KaitaiStream__write_bytes_not_aligned; walk_at "mini h")
  | (apply mm_KaitaiStream_align_to_byte; walk_at "mini h")
  | exact getM_cls cm_KaitaiStream_byte_from_int
  | (apply mm_KaitaiStream_is_eof; walk_at "mini h")
  | (apply mm_KaitaiStream_pos; walk_at "mini h")
  | (apply mm_KaitaiStream_read_bits_int_be; walk_at "mini h")
  | (apply mm_KaitaiStream_read_bytes_full; walk_at "mini h")
  | (apply mm_KaitaiStream_seek; walk_at "mini h")
  | (apply mm_KaitaiStream_size; walk_at "mini h")
  | (apply mm_KaitaiStream_to_byte_array; walk_at "mini h")
  | (apply mm_KaitaiStream_write_align_to_byte; walk_at "mini h")
  | (apply mm_KaitaiStream_write_bits_int_be; walk_at "mini h"))

section
variable {P : Params} {ns : List Int} {σ : PH} {α β γ ch : Nat} {io : Nat} {bl b sz v p : Int} {le wm lv : Bool} {buf : Array UInt8} {d : Nat}

set_option maxHeartbeats 4000000
theorem setself {o : PO} (h : σ[β]? = some o) : σ.set β o = σ := by
  apply List.ext_getElem?
  intro i
  rw [List.getElem?_set]
  split
  · rename_i e; subst e; rw [h]; simp [h_lt h]
  · rfl
theorem callF_to {W : Wd} {d : Nat} {a : Addr} {args : List PV} {fd : FuncData} {body : List Stmt} (l : List (Str × PV)) {r : SR} {v v' : PV} {σ σ₁ σ' : PH} (F : FnIs W.K a fd body) (hl : bindPL W.K fd args = some l) (ho : bindOk fd l = true)
    (h : exs W (callF W d) (fun y => fd.scope.names.lookup y) 100 (bindP l) body σ = r) (hr : ansOf r = .ok v' σ') (hv : v' = v) (hσ : σ' = σ₁) : callF W (d + 1) a args σ = .ok v σ₁ := by
  subst hv hσ; exact callF_def F hl ho h hr
theorem L_align (h : σ[α]? = some (strm io bl b le wm ch sz)) : callF (W0 P ns) (d + 1) 724 [.obj α] σ = .ok .none (σ.set α (strm io 0 0 le wm ch sz)) := by
  apply callF_to [("self", .obj α)] fn_KaitaiStream_align_to_byte (by rfl) (by rfl)
  repeat (walk_at "mini")
  rw [List.set_set]
theorem L_index {n : Int} {q : PV} (h1 : n ≤ 1099511627776) (h2 : -1099511627776 ≤ n) : callF (W0 P ns) (d + 1) 35 [.int n, q] σ = .ok (.int n) σ := by
  apply callF_to [("n", .int n), ("what", q)] fn__index (by rfl) (by rfl)
  repeat (walk_at "mini")

local macro_rules | `(tactic| walk_at "mini call") => `(tactic| ((with_reducible apply callV_fn fn__index); first | ((with_reducible apply L_index); (omega); (omega))))
theorem L_whence {n : Int} {q : PV} (h1 : n ≤ 2147483647) (h2 : -2147483648 ≤ n) : callF (W0 P ns) (d + 2) 28 [.int n, q] σ = .ok (.int n) σ := by
  apply callF_to [("n", .int n), ("what", q)] fn__whence (by rfl) (by rfl)
  repeat (walk_at "mini")
local macro_rules | `(tactic| walk_at "mini call") => `(tactic| ((with_reducible apply callV_fn fn__whence); first | ((with_reducible apply L_whence); (omega); (omega))))
local macro_rules | `(tactic| walk_at "mini call") => `(tactic| ((with_reducible apply callV_fn fn_KaitaiStream_align_to_byte); ((with_reducible apply L_align); (walk_at "mini h"))))
theorem L_check (h : σ[β]? = some (bio γ p)) : callF (W0 P ns) (d + 1) 116 [.obj β] σ = .ok .none σ := by
  apply callF_to [("self", .obj β)] fn_BytesIO___check (by rfl) (by rfl)
  repeat (walk_at "mini")
local macro_rules | `(tactic| walk_at "mini call") => `(tactic| ((with_reducible apply callV_fn fn_BytesIO___check); ((with_reducible apply L_check); (walk_at "mini h"))))
theorem L_tell (h : σ[β]? = some (bio γ p)) : callF (W0 P ns) (d + 2) 222 [.obj β] σ = .ok (.int p) σ := by
  apply callF_to [("self", .obj β)] fn_BytesIO_tell (by rfl) (by rfl)
  repeat (walk_at "mini")
  · rw [Int.add_zero]
  · rfl
end

end Mine
end
/-! part A2_br5014_04 -/
section
open PySem PySem.W PySem.Calls PyProof.Rows
namespace Mine
local macro_rules | `(tactic| walk_at "mini ne") => `(tactic| first
  | assumption
  | exact Ne.symm (by assumption)
  | ((with_reducible apply h_fresh); walk_at "mini h")
  | ((with_reducible apply h_fresh'); walk_at "mini h")
  | omega)
local macro_rules | `(tactic| walk_at "mini h") => `(tactic| first
  | assumption
  | (with_reducible exact h_new)
  | ((with_reducible apply h_set); walk_at "mini h")
  | ((with_reducible apply h_app); walk_at "mini h")
  | ((with_reducible apply h_ne); (walk_at "mini ne"); walk_at "mini h"))
local macro_rules | `(tactic| walk_at "mini v") => `(tactic| first
  | (with_reducible exact vs_same)
  | (with_reducible assumption)
  | ((with_reducible apply vs_ne); (decide +kernel); walk_at "mini v")
  | rfl)
local macro_rules | `(tactic| walk_at "mini c") => `(tactic| first
  | rfl
  | assumption
  | (simp only [decide_eq_true_eq, decide_eq_false_iff_not, beq_iff_eq, bne_iff_ne, bne_eq_false_iff_eq, Bool.not_eq_true', Bool.not_eq_false', ne_eq, beq_eq_false_iff_ne, not_true_eq_false, not_false_eq_true] <;> first | omega | assumption)
  | (simp; done))
local macro_rules | `(tactic| walk_at "mini g") => `(tactic| fail "mini g")
local macro_rules | `(tactic| walk_at "mini m") => `(tactic| ((with_reducible apply getM_app); walk_at "mini h"))
local macro_rules | `(tactic| walk_at "mini call") => `(tactic| first | (with_reducible assumption) | ((walk_at "mini fn"); with_reducible assumption))
local macro_rules | `(tactic| walk_at "mini xs") => `(tactic| first
  | (with_reducible exact xs_nil)
  | (apply xs_step))
local macro_rules | `(tactic| walk_at "mini x") => `(tactic| with_reducible first
  | (apply x_asgN)
  | (apply x_if)
  | (apply x_ret)
  | (apply x_asgA)
  | (apply x_expr)
  | (apply x_augN)
  | (apply x_augA)
  | (apply x_for)
  | (apply x_while)
  | (apply x_asgS)
  | (apply x_asgI)
  | (apply x_try)
  | (exact x_ret0)
  | (exact x_pass))
local macro_rules | `(tactic| walk_at "mini e") => `(tactic| with_reducible first
  | (apply r_name)
  | (exact r_int)
  | (apply r_attr)
  | (apply r_bin)
  | (apply r_meth)
  | (apply r_call)
  | (exact r_none)
  | (exact r_bool)
  | (exact r_str)
  | (exact r_bytes)
  | (apply r_neg)
  | (apply r_not)
  | (apply r_ifx)
  | (apply r_and)
  | (apply r_or)
  | (apply r_cmp)
  | (apply r_list)
  | (apply r_tup)
  | (apply r_slice)
  | (apply r_sub)
  | (apply r_comp))
local macro_rules | `(tactic| walk_at "mini ts") => `(tactic| with_reducible first
  | (apply q_cmp)
  | (apply q_name)
  | (apply q_not)
  | (apply q_ops)
  | (apply q_attr)
  | (apply q_call)
  | (apply q_sub)
  | (apply q_bin))
local macro_rules | `(tactic| walk_at "mini i") => `(tactic| first
  | (with_reducible exact i_add)
  | (with_reducible exact i_sub)
  | ((with_reducible apply i_modp); first | omega | decide)
  | ((with_reducible apply i_shrp); first | omega | decide)
  | ((with_reducible apply i_divp); (first | omega | decide); (first | omega | decide))
  | ((with_reducible apply i_shl); first | omega | decide)
  | ((with_reducible apply i_mul))
  | ((with_reducible apply i_pow); first | omega | decide)
  | (with_reducible exact i_and)
  | (with_reducible exact i_or)
  | (with_reducible exact i_xor))
local macro_rules | `(tactic| walk_at "mini b") => `(tactic| first
  | (with_reducible exact b_int)
  | (with_reducible apply b_type)
  | ((with_reducible apply b_len_barr); (walk_at "mini h"))
  | ((with_reducible apply b_len_bytes))
  | ((with_reducible apply b_len_str))
  | ((with_reducible apply b_len_list); (walk_at "mini h"))
  | ((with_reducible apply b_bytes_b); (walk_at "mini h"))
  | ((with_reducible apply b_barr_b))
  | ((with_reducible apply b_bytes_1); (omega); (omega))
  | ((with_reducible apply b_barr_n); (omega))
  | ((with_reducible apply b_append); (walk_at "mini h"))
  | ((with_reducible apply b_bytes_l); (walk_at "mini h"); (with_reducible assumption))
  | ((with_reducible apply b_ord); (with_reducible assumption))
  | ((with_reducible apply range_up); (omega); (omega))
  | ((with_reducible apply range_ab); (omega); (omega); (omega); (omega))
  | ((with_reducible apply range_by); (first | omega | decide); (first | omega | decide); (omega); (omega))
  | ((with_reducible apply range_down); (omega); (omega); (omega); (omega)))
local macro_rules | `(tactic| walk_at "mini") => `(tactic| first
  | ((with_reducible change ev _ _ _ _ _ _ _ = _); walk_at "mini e")
  | ((with_reducible change nameV _ _ _ _ = _); first
    | ((with_reducible apply name_loc); (decide +kernel); (walk_at "mini v"); (decide +kernel))
    | ((with_reducible apply name_glob); (decide +kernel); (walk_at "mini m"); (decide +kernel))
    | ((with_reducible apply name_cell); (decide +kernel); (walk_at "mini v"); (decide +kernel)))
  | ((with_reducible change ex _ _ _ _ _ _ _ = _); walk_at "mini x")
  | ((with_reducible change exs _ _ _ _ _ _ _ = _); walk_at "mini xs")
  | ((with_reducible change SR.andThen _ _ = _); first | (with_reducible apply at_next) | (with_reducible exact at_ret))
  | ((with_reducible change ts _ _ _ _ _ _ _ = _); walk_at "mini ts")
  | ((with_reducible change tsL _ _ _ _ _ _ _ _ = _); with_reducible first | (apply q_and) | (apply q_or) | (exact q_nil))
  | ((with_reducible change evL _ _ _ = _); with_reducible first | (exact r_nil) | (apply r_cons))
  | ((with_reducible change getA _ _ _ _ = _); walk_at "mini g")
  | ((with_reducible change setA _ _ _ _ _ = _); walk_at "mini g")
  | ((with_reducible change getM _ _ _ _ = _); walk_at "mini m")
  | ((with_reducible change callable _ _ = _); first | (walk_at "mini m") | rfl)
  | ((with_reducible change binop _ _ _ _ = _); first
    | (with_reducible apply i_bin)
    | ((with_reducible apply b_cat); (walk_at "mini h"); (walk_at "mini h"))
    | ((with_reducible apply b_rep); (walk_at "mini h"))
    | (with_reducible apply b_cats)
    | (with_reducible apply b_smul))
  | ((with_reducible change intOp _ _ _ = _); walk_at "mini i")
  | ((with_reducible change cmpop _ _ _ _ = _); first | rfl | ((with_reducible apply c_eq_lists); (walk_at "mini h"); (walk_at "mini h")) | ((with_reducible apply c_ne_lists); (walk_at "mini h"); (walk_at "mini h")))
  | ((with_reducible change truthO _ _ _ = _); rfl)
  | ((with_reducible change callV _ _ _ _ _ = _); first | (with_reducible apply callV_type) | (with_reducible apply callV_blt) | (with_reducible apply callV_meth) | (walk_at "mini call"))
  | ((with_reducible change bcall _ _ _ _ = _); walk_at "mini b")
  | ((with_reducible change (ite _ _ _) = _); first
    | ((with_reducible apply ite_t); (walk_at "mini c"))
    | ((with_reducible apply ite_f); (walk_at "mini c")))
  | (with_reducible exact okR)
  | (with_reducible exact okS)
  | (with_reducible exact an_ret)
  | (with_reducible exact an_next)
  | (with_reducible exact okP)
  | (with_reducible exact okH)
  | ((with_reducible change callF _ _ _ _ _ = _); with_reducible assumption)
  | ((with_reducible change partO _ = _); rfl)
  | ((with_reducible change localIn _ _ = _); decide +kernel)
  | ((with_reducible change isListComp _ = _); rfl)
  | ((with_reducible change plainIter _ = _); rfl)
  | ((with_reducible change isCallE _ = _); rfl)
  | ((with_reducible change behindInMarks _ _ = _); rfl)
  | ((with_reducible change List.any _ isStarredE = _); rfl)
  | ((with_reducible change (isCallE _ || _ || _ || _) = _); rfl)
  | ((with_reducible change ∀ _ _ _ _, _); intros; intro hq; cases hq)
  | ((with_reducible change evO _ _ _ _ _ _ _ = _); with_reducible first | (exact r_evO_none) | (apply r_evO_some))
  | (with_reducible exact app1)
  | (with_reducible exact app0)
  | ((with_reducible change typeOfP _ _ = _); first | (with_reducible exact ty_int) | (with_reducible exact ty_bytes) | ((with_reducible apply ty_barr); walk_at "mini h"))
  | ((with_reducible change powOk _ _ = _); with_reducible assumption)
  | ((with_reducible change mulOk _ _ = _); first | (with_reducible assumption) | ((apply mul_ok); (first | decide | omega)) | ((apply mul_ok'); (first | decide | omega)))
  | ((with_reducible change shlOk _ _ = _); first | assumption | ((apply shl_one); omega))
  | ((with_reducible change (_ : Int) ≤ _); omega)
  | ((with_reducible change (_ : Int) < _); omega)
  | ((with_reducible change sizeOk _ = _); first | rfl | (apply sz_ok; first | omega | (simp; omega)))
  | ((with_reducible change subS _ _ _ _ _ _ = _); first
    | ((with_reducible apply s_barr_ex); (walk_at "mini h"); (omega); (omega))
    | ((with_reducible apply s_list_dt); (walk_at "mini h"); (omega); (omega))
    | ((with_reducible apply s_list_hi); (walk_at "mini h"); (omega))
    | ((with_reducible apply s_scr_hi); (omega))
    | ((with_reducible apply s_bytes_hi); (omega))
    | ((with_reducible apply s_bytes_lo); (omega)))
  | ((with_reducible change sameObj _ _ = _); first | rfl | (exact beq_eq_false_iff_ne.mpr (by walk_at "mini ne")))
  | ((with_reducible change setI _ _ _ _ = _); (with_reducible apply st_barr_i); (walk_at "mini h"); (with_reducible assumption))
  | ((with_reducible change setS _ _ _ _ _ = _); (with_reducible apply st_barr_s); (walk_at "mini h"))
  | ((with_reducible change octetsOf _ _ = _); first | (with_reducible exact oc_bytes) | ((with_reducible apply oc_barr); (walk_at "mini h"))))
local macro_rules | `(tactic| walk_at "mini s") => `(tactic| first
  | ((apply ok_step); (· ((repeat (walk_at "mini")); done)))
  | ((with_reducible apply ok_nilB))
  | ((with_reducible apply ok_beh))
  | ((with_reducible apply ok_nil)))
local macro_rules | `(tactic| walk_at "mini r") => `(tactic| first
  | ((apply ok_retB); (· ((repeat (walk_at "mini")); done)))
  | ((apply ok_ret); (· ((repeat (walk_at "mini")); done))))

local macro_rules | `(tactic| walk_at "mini g") => `(tactic| with_reducible first
  | (apply g_io; walk_at "mini h") | (apply g_bl; walk_at "mini h") | (apply g_bits; walk_at "mini h") | (apply g_le; walk_at "mini h") | (apply g_wm; walk_at "mini h") | (apply g_sz; walk_at "mini h")
  | (apply g_buf; walk_at "mini h") | (apply g_pos; walk_at "mini h")
  | (apply p_bl; walk_at "mini h") | (apply p_bits; walk_at "mini h") | (apply p_le; walk_at "mini h") | (apply p_wm; walk_at "mini h") | (apply p_sz; walk_at "mini h") | (apply p_pos; walk_at "mini h"))

local macro_rules | `(tactic| walk_at "mini fn") => `(tactic| with_reducible first
  | apply callV_fn fn__whence
  | apply callV_fn fn__index
  | apply callV_fn fn_IOBase___new__
  | apply callV_fn fn_BytesIO___init__
  | apply callV_fn fn_BytesIO___check
  | apply callV_fn fn_BytesIO_seekable
  | apply callV_fn fn_BytesIO_tell
  | apply callV_fn fn_BytesIO_seek
  | apply callV_fn fn_BytesIO_read
  | apply callV_fn fn_BytesIO_write
  | apply callV_fn fn_KaitaiStruct___init__
  | apply callV_fn fn_KaitaiStruct_from_bytes
  | apply callV_fn fn_KaitaiStream___init__
  | apply callV_fn fn_KaitaiStream_is_eof
  | apply callV_fn fn_KaitaiStream_seek
  | apply callV_fn fn_KaitaiStream_pos
  | apply callV_fn fn_KaitaiStream_size
  | apply callV_fn fn_KaitaiStream_align_to_byte
  | apply callV_fn fn_KaitaiStream_read_bits_int_be
  | apply callV_fn fn_KaitaiStream__read_bytes_not_aligned
  | apply callV_fn fn_KaitaiStream_read_bytes_full
  | apply callV_fn fn_KaitaiStream__ensure_bytes_left_to_write
  | apply callV_fn fn_KaitaiStream_write_align_to_byte
  | apply callV_fn fn_KaitaiStream_write_bits_int_be
  | apply callV_fn fn_KaitaiStream__write_bytes_not_aligned
  | apply callV_fn fn_KaitaiStream_byte_from_int
  | apply callV_fn fn_KaitaiStream_to_byte_array
  | apply callV_fn fn_KaitaiStructError___init__
  | apply callV_fn fn_InvalidArgumentError___init__
  | apply callV_fn fn_EndOfStreamError___init__
  | apply callV_fn fn__law_vectors
  | apply callV_fn fn__law_plain_groups
  | apply callV_fn fn__law_text
  | apply callV_fn fn__law_read
  | apply callV_fn fn__law_sextets
  | apply callV_fn fn__law_write
  | apply callV_fn fn__law_round
  | apply callV_fn fn_law)
local macro_rules | `(tactic| walk_at "mini m") => `(tactic| with_reducible first
  | exact gv_AttributeError
  | exact gv_BytesIO
  | exact gv_EndOfStreamError
  | exact gv_InvalidArgumentError
  | exact gv_KaitaiStream
  | exact gv_KaitaiStruct
  | exact gv_KaitaiStructError
  | exact gv_OSError
  | exact gv_PY2
  | exact gv_SEEK_END
  | exact gv_ValueError
  | exact gv__index
  | exact gv__law_plain_groups
  | exact gv__law_read
  | exact gv__law_round
  | exact gv__law_sextets
  | exact gv__law_text
  | exact gv__law_vectors
  | exact gv__law_write
  | exact gv__whence
  | exact gv_bool
  | exact gv_bytearray
  | exact gv_bytes
  | exact gv_callable
  | exact gv_chr
  | exact gv_getattr
  | exact gv_int
  | exact gv_len
  | exact gv_object
  | exact gv_ord
  | exact gv_range
  | exact gv_str
  | exact gv_super
  | exact gv_type
  | (apply mm_BytesIO__BytesIO__check; walk_at "mini h")
  | (apply mm_BytesIO___init__; walk_at "mini h")
  | (apply mm_BytesIO_read; walk_at "mini h")
  | (apply mm_BytesIO_seek; walk_at "mini h")
  | (apply mm_BytesIO_seekable; walk_at "mini h")
  | (apply mm_BytesIO_tell; walk_at "mini h")
  | (apply mm_BytesIO_write; walk_at "mini h")
  | (apply mm_KaitaiStruct___init__; walk_at "mini h")
  | exact getM_cls cm_KaitaiStruct_from_bytes
  | exact cm2_KaitaiStruct_from_bytes
  | (apply mm_KaitaiStream___init__; walk_at "mini h")
  | (apply mm_KaitaiStream__ensure_bytes_left_to_write; walk_at "mini h")
  | (apply mm_KaitaiStream__read_bytes_not_aligned; walk_at "mini h")
  | (apply mm_KaitaiStream__write_bytes_not_aligned; walk_at "mini h")
  | (apply mm_KaitaiStream_align_to_byte; walk_at "mini h")
  | exact getM_cls cm_KaitaiStream_byte_from_int
  | (apply mm_KaitaiStream_is_eof; walk_at "mini h")
  | (apply mm_KaitaiStream_pos; walk_at "mini h")
  | (apply mm_KaitaiStream_read_bits_int_be; walk_at "mini h")
  | (apply mm_KaitaiStream_read_bytes_full; walk_at "mini h")
  | (apply mm_KaitaiStream_seek; walk_at "mini h")
  | (apply mm_KaitaiStream_size; walk_at "mini h")
  | (apply mm_KaitaiStream_to_byte_array; walk_at "mini h")
  | (apply mm_KaitaiStream_write_align_to_byte; walk_at "mini h")
  | (apply mm_KaitaiStream_write_bits_int_be; walk_at "mini h"))

local macro_rules | `(tactic| walk_at "mini call") => `(tactic| ((with_reducible apply callV_fn fn__index); ((with_reducible apply L_index); (omega); (omega))))
local macro_rules | `(tactic| walk_at "mini call") => `(tactic| ((with_reducible apply callV_fn fn__whence); ((with_reducible apply L_whence); (omega); (omega))))
local macro_rules | `(tactic| walk_at "mini call") => `(tactic| ((with_reducible apply callV_fn fn_KaitaiStream_align_to_byte); ((with_reducible apply L_align); (walk_at "mini h"))))
local macro_rules | `(tactic| walk_at "mini call") => `(tactic| ((with_reducible apply callV_fn fn_BytesIO___check); ((with_reducible apply L_check); (walk_at "mini h"))))
local macro_rules | `(tactic| walk_at "mini call") => `(tactic| ((with_reducible apply callV_fn fn_BytesIO_tell); ((with_reducible apply L_tell); (walk_at "mini h"))))

section
variable {P : Params} {ns : List Int} {σ : PH} {α β γ ch : Nat} {io : Nat} {bl b sz v p : Int} {le wm lv : Bool} {buf : Array UInt8} {d : Nat}
set_option maxHeartbeats 4000000
theorem L_seek {q : Int} (h : σ[β]? = some (bio γ p)) (h0 : 0 ≤ q) (h1 : q ≤ 1099511627776) : callF (W0 P ns) (d + 3) 230 [.obj β, .int q] σ = .ok (.int q) (σ.set β (bio γ q)) := by
  apply callF_to [("self", .obj β), ("pos", .int q), ("whence", .int 0)] fn_BytesIO_seek (by rfl) (by rfl)
  repeat (walk_at "mini")
  · rw [Int.add_zero]
  · rfl
theorem L_seek2 (h : σ[β]? = some (bio γ p)) (hb : σ[γ]? = some (.barr buf)) (hs : buf.size ≤ 16777216) : callF (W0 P ns) (d + 3) 230 [.obj β, .int 0, .int 2] σ = .ok (.int buf.size) (σ.set β (bio γ buf.size)) := by
  apply callF_to [("self", .obj β), ("pos", .int 0), ("whence", .int 2)] fn_BytesIO_seek (by rfl) (by rfl)
  repeat (walk_at "mini")
  all_goals simp
local macro_rules | `(tactic| walk_at "mini call") => `(tactic| ((with_reducible apply callV_fn fn_BytesIO_seek); first | ((with_reducible apply L_seek2); (walk_at "mini h"); (walk_at "mini h"); (assumption)) | ((with_reducible apply L_seek); (walk_at "mini h"); (omega); (omega))))
theorem L_size (h : σ[α]? = some (strm β bl b le wm ch sz)) (hβ : σ[β]? = some (bio γ p)) (hb : σ[γ]? = some (.barr buf)) (n1 : β ≠ γ) (hp : 0 ≤ p) (hp2 : p ≤ 1099511627776) (hs : buf.size ≤ 16777216) : callF (W0 P ns) (d + 4) 668 [.obj α] σ = .ok (.int buf.size) σ := by
  apply callF_to [("self", .obj α)] fn_KaitaiStream_size (by rfl) (by rfl)
  repeat (walk_at "mini")
  rw [List.set_set, setself hβ]
local macro_rules | `(tactic| walk_at "mini call") => `(tactic| ((with_reducible apply callV_fn fn_KaitaiStream_size); ((with_reducible apply L_size); (walk_at "mini h"); (walk_at "mini h"); (walk_at "mini h"); (assumption); (omega); (omega); (omega))))
theorem L_pos_r (h : σ[α]? = some (strm β bl b le false ch sz)) (hβ : σ[β]? = some (bio γ p)) : callF (W0 P ns) (d + 4) 661 [.obj α] σ = .ok (.int p) σ := by
  apply callF_to [("self", .obj α)] fn_KaitaiStream_pos (by rfl) (by rfl)
  repeat (walk_at "mini")
  · rw [Int.add_zero]
  · rfl
theorem L_pos_w0 (h : σ[α]? = some (strm β bl b le true ch sz)) (hβ : σ[β]? = some (bio γ p)) (hl : bl ≤ 0) : callF (W0 P ns) (d + 4) 661 [.obj α] σ = .ok (.int p) σ := by
  apply callF_to [("self", .obj α)] fn_KaitaiStream_pos (by rfl) (by rfl)
  repeat (walk_at "mini")
  · rw [Int.add_zero]
  · rfl
theorem L_pos_w1 (h : σ[α]? = some (strm β bl b le true ch sz)) (hβ : σ[β]? = some (bio γ p)) (hl : 0 < bl) : callF (W0 P ns) (d + 4) 661 [.obj α] σ = .ok (.int (p + 1)) σ := by
  apply callF_to [("self", .obj α)] fn_KaitaiStream_pos (by rfl) (by rfl)
  repeat (walk_at "mini")
theorem L_eof_no (h : σ[α]? = some (strm β bl b le false ch sz)) (hl : 0 < bl) : callF (W0 P ns) (d + 5) 647 [.obj α] σ = .ok (.bool false) σ := by
  apply callF_to [("self", .obj α)] fn_KaitaiStream_is_eof (by rfl) (by rfl)
  repeat (walk_at "mini")
theorem L_eof (h : σ[α]? = some (strm β bl b le false ch sz)) (hβ : σ[β]? = some (bio γ p)) (hb : σ[γ]? = some (.barr buf)) (n1 : β ≠ γ) (hp : 0 ≤ p) (hp2 : p ≤ 1099511627776) (hs : buf.size ≤ 16777216) (hl : bl ≤ 0) : callF (W0 P ns) (d + 5) 647 [.obj α] σ = .ok (.bool (decide ((buf.size : Int) ≤ p))) σ := by
  apply callF_to [("self", .obj α)] fn_KaitaiStream_is_eof (by rfl) (by rfl)
  repeat (walk_at "mini")
theorem ne_bb (hβ : σ[β]? = some (bio γ p)) (hb : σ[γ]? = some (.barr buf)) : β ≠ γ := fun e => by subst e; rw [hβ] at hb; cases hb
theorem L_read {n : Int} (hβ : σ[β]? = some (bio γ p)) (hb : σ[γ]? = some (.barr buf)) (hp : 0 ≤ p) (hs : buf.size ≤ 16777216) (hn : 0 < n) (hpn : p + n ≤ buf.size) :
    callF (W0 P ns) (d + 3) 246 [.obj β, .int n] σ = .ok (.bytes (buf.extract p.toNat (p + n).toNat)) (σ.set β (bio γ (p + n)) ++ [.barr (buf.extract p.toNat (p + n).toNat)]) := by
  have n1 : β ≠ γ := ne_bb hβ hb
  by_cases e : p + n < buf.size
  · apply callF_to [("self", .obj β), ("size", .int n)] fn_BytesIO_read (by rfl) (by rfl)
    repeat (walk_at "mini")
  · have e' : (buf.size : Int) = p + n := by omega
    apply callF_to [("self", .obj β), ("size", .int n)] fn_BytesIO_read (by rfl) (by rfl)
    repeat (walk_at "mini")
    all_goals rw [e']
theorem L_write {c : Array UInt8} {cv : PV} (hβ : σ[β]? = some (bio γ p)) (hb : σ[γ]? = some (.barr buf)) (hp : 0 ≤ p) (hs : buf.size ≤ 16777216) (hc : 0 < c.size) (hpn : p + c.size ≤ buf.size)
    (hcv : cv = .bytes c ∨ ∃ δ, cv = .obj δ ∧ δ ≠ γ ∧ σ[δ]? = some (.barr c)) :
    callF (W0 P ns) (d + 3) 305 [.obj β, cv] σ = .ok (.int c.size) ((σ.set γ (.barr (splicedB buf c p (p + c.size)))).set β (bio γ (p + c.size))) := by
  have n1 : β ≠ γ := ne_bb hβ hb
  have hsz : (splicedB buf c p (p + c.size)).size ≤ 16777216 := by unfold splicedB; simp; omega
  rcases hcv with rfl | ⟨δ, rfl, n2, hδ⟩
  · apply callF_to [("self", .obj β), ("b", .bytes c)] fn_BytesIO_write (by rfl) (by rfl)
    repeat (walk_at "mini")
  · apply callF_to [("self", .obj β), ("b", .obj δ)] fn_BytesIO_write (by rfl) (by rfl)
    repeat (walk_at "mini")
end

end Mine
end
/-! part A3_br5014_04 -/
section
open PySem PySem.W PySem.Calls PyProof.Rows
namespace Mine
local macro_rules | `(tactic| walk_at "mini ne") => `(tactic| first
  | assumption
  | exact Ne.symm (by assumption)
  | ((with_reducible apply h_fresh); walk_at "mini h")
  | ((with_reducible apply h_fresh'); walk_at "mini h")
  | omega)
local macro_rules | `(tactic| walk_at "mini h") => `(tactic| first
  | assumption
  | (with_reducible exact h_new)
  | ((with_reducible apply h_set); walk_at "mini h")
  | ((with_reducible apply h_app); walk_at "mini h")
  | ((with_reducible apply h_ne); (walk_at "mini ne"); walk_at "mini h"))
local macro_rules | `(tactic| walk_at "mini v") => `(tactic| first
  | (with_reducible exact vs_same)
  | (with_reducible assumption)
  | ((with_reducible apply vs_ne); (decide +kernel); walk_at "mini v")
  | rfl)
local macro_rules | `(tactic| walk_at "mini c") => `(tactic| first
  | rfl
  | assumption
  | (simp only [decide_eq_true_eq, decide_eq_false_iff_not, beq_iff_eq, bne_iff_ne, bne_eq_false_iff_eq, Bool.not_eq_true', Bool.not_eq_false', ne_eq, beq_eq_false_iff_ne, not_true_eq_false, not_false_eq_true] <;> first | omega | assumption)
  | (simp; done))
local macro_rules | `(tactic| walk_at "mini g") => `(tactic| fail "mini g")
local macro_rules | `(tactic| walk_at "mini m") => `(tactic| ((with_reducible apply getM_app); walk_at "mini h"))
local macro_rules | `(tactic| walk_at "mini call") => `(tactic| first | (with_reducible assumption) | ((walk_at "mini fn"); with_reducible assumption))
local macro_rules | `(tactic| walk_at "mini xs") => `(tactic| first
  | (with_reducible exact xs_nil)
  | (apply xs_step))
local macro_rules | `(tactic| walk_at "mini x") => `(tactic| with_reducible first
  | (apply x_asgN)
  | (apply x_if)
  | (apply x_ret)
  | (apply x_asgA)
  | (apply x_expr)
  | (apply x_augN)
  | (apply x_augA)
  | (apply x_for)
  | (apply x_while)
  | (apply x_asgS)
  | (apply x_asgI)
  | (apply x_try)
  | (exact x_ret0)
  | (exact x_pass))
local macro_rules | `(tactic| walk_at "mini e") => `(tactic| with_reducible first
  | (apply r_name)
  | (exact r_int)
  | (apply r_attr)
  | (apply r_bin)
  | (apply r_meth)
  | (apply r_call)
  | (exact r_none)
  | (exact r_bool)
  | (exact r_str)
  | (exact r_bytes)
  | (apply r_neg)
  | (apply r_not)
  | (apply r_ifx)
  | (apply r_and)
  | (apply r_or)
  | (apply r_cmp)
  | (apply r_list)
  | (apply r_tup)
  | (apply r_slice)
  | (apply r_sub)
  | (apply r_comp))
local macro_rules | `(tactic| walk_at "mini ts") => `(tactic| with_reducible first
  | (apply q_cmp)
  | (apply q_name)
  | (apply q_not)
  | (apply q_ops)
  | (apply q_attr)
  | (apply q_call)
  | (apply q_sub)
  | (apply q_bin))
local macro_rules | `(tactic| walk_at "mini i") => `(tactic| first
  | (with_reducible exact i_add)
  | (with_reducible exact i_sub)
  | ((with_reducible apply i_modp); first | omega | decide)
  | ((with_reducible apply i_shrp); first | omega | decide)
  | ((with_reducible apply i_divp); (first | omega | decide); (first | omega | decide))
  | ((with_reducible apply i_shl); first | omega | decide)
  | ((with_reducible apply i_mul))
  | ((with_reducible apply i_pow); first | omega | decide)
  | (with_reducible exact i_and)
  | (with_reducible exact i_or)
  | (with_reducible exact i_xor))
local macro_rules | `(tactic| walk_at "mini b") => `(tactic| first
  | (with_reducible exact b_int)
  | (with_reducible apply b_type)
  | ((with_reducible apply b_len_barr); (walk_at "mini h"))
  | ((with_reducible apply b_len_bytes))
  | ((with_reducible apply b_len_str))
  | ((with_reducible apply b_len_list); (walk_at "mini h"))
  | ((with_reducible apply b_bytes_b); (walk_at "mini h"))
  | ((with_reducible apply b_barr_b))
  | ((with_reducible apply b_bytes_1); (omega); (omega))
  | ((with_reducible apply b_barr_n); (omega))
  | ((with_reducible apply b_append); (walk_at "mini h"))
  | ((with_reducible apply b_bytes_l); (walk_at "mini h"); (with_reducible assumption))
  | ((with_reducible apply b_ord); (with_reducible assumption))
  | ((with_reducible apply range_up); (omega); (omega))
  | ((with_reducible apply range_ab); (omega); (omega); (omega); (omega))
  | ((with_reducible apply range_by); (first | omega | decide); (first | omega | decide); (omega); (omega))
  | ((with_reducible apply range_down); (omega); (omega); (omega); (omega)))
local macro_rules | `(tactic| walk_at "mini") => `(tactic| first
  | ((with_reducible change ev _ _ _ _ _ _ _ = _); walk_at "mini e")
  | ((with_reducible change nameV _ _ _ _ = _); first
    | ((with_reducible apply name_loc); (decide +kernel); (walk_at "mini v"); (decide +kernel))
    | ((with_reducible apply name_glob); (decide +kernel); (walk_at "mini m"); (decide +kernel))
    | ((with_reducible apply name_cell); (decide +kernel); (walk_at "mini v"); (decide +kernel)))
  | ((with_reducible change ex _ _ _ _ _ _ _ = _); walk_at "mini x")
  | ((with_reducible change exs _ _ _ _ _ _ _ = _); walk_at "mini xs")
  | ((with_reducible change SR.andThen _ _ = _); first | (with_reducible apply at_next) | (with_reducible exact at_ret))
  | ((with_reducible change ts _ _ _ _ _ _ _ = _); walk_at "mini ts")
  | ((with_reducible change tsL _ _ _ _ _ _ _ _ = _); with_reducible first | (apply q_and) | (apply q_or) | (exact q_nil))
  | ((with_reducible change evL _ _ _ = _); with_reducible first | (exact r_nil) | (apply r_cons))
  | ((with_reducible change getA _ _ _ _ = _); walk_at "mini g")
  | ((with_reducible change setA _ _ _ _ _ = _); walk_at "mini g")
  | ((with_reducible change getM _ _ _ _ = _); walk_at "mini m")
  | ((with_reducible change callable _ _ = _); first | (walk_at "mini m") | rfl)
  | ((with_reducible change binop _ _ _ _ = _); first
    | (with_reducible apply i_bin)
    | ((with_reducible apply b_cat); (walk_at "mini h"); (walk_at "mini h"))
    | ((with_reducible apply b_rep); (walk_at "mini h"))
    | (with_reducible apply b_cats)
    | (with_reducible apply b_smul))
  | ((with_reducible change intOp _ _ _ = _); walk_at "mini i")
  | ((with_reducible change cmpop _ _ _ _ = _); first | rfl | ((with_reducible apply c_eq_lists); (walk_at "mini h"); (walk_at "mini h")) | ((with_reducible apply c_ne_lists); (walk_at "mini h"); (walk_at "mini h")))
  | ((with_reducible change truthO _ _ _ = _); rfl)
  | ((with_reducible change callV _ _ _ _ _ = _); first | (with_reducible apply callV_type) | (with_reducible apply callV_blt) | (with_reducible apply callV_meth) | (walk_at "mini call"))
  | ((with_reducible change bcall _ _ _ _ = _); walk_at "mini b")
  | ((with_reducible change (ite _ _ _) = _); first
    | ((with_reducible apply ite_t); (walk_at "mini c"))
    | ((with_reducible apply ite_f); (walk_at "mini c")))
  | (with_reducible exact okR)
  | (with_reducible exact okS)
  | (with_reducible exact an_ret)
  | (with_reducible exact an_next)
  | (with_reducible exact okP)
  | (with_reducible exact okH)
  | ((with_reducible change callF _ _ _ _ _ = _); with_reducible assumption)
  | ((with_reducible change partO _ = _); rfl)
  | ((with_reducible change localIn _ _ = _); decide +kernel)
  | ((with_reducible change isListComp _ = _); rfl)
  | ((with_reducible change plainIter _ = _); rfl)
  | ((with_reducible change isCallE _ = _); rfl)
  | ((with_reducible change behindInMarks _ _ = _); rfl)
  | ((with_reducible change List.any _ isStarredE = _); rfl)
  | ((with_reducible change (isCallE _ || _ || _ || _) = _); rfl)
  | ((with_reducible change ∀ _ _ _ _, _); intros; intro hq; cases hq)
  | ((with_reducible change evO _ _ _ _ _ _ _ = _); with_reducible first | (exact r_evO_none) | (apply r_evO_some))
  | (with_reducible exact app1)
  | (with_reducible exact app0)
  | ((with_reducible change typeOfP _ _ = _); first | (with_reducible exact ty_int) | (with_reducible exact ty_bytes) | ((with_reducible apply ty_barr); walk_at "mini h"))
  | ((with_reducible change powOk _ _ = _); with_reducible assumption)
  | ((with_reducible change mulOk _ _ = _); first | (with_reducible assumption) | ((apply mul_ok); (first | decide | omega)) | ((apply mul_ok'); (first | decide | omega)))
  | ((with_reducible change shlOk _ _ = _); first | assumption | ((apply shl_one); omega))
  | ((with_reducible change (_ : Int) ≤ _); omega)
  | ((with_reducible change (_ : Int) < _); omega)
  | ((with_reducible change sizeOk _ = _); first | rfl | (apply sz_ok; first | omega | (simp; omega)))
  | ((with_reducible change subS _ _ _ _ _ _ = _); first
    | ((with_reducible apply s_barr_ex); (walk_at "mini h"); (omega); (omega))
    | ((with_reducible apply s_list_dt); (walk_at "mini h"); (omega); (omega))
    | ((with_reducible apply s_list_hi); (walk_at "mini h"); (omega))
    | ((with_reducible apply s_scr_hi); (omega))
    | ((with_reducible apply s_bytes_hi); (omega))
    | ((with_reducible apply s_bytes_lo); (omega)))
  | ((with_reducible change sameObj _ _ = _); first | rfl | (exact beq_eq_false_iff_ne.mpr (by walk_at "mini ne")))
  | ((with_reducible change setI _ _ _ _ = _); (with_reducible apply st_barr_i); (walk_at "mini h"); (with_reducible assumption))
  | ((with_reducible change setS _ _ _ _ _ = _); (with_reducible apply st_barr_s); (walk_at "mini h"))
  | ((with_reducible change octetsOf _ _ = _); first | (with_reducible exact oc_bytes) | ((with_reducible apply oc_barr); (walk_at "mini h"))))
local macro_rules | `(tactic| walk_at "mini s") => `(tactic| first
  | ((apply ok_step); (· ((repeat (walk_at "mini")); done)))
  | ((with_reducible apply ok_nilB))
  | ((with_reducible apply ok_beh))
  | ((with_reducible apply ok_nil)))
local macro_rules | `(tactic| walk_at "mini r") => `(tactic| first
  | ((apply ok_retB); (· ((repeat (walk_at "mini")); done)))
  | ((apply ok_ret); (· ((repeat (walk_at "mini")); done))))

local macro_rules | `(tactic| walk_at "mini g") => `(tactic| with_reducible first
  | (apply g_io; walk_at "mini h") | (apply g_bl; walk_at "mini h") | (apply g_bits; walk_at "mini h") | (apply g_le; walk_at "mini h") | (apply g_wm; walk_at "mini h") | (apply g_sz; walk_at "mini h")
  | (apply g_buf; walk_at "mini h") | (apply g_pos; walk_at "mini h")
  | (apply p_bl; walk_at "mini h") | (apply p_bits; walk_at "mini h") | (apply p_le; walk_at "mini h") | (apply p_wm; walk_at "mini h") | (apply p_sz; walk_at "mini h") | (apply p_pos; walk_at "mini h"))

local macro_rules | `(tactic| walk_at "mini fn") => `(tactic| with_reducible first
  | apply callV_fn fn__whence
  | apply callV_fn fn__index
  | apply callV_fn fn_IOBase___new__
  | apply callV_fn fn_BytesIO___init__
  | apply callV_fn fn_BytesIO___check
  | apply callV_fn fn_BytesIO_seekable
  | apply callV_fn fn_BytesIO_tell
  | apply callV_fn fn_BytesIO_seek
  | apply callV_fn fn_BytesIO_read
  | apply callV_fn fn_BytesIO_write
  | apply callV_fn fn_KaitaiStruct___init__
  | apply callV_fn fn_KaitaiStruct_from_bytes
  | apply callV_fn fn_KaitaiStream___init__
  | apply callV_fn fn_KaitaiStream_is_eof
  | apply callV_fn fn_KaitaiStream_seek
  | apply callV_fn fn_KaitaiStream_pos
  | apply callV_fn fn_KaitaiStream_size
  | apply callV_fn fn_KaitaiStream_align_to_byte
  | apply callV_fn fn_KaitaiStream_read_bits_int_be
  | apply callV_fn fn_KaitaiStream__read_bytes_not_aligned
  | apply callV_fn fn_KaitaiStream_read_bytes_full
  | apply callV_fn fn_KaitaiStream__ensure_bytes_left_to_write
  | apply callV_fn fn_KaitaiStream_write_align_to_byte
  | apply callV_fn fn_KaitaiStream_write_bits_int_be
  | apply callV_fn fn_KaitaiStream__write_bytes_not_aligned
  | apply callV_fn fn_KaitaiStream_byte_from_int
  | apply callV_fn fn_KaitaiStream_to_byte_array
  | apply callV_fn fn_KaitaiStructError___init__
  | apply callV_fn fn_InvalidArgumentError___init__
  | apply callV_fn fn_EndOfStreamError___init__
  | apply callV_fn fn__law_vectors
  | apply callV_fn fn__law_plain_groups
  | apply callV_fn fn__law_text
  | apply callV_fn fn__law_read
  | apply callV_fn fn__law_sextets
  | apply callV_fn fn__law_write
  | apply callV_fn fn__law_round
  | apply callV_fn fn_law)
local macro_rules | `(tactic| walk_at "mini m") => `(tactic| with_reducible first
  | exact gv_AttributeError
  | exact gv_BytesIO
  | exact gv_EndOfStreamError
  | exact gv_InvalidArgumentError
  | exact gv_KaitaiStream
  | exact gv_KaitaiStruct
  | exact gv_KaitaiStructError
  | exact gv_OSError
  | exact gv_PY2
  | exact gv_SEEK_END
  | exact gv_ValueError
  | exact gv__index
  | exact gv__law_plain_groups
  | exact gv__law_read
  | exact gv__law_round
  | exact gv__law_sextets
  | exact gv__law_text
  | exact gv__law_vectors
  | exact gv__law_write
  | exact gv__whence
  | exact gv_bool
  | exact gv_bytearray
  | exact gv_bytes
  | exact gv_callable
  | exact gv_chr
  | exact gv_getattr
  | exact gv_int
  | exact gv_len
  | exact gv_object
  | exact gv_ord
  | exact gv_range
  | exact gv_str
  | exact gv_super
  | exact gv_type
  | (apply mm_BytesIO__BytesIO__check; walk_at "mini h")
  | (apply mm_BytesIO___init__; walk_at "mini h")
  | (apply mm_BytesIO_read; walk_at "mini h")
  | (apply mm_BytesIO_seek; walk_at "mini h")
  | (apply mm_BytesIO_seekable; walk_at "mini h")
  | (apply mm_BytesIO_tell; walk_at "mini h")
  | (apply mm_BytesIO_write; walk_at "mini h")
  | (apply mm_KaitaiStruct___init__; walk_at "mini h")
  | exact getM_cls cm_KaitaiStruct_from_bytes
  | exact cm2_KaitaiStruct_from_bytes
  | (apply mm_KaitaiStream___init__; walk_at "mini h")
  | (apply mm_KaitaiStream__ensure_bytes_left_to_write; walk_at "mini h")
  | (apply mm_KaitaiStream__read_bytes_not_aligned; walk_at "mini h")
  | (apply mm_KaitaiStream__write_bytes_not_aligned; walk_at "mini h")
  | (apply mm_KaitaiStream_align_to_byte; walk_at "mini h")
  | exact getM_cls cm_KaitaiStream_byte_from_int
  | (apply mm_KaitaiStream_is_eof; walk_at "mini h")
  | (apply mm_KaitaiStream_pos; walk_at "mini h")
  | (apply mm_KaitaiStream_read_bits_int_be; walk_at "mini h")
  | (apply mm_KaitaiStream_read_bytes_full; walk_at "mini h")
  | (apply mm_KaitaiStream_seek; walk_at "mini h")
  | (apply mm_KaitaiStream_size; walk_at "mini h")
  | (apply mm_KaitaiStream_to_byte_array; walk_at "mini h")
  | (apply mm_KaitaiStream_write_align_to_byte; walk_at "mini h")
  | (apply mm_KaitaiStream_write_bits_int_be; walk_at "mini h"))

local macro_rules | `(tactic| walk_at "mini call") => `(tactic| ((with_reducible apply callV_fn fn__index); ((with_reducible apply L_index); (omega); (omega))))
local macro_rules | `(tactic| walk_at "mini call") => `(tactic| ((with_reducible apply callV_fn fn__whence); ((with_reducible apply L_whence); (omega); (omega))))
local macro_rules | `(tactic| walk_at "mini call") => `(tactic| ((with_reducible apply callV_fn fn_KaitaiStream_align_to_byte); ((with_reducible apply L_align); (walk_at "mini h"))))
local macro_rules | `(tactic| walk_at "mini call") => `(tactic| ((with_reducible apply callV_fn fn_BytesIO___check); ((with_reducible apply L_check); (walk_at "mini h"))))
local macro_rules | `(tactic| walk_at "mini call") => `(tactic| ((with_reducible apply callV_fn fn_BytesIO_tell); ((with_reducible apply L_tell); (walk_at "mini h"))))

local macro_rules | `(tactic| walk_at "mini call") => `(tactic| ((with_reducible apply callV_fn fn_BytesIO_seek); first | ((with_reducible apply L_seek2); (walk_at "mini h"); (walk_at "mini h"); (omega)) | ((with_reducible apply L_seek); (walk_at "mini h"); (omega); (omega))))
local macro_rules | `(tactic| walk_at "mini call") => `(tactic| ((with_reducible apply callV_fn fn_KaitaiStream_size); ((with_reducible apply L_size); (walk_at "mini h"); (walk_at "mini h"); (walk_at "mini h"); (walk_at "mini ne"); (omega); (omega); (omega))))
local macro_rules | `(tactic| walk_at "mini call") => `(tactic| ((with_reducible apply callV_fn fn_KaitaiStream_pos); first | ((with_reducible apply L_pos_r); (walk_at "mini h"); (walk_at "mini h")) | ((with_reducible apply L_pos_w0); (walk_at "mini h"); (walk_at "mini h"); (omega)) | ((with_reducible apply L_pos_w1); (walk_at "mini h"); (walk_at "mini h"); (omega))))
local macro_rules | `(tactic| walk_at "mini call") => `(tactic| ((with_reducible apply callV_fn fn_BytesIO_read); ((with_reducible apply L_read); (walk_at "mini h"); (walk_at "mini h"); (omega); (omega); (omega); (omega))))

section
variable {P : Params} {ns : List Int} {σ : PH} {α β γ ch : Nat} {io : Nat} {bl b sz v p : Int} {le wm lv : Bool} {buf : Array UInt8} {d : Nat}
set_option maxHeartbeats 4000000
theorem L_rbna {n : Int} (h : σ[α]? = some (strm β bl b le wm ch sz)) (hβ : σ[β]? = some (bio γ p)) (hb : σ[γ]? = some (.barr buf)) (hp : 0 ≤ p) (hs : buf.size ≤ 16777216) (hn : 0 < n) (hn2 : n < 8388608) (hpn : p + n ≤ buf.size) :
    callF (W0 P ns) (d + 4) 759 [.obj α, .int n] σ = .ok (.bytes (buf.extract p.toNat (p + n).toNat)) (σ.set β (bio γ (p + n)) ++ [.barr (buf.extract p.toNat (p + n).toNat)]) := by
  have hsz : (buf.extract p.toNat (p + n).toNat).size = n.toNat := by simp; omega
  apply callF_to [("self", .obj α), ("n", .int n)] fn_KaitaiStream__read_bytes_not_aligned (by rfl) (by rfl)
  repeat (walk_at "mini")
local macro_rules | `(tactic| walk_at "mini call") => `(tactic| ((with_reducible apply callV_fn fn_KaitaiStream__read_bytes_not_aligned); ((with_reducible apply L_rbna); (walk_at "mini h"); (walk_at "mini h"); (walk_at "mini h"); (omega); (omega); (omega); (omega); (omega))))

def beN (l : List UInt8) : Nat := l.foldl (fun r c => r * 256 + c.toNat) 0
theorem beN_snoc (l : List UInt8) (c : UInt8) : beN (l ++ [c]) = beN l * 256 + c.toNat := by unfold beN; rw [List.foldl_append]; rfl
theorem beN_lt (l : List UInt8) : beN l < 2 ^ (8 * l.length) := by
  suffices h : ∀ (l : List UInt8) (r k : Nat), r < 2 ^ k → l.foldl (fun r c => r * 256 + c.toNat) r < 2 ^ (k + 8 * l.length) by have := h l 0 0 (by decide); rw [Nat.zero_add] at this; exact this
  intro l
  induction l with
  | nil => intro r k h; simpa using h
  | cons c l ih =>
    intro r k h
    rw [List.foldl_cons, List.length_cons, show k + 8 * (l.length + 1) = (k + 8) + 8 * l.length by omega]
    refine ih _ _ ?_
    rw [Nat.pow_add]
    have := c.toNat_lt
    omega
theorem tgt_name {sc : Str → Option NameKind} {x : Str} {px : Pos} {m : Vars} {v : PV} (h : localIn sc x = true) : tgt sc (.Name x px) m v = some (m.set x v) := if_pos h
theorem L_rb_be {n : Int} (h : σ[α]? = some (strm β bl b le wm ch sz)) (hβ : σ[β]? = some (bio γ p)) (hb : σ[γ]? = some (.barr buf)) (na : α ≠ β) (hp : 0 ≤ p) (hs : buf.size ≤ 16777216) (h0 : 0 ≤ bl) (h1 : bl < 8) (b0 : 0 ≤ b) (b1 : b < 2 ^ bl.toNat)
    (hn : bl < n) (hn2 : n < 1000000) (k : Nat) (hk : (k : Int) = (n - bl - 1) / 8 + 1) (hpn : p + k ≤ buf.size) (B : List UInt8) (hB : B = (buf.extract p.toNat (p + k).toNat).toList) :
    Runs (W0 P ns) (d + 5) 731 [.obj α, .int n] σ (fun v σ' => v = .int (((beN B : Int) / 2 ^ ((-(n - bl)) % 8).toNat) + b * 2 ^ (n - bl).toNat) ∧
      σ'[α]? = some (strm β ((-(n - bl)) % 8) ((beN B : Int) % 2 ^ ((-(n - bl)) % 8).toNat) le false ch sz) ∧ σ'[β]? = some (bio γ (p + k)) ∧ σ'[γ]? = some (.barr buf) ∧ Keep σ σ' [α, β]) := by
  have n1 := ne_bb hβ hb
  have n2 : α ≠ γ := fun e => by subst e; rw [h] at hb; cases hb
  have hk1 : 0 < (k : Int) := by omega
  have hlen : B.length = k := by subst hB; simp; omega
  have hlb := beN_lt B
  apply does_def [("self", .obj α), ("n", .int n)] fn_KaitaiStream_read_bits_int_be (by rfl) (by rfl)
  repeat (walk_at "mini s")
  apply ok_st
  apply ok_if
  · repeat (walk_at "mini")
  apply ok_ite_t
  · walk_at "mini c"
  walk_at "mini s"
  rw [← hk]
  repeat (walk_at "mini s")
  generalize hM : Vars.set _ "buf" _ = M
  generalize hS : ((_ : PH) ++ [PO.barr _] : PH) = S
  have e1 : S[α]? = some (strm β (-(n - bl) % 8) b le false ch sz) := by rw [← hS]; walk_at "mini h"
  have e2 : S[β]? = some (bio γ (p + k)) := by rw [← hS]; walk_at "mini h"
  have e3 : S[γ]? = some (.barr buf) := by rw [← hS]; walk_at "mini h"
  have e4 : Keep σ S [α, β] := by rw [← hS]; exact (((Keep.refl.set (by simp)).set (by simp)).set (by simp)).app
  have v1 : M "self" = some (.obj α) := by rw [← hM]; walk_at "mini v"
  have v2 : M "bits_needed" = some (.int (n - bl)) := by rw [← hM]; walk_at "mini v"
  have v3 : M "buf" = some (.bytes (buf.extract p.toNat (p + ↑k).toNat)) := by rw [← hM]; walk_at "mini v"
  have v4 : M "res" = some (.int 0) := by rw [← hM]; walk_at "mini v"
  clear hM hS
  have hsh : ∀ i, i ≤ B.length → shlOk (beN (B.take i)) 8 = true := fun i hi => by
    have h1 := beN_lt (B.take i)
    refine shl_ok (m := 8 * (B.take i).length) (by omega) ?_ ?_
    · exact_mod_cast h1
    · rw [List.length_take]; omega
  apply ok_st
  apply ok_for (I := fun i m s => s = S ∧ m "res" = some (.int (beN (B.take i))) ∧ ∀ y : Str, y ≠ "res" → y ≠ "byte" → m y = M y)
  · rfl
  · repeat (walk_at "mini")
  · rw [show srcO (W0 P ns) S (.bytes (buf.extract p.toNat (p + ↑k).toNat)) = some (.fix (B.map fun c => .int c.toNat)) by rw [hB]; rfl]
  · exact ⟨rfl, v4, fun _ _ _ => rfl⟩
  · intro m s _
    show some ((B.map _)[(B.map _).length]?) = some none
    rw [List.getElem?_eq_none (Nat.le_refl _)]
  · intro i m s hi ⟨hs', hr, hm⟩
    subst hs'
    have hi : i < B.length := by simpa [Src.len] using hi
    refine ⟨.int (B[i].toNat : Nat), _, ?_, tgt_name (by decide +kernel), ?_⟩
    · show some ((B.map _)[i]?) = _
      rw [List.getElem?_map, List.getElem?_eq_getElem hi]; rfl
    · have := hsh i (Nat.le_of_lt hi)
      repeat (walk_at "mini s")
      refine ⟨rfl, rfl, ?_, fun y h1 h2 => ?_⟩
      · rw [vs_same, List.take_succ_eq_append_getElem hi, beN_snoc]
        have hc := B[i].toNat_lt
        rw [bor_shift (by omega) (by omega) (by simpa using (show ((B[i].toNat : Nat) : Int) < 256 by omega))]
        simp
      · rw [vs_ne (decide_eq_false h1) rfl, vs_ne (decide_eq_false h2) rfl, hm y h1 h2]
  · intro m s ⟨hs', hr, hm⟩
    subst hs'
    have hr : m "res" = some (.int (beN B)) := by simpa [Src.len, List.take_length] using hr
    have w1 : m "self" = some (.obj α) := (hm _ (by decide) (by decide)).trans v1
    have w2 : m "bits_needed" = some (.int (n - bl)) := (hm _ (by decide) (by decide)).trans v2
    have hs2 : shlOk b (n - bl) = true := shl_ok (m := bl.toNat) b0 b1 (by omega)
    have hV : (beN B : Int) < 2 ^ (8 * k) := by rw [← hlen]; exact_mod_cast hlb
    generalize hl' : -(n - bl) % 8 = l at *
    have hl0 : 0 ≤ l := by omega
    have hkk : 8 * k = (n - bl).toNat + l.toNat := by omega
    rw [hkk, Int.pow_add] at hV
    repeat (walk_at "mini s")
    walk_at "mini r"
    refine ⟨?_, ?_, ?_, ?_, ?_⟩
    · rw [bor_shift' b0 (Int.ediv_nonneg (by omega) (Int.le_of_lt (Int.pow_pos (by decide)))) (Int.ediv_lt_of_lt_mul (Int.pow_pos (by decide)) hV), Int.add_comm]
    · rw [Int.one_mul, band_mask]; walk_at "mini h"
    · walk_at "mini h"
    · walk_at "mini h"
    · exact (e4.set (by simp)).set (by simp)
theorem L_rb_be0 {n : Int} (h : σ[α]? = some (strm β bl b le wm ch sz)) (h0 : 0 ≤ bl) (h1 : bl < 8) (hn : n ≤ bl) (hn2 : 0 ≤ n) :
    callF (W0 P ns) (d + 5) 731 [.obj α, .int n] σ = .ok (.int (b / 2 ^ (bl - n).toNat)) (σ.set α (strm β (bl - n) (b % 2 ^ (bl - n).toNat) le false ch sz)) := by
  have e1 : -(n - bl) = bl - n := by omega
  have e2 : -(n - bl) % 8 = bl - n := by omega
  apply callF_to [("self", .obj α), ("n", .int n)] fn_KaitaiStream_read_bits_int_be (by rfl) (by rfl)
  repeat (walk_at "mini")
  · rw [e1]
  · rw [e2, Int.one_mul, band_mask]; simp only [List.set_set]
/-! the octets written at the end of a stream that waits -/
theorem L_ebl {n q : Int} (h : σ[α]? = some (strm io bl b le wm ch sz)) (hn : n ≤ sz - q) : callF (W0 P ns) (d + 1) 824 [.obj α, .int n, .int q] σ = .ok .none σ := by
  apply callF_to [("self", .obj α), ("n", .int n), ("pos", .int q)] fn_KaitaiStream__ensure_bytes_left_to_write (by rfl) (by rfl)
  repeat (walk_at "mini")
local macro_rules | `(tactic| walk_at "mini call") => `(tactic| ((with_reducible apply callV_fn fn_KaitaiStream__ensure_bytes_left_to_write); ((with_reducible apply L_ebl); (walk_at "mini h"); (omega))))
theorem L_wbna {c : Array UInt8} {cv : PV} (h : σ[α]? = some (strm β bl b le wm ch buf.size)) (hβ : σ[β]? = some (bio γ p)) (hb : σ[γ]? = some (.barr buf)) (hp : 0 ≤ p) (hs : buf.size ≤ 16777216) (hc : 0 < c.size) (hpn : p + c.size ≤ buf.size)
    (hcv : cv = .bytes c ∨ ∃ δ, cv = .obj δ ∧ δ ≠ γ ∧ σ[δ]? = some (.barr c)) :
    callF (W0 P ns) (d + 4) 908 [.obj α, cv] σ = .ok .none ((σ.set γ (.barr (splicedB buf c p (p + c.size)))).set β (bio γ (p + c.size))) := by
  have n1 : β ≠ γ := ne_bb hβ hb
  have W := L_write (P := P) (ns := ns) (d := d) hβ hb hp hs hc hpn hcv
  rcases hcv with rfl | ⟨δ, rfl, n2, hδ⟩
  · apply callF_to [("self", .obj α), ("buf", .bytes c)] fn_KaitaiStream__write_bytes_not_aligned (by rfl) (by rfl)
    repeat (walk_at "mini")
  · apply callF_to [("self", .obj α), ("buf", .obj δ)] fn_KaitaiStream__write_bytes_not_aligned (by rfl) (by rfl)
    repeat (walk_at "mini")
theorem L_bfi {i : Int} (h0 : 0 ≤ i) (h1 : i < 256) : callF (W0 P ns) (d + 1) 962 [.int i] σ = .ok (.bytes #[UInt8.ofNat i.toNat]) σ := by
  apply callF_to [("i", .int i)] fn_KaitaiStream_byte_from_int (by rfl) (by rfl)
  repeat (walk_at "mini")
end

end Mine
end
/-! part A4_br5014_04 -/
section
open PySem PySem.W PySem.Calls PyProof.Rows
namespace Mine
local macro_rules | `(tactic| walk_at "mini ne") => `(tactic| first
  | assumption
  | exact Ne.symm (by assumption)
  | ((with_reducible apply h_fresh); walk_at "mini h")
  | ((with_reducible apply h_fresh'); walk_at "mini h")
  | omega)
local macro_rules | `(tactic| walk_at "mini h") => `(tactic| first
  | assumption
  | (with_reducible exact h_new)
  | ((with_reducible apply h_set); walk_at "mini h")
  | ((with_reducible apply h_app); walk_at "mini h")
  | ((with_reducible apply h_ne); (walk_at "mini ne"); walk_at "mini h"))
local macro_rules | `(tactic| walk_at "mini v") => `(tactic| first
  | (with_reducible exact vs_same)
  | (with_reducible assumption)
  | ((with_reducible apply vs_ne); (decide +kernel); walk_at "mini v")
  | rfl)
local macro_rules | `(tactic| walk_at "mini c") => `(tactic| first
  | rfl
  | assumption
  | (simp only [decide_eq_true_eq, decide_eq_false_iff_not, beq_iff_eq, bne_iff_ne, bne_eq_false_iff_eq, Bool.not_eq_true', Bool.not_eq_false', ne_eq, beq_eq_false_iff_ne, not_true_eq_false, not_false_eq_true] <;> first | omega | assumption)
  | (simp; done))
local macro_rules | `(tactic| walk_at "mini g") => `(tactic| fail "mini g")
local macro_rules | `(tactic| walk_at "mini m") => `(tactic| ((with_reducible apply getM_app); walk_at "mini h"))
local macro_rules | `(tactic| walk_at "mini call") => `(tactic| first | (with_reducible assumption) | ((walk_at "mini fn"); with_reducible assumption))
local macro_rules | `(tactic| walk_at "mini xs") => `(tactic| first
  | (with_reducible exact xs_nil)
  | (apply xs_step))
local macro_rules | `(tactic| walk_at "mini x") => `(tactic| with_reducible first
  | (apply x_asgN)
  | (apply x_if)
  | (apply x_ret)
  | (apply x_asgA)
  | (apply x_expr)
  | (apply x_augN)
  | (apply x_augA)
  | (apply x_for)
  | (apply x_while)
  | (apply x_asgS)
  | (apply x_asgI)
  | (apply x_try)
  | (exact x_ret0)
  | (exact x_pass))
local macro_rules | `(tactic| walk_at "mini e") => `(tactic| with_reducible first
  | (apply r_name)
  | (exact r_int)
  | (apply r_attr)
  | (apply r_bin)
  | (apply r_meth)
  | (apply r_call)
  | (exact r_none)
  | (exact r_bool)
  | (exact r_str)
  | (exact r_bytes)
  | (apply r_neg)
  | (apply r_not)
  | (apply r_ifx)
  | (apply r_and)
  | (apply r_or)
  | (apply r_cmp)
  | (apply r_list)
  | (apply r_tup)
  | (apply r_slice)
  | (apply r_sub)
  | (apply r_comp))
local macro_rules | `(tactic| walk_at "mini ts") => `(tactic| with_reducible first
  | (apply q_cmp)
  | (apply q_name)
  | (apply q_not)
  | (apply q_ops)
  | (apply q_attr)
  | (apply q_call)
  | (apply q_sub)
  | (apply q_bin))
local macro_rules | `(tactic| walk_at "mini i") => `(tactic| first
  | (with_reducible exact i_add)
  | (with_reducible exact i_sub)
  | ((with_reducible apply i_modp); first | omega | decide)
  | ((with_reducible apply i_shrp); first | omega | decide)
  | ((with_reducible apply i_divp); (first | omega | decide); (first | omega | decide))
  | ((with_reducible apply i_shl); first | omega | decide)
  | ((with_reducible apply i_mul))
  | ((with_reducible apply i_pow); first | omega | decide)
  | (with_reducible exact i_and)
  | (with_reducible exact i_or)
  | (with_reducible exact i_xor))
local macro_rules | `(tactic| walk_at "mini b") => `(tactic| first
  | (with_reducible exact b_int)
  | (with_reducible apply b_type)
  | ((with_reducible apply b_len_barr); (walk_at "mini h"))
  | ((with_reducible apply b_len_bytes))
  | ((with_reducible apply b_len_str))
  | ((with_reducible apply b_len_list); (walk_at "mini h"))
  | ((with_reducible apply b_bytes_b); (walk_at "mini h"))
  | ((with_reducible apply b_barr_b))
  | ((with_reducible apply b_bytes_1); (omega); (omega))
  | ((with_reducible apply b_barr_n); (omega))
  | ((with_reducible apply b_append); (walk_at "mini h"))
  | ((with_reducible apply b_bytes_l); (walk_at "mini h"); (with_reducible assumption))
  | ((with_reducible apply b_ord); (with_reducible assumption))
  | ((with_reducible apply range_up); (omega); (omega))
  | ((with_reducible apply range_ab); (omega); (omega); (omega); (omega))
  | ((with_reducible apply range_by); (first | omega | decide); (first | omega | decide); (omega); (omega))
  | ((with_reducible apply range_down); (omega); (omega); (omega); (omega)))
local macro_rules | `(tactic| walk_at "mini") => `(tactic| first
  | ((with_reducible change ev _ _ _ _ _ _ _ = _); walk_at "mini e")
  | ((with_reducible change nameV _ _ _ _ = _); first
    | ((with_reducible apply name_loc); (decide +kernel); (walk_at "mini v"); (decide +kernel))
    | ((with_reducible apply name_glob); (decide +kernel); (walk_at "mini m"); (decide +kernel))
    | ((with_reducible apply name_cell); (decide +kernel); (walk_at "mini v"); (decide +kernel)))
  | ((with_reducible change ex _ _ _ _ _ _ _ = _); walk_at "mini x")
  | ((with_reducible change exs _ _ _ _ _ _ _ = _); walk_at "mini xs")
  | ((with_reducible change SR.andThen _ _ = _); first | (with_reducible apply at_next) | (with_reducible exact at_ret))
  | ((with_reducible change ts _ _ _ _ _ _ _ = _); walk_at "mini ts")
  | ((with_reducible change tsL _ _ _ _ _ _ _ _ = _); with_reducible first | (apply q_and) | (apply q_or) | (exact q_nil))
  | ((with_reducible change evL _ _ _ = _); with_reducible first | (exact r_nil) | (apply r_cons))
  | ((with_reducible change getA _ _ _ _ = _); walk_at "mini g")
  | ((with_reducible change setA _ _ _ _ _ = _); walk_at "mini g")
  | ((with_reducible change getM _ _ _ _ = _); walk_at "mini m")
  | ((with_reducible change callable _ _ = _); first | (walk_at "mini m") | rfl)
  | ((with_reducible change binop _ _ _ _ = _); first
    | (with_reducible apply i_bin)
    | ((with_reducible apply b_cat); (walk_at "mini h"); (walk_at "mini h"))
    | ((with_reducible apply b_rep); (walk_at "mini h"))
    | (with_reducible apply b_cats)
    | (with_reducible apply b_smul))
  | ((with_reducible change intOp _ _ _ = _); walk_at "mini i")
  | ((with_reducible change cmpop _ _ _ _ = _); first | rfl | ((with_reducible apply c_eq_lists); (walk_at "mini h"); (walk_at "mini h")) | ((with_reducible apply c_ne_lists); (walk_at "mini h"); (walk_at "mini h")))
  | ((with_reducible change truthO _ _ _ = _); rfl)
  | ((with_reducible change callV _ _ _ _ _ = _); first | (with_reducible apply callV_type) | (with_reducible apply callV_blt) | (with_reducible apply callV_meth) | (walk_at "mini call"))
  | ((with_reducible change bcall _ _ _ _ = _); walk_at "mini b")
  | ((with_reducible change (ite _ _ _) = _); first
    | ((with_reducible apply ite_t); (walk_at "mini c"))
    | ((with_reducible apply ite_f); (walk_at "mini c")))
  | (with_reducible exact okR)
  | (with_reducible exact okS)
  | (with_reducible exact an_ret)
  | (with_reducible exact an_next)
  | (with_reducible exact okP)
  | (with_reducible exact okH)
  | ((with_reducible change callF _ _ _ _ _ = _); with_reducible assumption)
  | ((with_reducible change partO _ = _); rfl)
  | ((with_reducible change localIn _ _ = _); decide +kernel)
  | ((with_reducible change isListComp _ = _); rfl)
  | ((with_reducible change plainIter _ = _); rfl)
  | ((with_reducible change isCallE _ = _); rfl)
  | ((with_reducible change behindInMarks _ _ = _); rfl)
  | ((with_reducible change List.any _ isStarredE = _); rfl)
  | ((with_reducible change (isCallE _ || _ || _ || _) = _); rfl)
  | ((with_reducible change ∀ _ _ _ _, _); intros; intro hq; cases hq)
  | ((with_reducible change evO _ _ _ _ _ _ _ = _); with_reducible first | (exact r_evO_none) | (apply r_evO_some))
  | (with_reducible exact app1)
  | (with_reducible exact app0)
  | ((with_reducible change typeOfP _ _ = _); first | (with_reducible exact ty_int) | (with_reducible exact ty_bytes) | ((with_reducible apply ty_barr); walk_at "mini h"))
  | ((with_reducible change powOk _ _ = _); with_reducible assumption)
  | ((with_reducible change mulOk _ _ = _); first | (with_reducible assumption) | ((apply mul_ok); (first | decide | omega)) | ((apply mul_ok'); (first | decide | omega)))
  | ((with_reducible change shlOk _ _ = _); first | assumption | ((apply shl_one); omega))
  | ((with_reducible change (_ : Int) ≤ _); omega)
  | ((with_reducible change (_ : Int) < _); omega)
  | ((with_reducible change sizeOk _ = _); first | rfl | (apply sz_ok; first | omega | (simp; omega)))
  | ((with_reducible change subS _ _ _ _ _ _ = _); first
    | ((with_reducible apply s_barr_ex); (walk_at "mini h"); (omega); (omega))
    | ((with_reducible apply s_list_dt); (walk_at "mini h"); (omega); (omega))
    | ((with_reducible apply s_list_hi); (walk_at "mini h"); (omega))
    | ((with_reducible apply s_scr_hi); (omega))
    | ((with_reducible apply s_bytes_hi); (omega))
    | ((with_reducible apply s_bytes_lo); (omega)))
  | ((with_reducible change sameObj _ _ = _); first | rfl | (exact beq_eq_false_iff_ne.mpr (by walk_at "mini ne")))
  | ((with_reducible change setI _ _ _ _ = _); (with_reducible apply st_barr_i); (walk_at "mini h"); (with_reducible assumption))
  | ((with_reducible change setS _ _ _ _ _ = _); (with_reducible apply st_barr_s); (walk_at "mini h"))
  | ((with_reducible change octetsOf _ _ = _); first | (with_reducible exact oc_bytes) | ((with_reducible apply oc_barr); (walk_at "mini h"))))
local macro_rules | `(tactic| walk_at "mini s") => `(tactic| first
  | ((apply ok_step); (· ((repeat (walk_at "mini")); done)))
  | ((with_reducible apply ok_nilB))
  | ((with_reducible apply ok_beh))
  | ((with_reducible apply ok_nil)))
local macro_rules | `(tactic| walk_at "mini r") => `(tactic| first
  | ((apply ok_retB); (· ((repeat (walk_at "mini")); done)))
  | ((apply ok_ret); (· ((repeat (walk_at "mini")); done))))

local macro_rules | `(tactic| walk_at "mini g") => `(tactic| with_reducible first
  | (apply g_io; walk_at "mini h") | (apply g_bl; walk_at "mini h") | (apply g_bits; walk_at "mini h") | (apply g_le; walk_at "mini h") | (apply g_wm; walk_at "mini h") | (apply g_sz; walk_at "mini h")
  | (apply g_buf; walk_at "mini h") | (apply g_pos; walk_at "mini h")
  | (apply p_bl; walk_at "mini h") | (apply p_bits; walk_at "mini h") | (apply p_le; walk_at "mini h") | (apply p_wm; walk_at "mini h") | (apply p_sz; walk_at "mini h") | (apply p_pos; walk_at "mini h"))

local macro_rules | `(tactic| walk_at "mini fn") => `(tactic| with_reducible first
  | apply callV_fn fn__whence
  | apply callV_fn fn__index
  | apply callV_fn fn_IOBase___new__
  | apply callV_fn fn_BytesIO___init__
  | apply callV_fn fn_BytesIO___check
  | apply callV_fn fn_BytesIO_seekable
  | apply callV_fn fn_BytesIO_tell
  | apply callV_fn fn_BytesIO_seek
  | apply callV_fn fn_BytesIO_read
  | apply callV_fn fn_BytesIO_write
  | apply callV_fn fn_KaitaiStruct___init__
  | apply callV_fn fn_KaitaiStruct_from_bytes
  | apply callV_fn fn_KaitaiStream___init__
  | apply callV_fn fn_KaitaiStream_is_eof
  | apply callV_fn fn_KaitaiStream_seek
  | apply callV_fn fn_KaitaiStream_pos
  | apply callV_fn fn_KaitaiStream_size
  | apply callV_fn fn_KaitaiStream_align_to_byte
  | apply callV_fn fn_KaitaiStream_read_bits_int_be
  | apply callV_fn fn_KaitaiStream__read_bytes_not_aligned
  | apply callV_fn fn_KaitaiStream_read_bytes_full
  | apply callV_fn fn_KaitaiStream__ensure_bytes_left_to_write
  | apply callV_fn fn_KaitaiStream_write_align_to_byte
  | apply callV_fn fn_KaitaiStream_write_bits_int_be
  | apply callV_fn fn_KaitaiStream__write_bytes_not_aligned
  | apply callV_fn fn_KaitaiStream_byte_from_int
  | apply callV_fn fn_KaitaiStream_to_byte_array
  | apply callV_fn fn_KaitaiStructError___init__
  | apply callV_fn fn_InvalidArgumentError___init__
  | apply callV_fn fn_EndOfStreamError___init__
  | apply callV_fn fn__law_vectors
  | apply callV_fn fn__law_plain_groups
  | apply callV_fn fn__law_text
  | apply callV_fn fn__law_read
  | apply callV_fn fn__law_sextets
  | apply callV_fn fn__law_write
  | apply callV_fn fn__law_round
  | apply callV_fn fn_law)
local macro_rules | `(tactic| walk_at "mini m") => `(tactic| with_reducible first
  | exact gv_AttributeError
  | exact gv_BytesIO
  | exact gv_EndOfStreamError
  | exact gv_InvalidArgumentError
  | exact gv_KaitaiStream
  | exact gv_KaitaiStruct
  | exact gv_KaitaiStructError
  | exact gv_OSError
  | exact gv_PY2
  | exact gv_SEEK_END
  | exact gv_ValueError
  | exact gv__index
  | exact gv__law_plain_groups
  | exact gv__law_read
  | exact gv__law_round
  | exact gv__law_sextets
  | exact gv__law_text
  | exact gv__law_vectors
  | exact gv__law_write
  | exact gv__whence
  | exact gv_bool
  | exact gv_bytearray
  | exact gv_bytes
  | exact gv_callable
  | exact gv_chr
  | exact gv_getattr
  | exact gv_int
  | exact gv_len
  | exact gv_object
  | exact gv_ord
  | exact gv_range
  | exact gv_str
  | exact gv_super
  | exact gv_type
  | (apply mm_BytesIO__BytesIO__check; walk_at "mini h")
  | (apply mm_BytesIO___init__; walk_at "mini h")
  | (apply mm_BytesIO_read; walk_at "mini h")
  | (apply mm_BytesIO_seek; walk_at "mini h")
  | (apply mm_BytesIO_seekable; walk_at "mini h")
  | (apply mm_BytesIO_tell; walk_at "mini h")
  | (apply mm_BytesIO_write; walk_at "mini h")
  | (apply mm_KaitaiStruct___init__; walk_at "mini h")
  | exact getM_cls cm_KaitaiStruct_from_bytes
  | exact cm2_KaitaiStruct_from_bytes
  | (apply mm_KaitaiStream___init__; walk_at "mini h")
  | (apply mm_KaitaiStream__ensure_bytes_left_to_write; walk_at "mini h")
  | (apply mm_KaitaiStream__read_bytes_not_aligned; walk_at "mini h")
  | (apply mm_KaitaiStream__write_bytes_not_aligned; walk_at "mini h")
  | (apply mm_KaitaiStream_align_to_byte; walk_at "mini h")
  | exact getM_cls cm_KaitaiStream_byte_from_int
  | (apply mm_KaitaiStream_is_eof; walk_at "mini h")
  | (apply mm_KaitaiStream_pos; walk_at "mini h")
  | (apply mm_KaitaiStream_read_bits_int_be; walk_at "mini h")
  | (apply mm_KaitaiStream_read_bytes_full; walk_at "mini h")
  | (apply mm_KaitaiStream_seek; walk_at "mini h")
  | (apply mm_KaitaiStream_size; walk_at "mini h")
  | (apply mm_KaitaiStream_to_byte_array; walk_at "mini h")
  | (apply mm_KaitaiStream_write_align_to_byte; walk_at "mini h")
  | (apply mm_KaitaiStream_write_bits_int_be; walk_at "mini h"))

local macro_rules | `(tactic| walk_at "mini call") => `(tactic| ((with_reducible apply callV_fn fn__index); ((with_reducible apply L_index); (omega); (omega))))
local macro_rules | `(tactic| walk_at "mini call") => `(tactic| ((with_reducible apply callV_fn fn__whence); ((with_reducible apply L_whence); (omega); (omega))))
local macro_rules | `(tactic| walk_at "mini call") => `(tactic| ((with_reducible apply callV_fn fn_KaitaiStream_align_to_byte); ((with_reducible apply L_align); (walk_at "mini h"))))
local macro_rules | `(tactic| walk_at "mini call") => `(tactic| ((with_reducible apply callV_fn fn_BytesIO___check); ((with_reducible apply L_check); (walk_at "mini h"))))
local macro_rules | `(tactic| walk_at "mini call") => `(tactic| ((with_reducible apply callV_fn fn_BytesIO_tell); ((with_reducible apply L_tell); (walk_at "mini h"))))

local macro_rules | `(tactic| walk_at "mini call") => `(tactic| ((with_reducible apply callV_fn fn_BytesIO_seek); first | ((with_reducible apply L_seek2); (walk_at "mini h"); (walk_at "mini h"); (omega)) | ((with_reducible apply L_seek); (walk_at "mini h"); (omega); (omega))))
local macro_rules | `(tactic| walk_at "mini call") => `(tactic| ((with_reducible apply callV_fn fn_KaitaiStream_size); ((with_reducible apply L_size); (walk_at "mini h"); (walk_at "mini h"); (walk_at "mini h"); (walk_at "mini ne"); (omega); (omega); (omega))))
local macro_rules | `(tactic| walk_at "mini call") => `(tactic| ((with_reducible apply callV_fn fn_KaitaiStream_pos); first | ((with_reducible apply L_pos_r); (walk_at "mini h"); (walk_at "mini h")) | ((with_reducible apply L_pos_w0); (walk_at "mini h"); (walk_at "mini h"); (omega)) | ((with_reducible apply L_pos_w1); (walk_at "mini h"); (walk_at "mini h"); (omega))))
local macro_rules | `(tactic| walk_at "mini call") => `(tactic| ((with_reducible apply callV_fn fn_BytesIO_read); ((with_reducible apply L_read); (walk_at "mini h"); (walk_at "mini h"); (omega); (omega); (omega); (omega))))

local macro_rules | `(tactic| walk_at "mini call") => `(tactic| ((with_reducible apply callV_fn fn_KaitaiStream__read_bytes_not_aligned); ((with_reducible apply L_rbna); (walk_at "mini h"); (walk_at "mini h"); (walk_at "mini h"); (omega); (omega); (omega); (omega); (omega))))
local macro_rules | `(tactic| walk_at "mini call") => `(tactic| ((with_reducible apply callV_fn fn_KaitaiStream__ensure_bytes_left_to_write); ((with_reducible apply L_ebl); (walk_at "mini h"); (omega))))
local macro_rules | `(tactic| walk_at "mini call") => `(tactic| ((with_reducible apply callV_fn fn_KaitaiStream_byte_from_int); ((with_reducible apply L_bfi); (omega); (omega))))

/-- the last j octets of a number, the highest first -/
def octs (X : Nat) (j : Nat) : List UInt8 := (List.range j).reverse.map fun t => UInt8.ofNat (X / 256 ^ t % 256)
theorem octs_succ (X j : Nat) : octs X (j + 1) = UInt8.ofNat (X / 256 ^ j % 256) :: octs X j := by
  unfold octs; rw [List.range_succ, List.reverse_append]; rfl
theorem octs_len (X j : Nat) : (octs X j).length = j := by unfold octs; simp
theorem set_rep {α : Type} (m : Nat) (z b : α) (t : List α) : (List.replicate (m + 1) z ++ t).set m b = List.replicate m z ++ b :: t := by
  rw [List.replicate_succ', List.append_assoc, List.set_append_right _ _ (by simp)]
  simp
section
variable {P : Params} {ns : List Int} {σ : PH} {α β γ ch : Nat} {io : Nat} {bl b sz v p : Int} {le wm lv : Bool} {buf : Array UInt8} {d : Nat}
set_option maxHeartbeats 4000000
theorem L_wb_be0 {n val : Int} (h : σ[α]? = some (strm β bl b le wm ch buf.size)) (hβ : σ[β]? = some (bio γ p)) (hb : σ[γ]? = some (.barr buf)) (na : α ≠ β) (hp : 0 ≤ p) (hs : buf.size ≤ 16777216) (h0 : 0 ≤ bl) (h1 : bl < 8) (b0 : 0 ≤ b) (b1 : b < 2 ^ bl.toNat)
    (hn0 : 0 ≤ n) (hlt : bl + n < 8) (hpz : p ≤ buf.size) (hfit : 0 < bl + n → p + 1 ≤ buf.size) :
    Runs (W0 P ns) (d + 5) 887 [.obj α, .int n, .int val] σ (fun v σ' => v = .none ∧
      σ'[α]? = some (strm β (bl + n) (b * 2 ^ n.toNat + val % 2 ^ n.toNat) false true ch buf.size) ∧ σ'[β]? = some (bio γ p) ∧ σ'[γ]? = some (.barr buf) ∧ Keep σ σ' [α]) := by
  have n1 := ne_bb hβ hb
  have n2 : α ≠ γ := fun e => by subst e; rw [h] at hb; cases hb
  have hs2 : shlOk b n = true := shl_ok (m := bl.toNat) b0 b1 (by omega)
  have hm : (bl + n) % 8 = bl + n := by omega
  rcases Int.lt_or_le 0 bl with hbl | hbl <;>
  (apply does_def [("self", .obj α), ("n", .int n), ("val", .int val)] fn_KaitaiStream_write_bits_int_be (by rfl) (by rfl)
   repeat (walk_at "mini s")
   show _ ∧ _
   refine ⟨rfl, ?_, ?_, ?_, ?_⟩
   · rw [Int.one_mul, band_mask, bor_shift b0 (Int.emod_nonneg _ (Int.ne_of_gt (Int.pow_pos (by decide)))) (Int.emod_lt_of_pos _ (Int.pow_pos (by decide))), hm]; walk_at "mini h"
   · walk_at "mini h"
   · walk_at "mini h"
   · exact ((((Keep.refl.set (by simp)).set (by simp)).set (by simp)).set (by simp)))
theorem div_add {b n l : Nat} {v : Nat} (h : l ≤ n) : (b * 2 ^ n + v) / 2 ^ l = b * 2 ^ (n - l) + v / 2 ^ l := by
  rw [show n = (n - l) + l by omega, Nat.pow_add, ← Nat.mul_assoc, Nat.add_comm, Nat.add_mul_div_right _ _ (Nat.two_pow_pos _), Nat.add_comm, Nat.add_sub_cancel]
theorem mod_add {b n l : Nat} {v : Nat} (h : l ≤ n) : (b * 2 ^ n + v) % 2 ^ l = v % 2 ^ l := by
  rw [show n = (n - l) + l by omega, Nat.pow_add, ← Nat.mul_assoc, Nat.add_comm, Nat.add_mul_mod_self_right]
theorem L_wb_be {n val : Int} (h : σ[α]? = some (strm β bl b le wm ch buf.size)) (hβ : σ[β]? = some (bio γ p)) (hb : σ[γ]? = some (.barr buf)) (na : α ≠ β) (hp : 0 ≤ p) (hs : buf.size ≤ 16777216) (h0 : 0 ≤ bl) (h1 : bl < 8) (b0 : 0 ≤ b) (b1 : b < 2 ^ bl.toNat)
    (hn0 : 0 ≤ n) (hn2 : n < 1000000) (k : Nat) (hk : (k : Int) = (bl + n) / 8) (hk0 : 0 < k) (hfit : p + (bl + n + 7) / 8 ≤ buf.size) (T : Nat) (hT : (T : Int) = b * 2 ^ n.toNat + val % 2 ^ n.toNat) :
    Runs (W0 P ns) (d + 6) 887 [.obj α, .int n, .int val] σ (fun v σ' => v = .none ∧
      σ'[α]? = some (strm β ((bl + n) % 8) ((T % 2 ^ ((bl + n) % 8).toNat : Nat) : Int) false true ch buf.size) ∧ σ'[β]? = some (bio γ (p + k)) ∧
      σ'[γ]? = some (.barr (splicedB buf (octs (T / 2 ^ ((bl + n) % 8).toNat) k).toArray p (p + k))) ∧ Keep σ σ' [α, β, γ]) := by
  have n1 := ne_bb hβ hb
  have n2 : α ≠ γ := fun e => by subst e; rw [h] at hb; cases hb
  generalize hl : (bl + n) % 8 = l at *
  have hl0 : 0 ≤ l := by omega
  have hln : l ≤ n := by omega
  obtain ⟨bn, rfl⟩ := Int.eq_ofNat_of_zero_le b0
  obtain ⟨vn, hvn⟩ := Int.eq_ofNat_of_zero_le (Int.emod_nonneg val (Int.ne_of_gt (Int.pow_pos (by decide) : (0:Int) < 2 ^ n.toNat)))
  have hv2 : vn < 2 ^ n.toNat := by
    have := Int.emod_lt_of_pos val (Int.pow_pos (by decide) : (0:Int) < 2 ^ n.toNat)
    rw [hvn] at this
    exact_mod_cast this
  have hT' : T = bn * 2 ^ n.toNat + vn := by rw [hvn] at hT; exact_mod_cast hT
  have hs2 : shlOk (bn : Int) (n - l) = true := shl_ok (m := bl.toNat) b0 b1 (by omega)
  have e5 : Builtin.bitAnd val (1 * 2 ^ n.toNat - 1) = (vn : Int) := by rw [Int.one_mul, band_mask, hvn]
  have e6 : Builtin.bitAnd (vn : Int) (1 * 2 ^ l.toNat - 1) = ((vn % 2 ^ l.toNat : Nat) : Int) := by rw [Int.one_mul, band_mask]; simp
  have e7 : Builtin.bitOr ((vn : Int) / 2 ^ l.toNat) ((bn : Int) * 2 ^ (n - l).toNat) = ((T / 2 ^ l.toNat : Nat) : Int) := by
    have : vn / 2 ^ l.toNat < 2 ^ (n - l).toNat := by
      apply Nat.div_lt_of_lt_mul
      rw [← Nat.pow_add, show l.toNat + (n - l).toNat = n.toNat by omega]; exact hv2
    rw [bor_shift' b0 (Int.ediv_nonneg (by omega) (Int.le_of_lt (Int.pow_pos (by decide)))) (by exact_mod_cast this), hT', div_add (by omega), show n.toNat - l.toNat = (n - l).toNat by omega]
    simp
  rcases Int.lt_or_le 0 bl with hbl | hbl <;>
  (apply does_def [("self", .obj α), ("n", .int n), ("val", .int val)] fn_KaitaiStream_write_bits_int_be (by rfl) (by rfl)
   repeat (walk_at "mini s")
   rw [e5, ← hk, hl]
   apply ok_st
   apply ok_if
   · repeat (walk_at "mini")
   apply ok_ite_t
   · walk_at "mini c"
   repeat (walk_at "mini s")
   rw [e6]
   repeat (walk_at "mini s")
   rw [e7]
   repeat (walk_at "mini s")
   generalize hM : Vars.set _ "val" (PV.int ((T / 2 ^ l.toNat : Nat) : Int)) = M
   generalize hS : List.set ((_ : PH) ++ [PO.barr _]) α _ = S
   have f1 : S[α]? = some (strm β l ((vn % 2 ^ l.toNat : Nat) : Int) false true ch buf.size) := by rw [← hS]; walk_at "mini h"
   have f2 : S[β]? = some (bio γ p) := by rw [← hS]; walk_at "mini h"
   have f3 : S[γ]? = some (.barr buf) := by rw [← hS]; walk_at "mini h"
   have f4 : Keep σ S [α, β, γ] := by rw [← hS]; exact ((((Keep.refl.set (by simp)).set (by simp)).set (by simp)).app).set (by simp)
   obtain ⟨δ, vb, f5, d1, d2, d3⟩ : ∃ δ, M "buf" = some (.obj δ) ∧ S[δ]? = some (.barr (Array.replicate (k : Int).toNat 0)) ∧ δ ≠ α ∧ δ ≠ β ∧ δ ≠ γ ∧ ∀ o, σ[δ]? ≠ some o := by
     refine ⟨_, by rw [← hM]; walk_at "mini v", by rw [← hS]; walk_at "mini h", by walk_at "mini ne", by walk_at "mini ne", by walk_at "mini ne", fun o e => ?_⟩
     have := h_lt e
     simp at this
   obtain ⟨d3, d4⟩ := d3
   have v1 : M "self" = some (.obj α) := by rw [← hM]; walk_at "mini v"
   have v2 : M "bytes_to_write" = some (.int k) := by rw [← hM]; walk_at "mini v"
   have v4 : M "val" = some (.int ((T / 2 ^ l.toNat : Nat) : Int)) := by rw [← hM]; walk_at "mini v"
   clear hM hS
   generalize hX : T / 2 ^ l.toNat = X at *
   rw [Int.toNat_natCast] at f5
   apply ok_st
   apply ok_for (I := fun i m s => i ≤ k ∧ s = S.set δ (.barr (List.replicate (k - i) 0 ++ octs X i).toArray) ∧ m "val" = some (.int ((X / 256 ^ i : Nat) : Int)) ∧ ∀ y : Str, y ≠ "val" → y ≠ "i" → m y = M y)
   · rfl
   · repeat (walk_at "mini")
   · exact src_down (by omega)
   · refine ⟨Nat.zero_le _, ?_, by simpa using v4, fun _ _ _ => rfl⟩
     rw [Nat.sub_zero, show (List.replicate k (0 : UInt8) ++ octs X 0).toArray = Array.replicate k (0 : UInt8) by simp [octs]]
     exact (setself f5).symm
   · intro m s _
     show some ((List.map _ _)[(List.map _ _).length]?) = some none
     rw [List.getElem?_eq_none (Nat.le_refl _)]
   · intro i m s hi ⟨_, hs', hr, hm⟩
     subst hs'
     have hi : i < k := by simpa [Src.len] using hi
     refine ⟨.int ((k : Int) - 1 - i), _, ?_, tgt_name (by decide +kernel), ?_⟩
     · show some ((List.map _ _)[i]?) = _
       rw [List.getElem?_map, List.getElem?_range hi]; rfl
     · have w1 : m "buf" = some (.obj δ) := (hm _ (by decide) (by decide)).trans vb
       have w2 : Builtin.bitAnd ((X / 256 ^ i : Nat) : Int) 255 = ((X / 256 ^ i % 256 : Nat) : Int) := by
         rw [show (255 : Int) = 2 ^ 8 - 1 by decide, band_mask]; simp
       have hlt : X / 256 ^ i % 256 < 256 := Nat.mod_lt _ (by decide)
       have w3 : 0 ≤ (k : Int) - 1 - i ∧ (k : Int) - 1 - i < 2 ^ 63 ∧ ((k : Int) - 1 - i).toNat < (List.replicate (k - i) 0 ++ octs X i).toArray.size ∧ 0 ≤ Builtin.bitAnd ((X / 256 ^ i : Nat) : Int) 255 ∧ Builtin.bitAnd ((X / 256 ^ i : Nat) : Int) 255 < 256 ∧ sizeOk (List.replicate (k - i) 0 ++ octs X i).toArray.size = true := by
         rw [w2]
         have e : (List.replicate (k - i) 0 ++ octs X i).toArray.size = k := by simp [octs_len]; omega
         rw [e]
         refine ⟨by omega, by omega, by omega, by omega, by omega, sz_ok (by omega)⟩
       repeat (walk_at "mini s")
       refine ⟨rfl, by omega, ?_, ?_, fun y h1 h2 => ?_⟩
       · rw [w2, List.set_set]
         congr 2
         rw [octs_succ, Int.toNat_natCast, List.setIfInBounds_toArray, show ((k : Int) - 1 - i).toNat = k - (i + 1) by omega, show k - i = (k - (i + 1)) + 1 by omega, set_rep]
       · rw [vs_same, Nat.pow_succ, ← Nat.div_div_eq_div_mul]
         simp
       · rw [vs_ne (decide_eq_false h1) rfl, vs_ne (decide_eq_false h2) rfl, hm y h1 h2]
   · intro m s ⟨_, hs', hr, hm⟩
     have hlen : (Src.fix ((List.range k).map fun (j : Nat) => PV.int ((k : Int) - 1 - j))).len = k := by simp [Src.len]
     rw [hlen] at hs'
     rw [Nat.sub_self, show (List.replicate 0 (0 : UInt8) ++ octs X k) = octs X k from rfl] at hs'
     have g1 : s[α]? = some (strm β l ((vn % 2 ^ l.toNat : Nat) : Int) false true ch buf.size) := by rw [hs']; walk_at "mini h"
     have g2 : s[β]? = some (bio γ p) := by rw [hs']; walk_at "mini h"
     have g3 : s[γ]? = some (.barr buf) := by rw [hs']; walk_at "mini h"
     have g5 : s[δ]? = some (.barr (octs X k).toArray) := by rw [hs']; walk_at "mini h"
     have g4 : Keep σ s [α, β, γ] := by
       rw [hs']
       intro x o hx e
       rw [List.getElem?_set_ne (fun q => d4 o (by rw [q]; exact e))]
       exact f4 x o hx e
     have w1 : m "self" = some (.obj α) := (hm _ (by decide) (by decide)).trans v1
     have w2 : m "buf" = some (.obj δ) := (hm _ (by decide) (by decide)).trans vb
     have hsz : (octs X k).toArray.size = k := by simp [octs_len]
     have WB := L_wbna (P := P) (ns := ns) (d := d + 1) (cv := .obj δ) g1 g2 g3 hp hs (by omega) (by omega) (.inr ⟨δ, rfl, d3, g5⟩)
     repeat (walk_at "mini s")
     refine ⟨rfl, ?_, ?_, ?_, ?_⟩
     · rw [hT', mod_add (by omega)]; walk_at "mini h"
     · rw [hsz]; walk_at "mini h"
     · rw [hsz]; walk_at "mini h"
     · exact (g4.set (by simp)).set (by simp))
end

end Mine
end
/-! part A5_br5014_04 -/
section
open PySem PySem.W PySem.Calls PyProof.Rows
namespace Mine
local macro_rules | `(tactic| walk_at "mini ne") => `(tactic| first
  | assumption
  | exact Ne.symm (by assumption)
  | ((with_reducible apply h_fresh); walk_at "mini h")
  | ((with_reducible apply h_fresh'); walk_at "mini h")
  | omega)
local macro_rules | `(tactic| walk_at "mini h") => `(tactic| first
  | assumption
  | (with_reducible exact h_new)
  | ((with_reducible apply h_set); walk_at "mini h")
  | ((with_reducible apply h_app); walk_at "mini h")
  | ((with_reducible apply h_ne); (walk_at "mini ne"); walk_at "mini h"))
local macro_rules | `(tactic| walk_at "mini v") => `(tactic| first
  | (with_reducible exact vs_same)
  | (with_reducible assumption)
  | ((with_reducible apply vs_ne); (decide +kernel); walk_at "mini v")
  | rfl)
local macro_rules | `(tactic| walk_at "mini c") => `(tactic| first
  | rfl
  | assumption
  | (simp only [decide_eq_true_eq, decide_eq_false_iff_not, beq_iff_eq, bne_iff_ne, bne_eq_false_iff_eq, Bool.not_eq_true', Bool.not_eq_false', ne_eq, beq_eq_false_iff_ne, not_true_eq_false, not_false_eq_true] <;> first | omega | assumption)
  | (simp; done))
local macro_rules | `(tactic| walk_at "mini g") => `(tactic| fail "mini g")
local macro_rules | `(tactic| walk_at "mini m") => `(tactic| ((with_reducible apply getM_app); walk_at "mini h"))
local macro_rules | `(tactic| walk_at "mini call") => `(tactic| first | (with_reducible assumption) | ((walk_at "mini fn"); with_reducible assumption))
local macro_rules | `(tactic| walk_at "mini xs") => `(tactic| first
  | (with_reducible exact xs_nil)
  | (apply xs_step))
local macro_rules | `(tactic| walk_at "mini x") => `(tactic| with_reducible first
  | (apply x_asgN)
  | (apply x_if)
  | (apply x_ret)
  | (apply x_asgA)
  | (apply x_expr)
  | (apply x_augN)
  | (apply x_augA)
  | (apply x_for)
  | (apply x_while)
  | (apply x_asgS)
  | (apply x_asgI)
  | (apply x_try)
  | (exact x_ret0)
  | (exact x_pass))
local macro_rules | `(tactic| walk_at "mini e") => `(tactic| with_reducible first
  | (apply r_name)
  | (exact r_int)
  | (apply r_attr)
  | (apply r_bin)
  | (apply r_meth)
  | (apply r_call)
  | (exact r_none)
  | (exact r_bool)
  | (exact r_str)
  | (exact r_bytes)
  | (apply r_neg)
  | (apply r_not)
  | (apply r_ifx)
  | (apply r_and)
  | (apply r_or)
  | (apply r_cmp)
  | (apply r_list)
  | (apply r_tup)
  | (apply r_slice)
  | (apply r_sub)
  | (apply r_comp))
local macro_rules | `(tactic| walk_at "mini ts") => `(tactic| with_reducible first
  | (apply q_cmp)
  | (apply q_name)
  | (apply q_not)
  | (apply q_ops)
  | (apply q_attr)
  | (apply q_call)
  | (apply q_sub)
  | (apply q_bin))
local macro_rules | `(tactic| walk_at "mini i") => `(tactic| first
  | (with_reducible exact i_add)
  | (with_reducible exact i_sub)
  | ((with_reducible apply i_modp); first | omega | decide)
  | ((with_reducible apply i_shrp); first | omega | decide)
  | ((with_reducible apply i_divp); (first | omega | decide); (first | omega | decide))
  | ((with_reducible apply i_shl); first | omega | decide)
  | ((with_reducible apply i_mul))
  | ((with_reducible apply i_pow); first | omega | decide)
  | (with_reducible exact i_and)
  | (with_reducible exact i_or)
  | (with_reducible exact i_xor))
local macro_rules | `(tactic| walk_at "mini b") => `(tactic| first
  | (with_reducible exact b_int)
  | (with_reducible apply b_type)
  | ((with_reducible apply b_len_barr); (walk_at "mini h"))
  | ((with_reducible apply b_len_bytes))
  | ((with_reducible apply b_len_str))
  | ((with_reducible apply b_len_list); (walk_at "mini h"))
  | ((with_reducible apply b_bytes_b); (walk_at "mini h"))
  | ((with_reducible apply b_barr_b))
  | ((with_reducible apply b_bytes_1); (omega); (omega))
  | ((with_reducible apply b_barr_n); (omega))
  | ((with_reducible apply b_append); (walk_at "mini h"))
  | ((with_reducible apply b_bytes_l); (walk_at "mini h"); (with_reducible assumption))
  | ((with_reducible apply b_ord); (with_reducible assumption))
  | ((with_reducible apply range_up); (omega); (omega))
  | ((with_reducible apply range_ab); (omega); (omega); (omega); (omega))
  | ((with_reducible apply range_by); (first | omega | decide); (first | omega | decide); (omega); (omega))
  | ((with_reducible apply range_down); (omega); (omega); (omega); (omega)))
local macro_rules | `(tactic| walk_at "mini") => `(tactic| first
  | ((with_reducible change ev _ _ _ _ _ _ _ = _); walk_at "mini e")
  | ((with_reducible change nameV _ _ _ _ = _); first
    | ((with_reducible apply name_loc); (decide +kernel); (walk_at "mini v"); (decide +kernel))
    | ((with_reducible apply name_glob); (decide +kernel); (walk_at "mini m"); (decide +kernel))
    | ((with_reducible apply name_cell); (decide +kernel); (walk_at "mini v"); (decide +kernel)))
  | ((with_reducible change ex _ _ _ _ _ _ _ = _); walk_at "mini x")
  | ((with_reducible change exs _ _ _ _ _ _ _ = _); walk_at "mini xs")
  | ((with_reducible change SR.andThen _ _ = _); first | (with_reducible apply at_next) | (with_reducible exact at_ret))
  | ((with_reducible change ts _ _ _ _ _ _ _ = _); walk_at "mini ts")
  | ((with_reducible change tsL _ _ _ _ _ _ _ _ = _); with_reducible first | (apply q_and) | (apply q_or) | (exact q_nil))
  | ((with_reducible change evL _ _ _ = _); with_reducible first | (exact r_nil) | (apply r_cons))
  | ((with_reducible change getA _ _ _ _ = _); walk_at "mini g")
  | ((with_reducible change setA _ _ _ _ _ = _); walk_at "mini g")
  | ((with_reducible change getM _ _ _ _ = _); walk_at "mini m")
  | ((with_reducible change callable _ _ = _); first | (walk_at "mini m") | rfl)
  | ((with_reducible change binop _ _ _ _ = _); first
    | (with_reducible apply i_bin)
    | ((with_reducible apply b_cat); (walk_at "mini h"); (walk_at "mini h"))
    | ((with_reducible apply b_rep); (walk_at "mini h"))
    | (with_reducible apply b_cats)
    | (with_reducible apply b_smul))
  | ((with_reducible change intOp _ _ _ = _); walk_at "mini i")
  | ((with_reducible change cmpop _ _ _ _ = _); first | rfl | ((with_reducible apply c_eq_lists); (walk_at "mini h"); (walk_at "mini h")) | ((with_reducible apply c_ne_lists); (walk_at "mini h"); (walk_at "mini h")))
  | ((with_reducible change truthO _ _ _ = _); rfl)
  | ((with_reducible change callV _ _ _ _ _ = _); first | (with_reducible apply callV_type) | (with_reducible apply callV_blt) | (with_reducible apply callV_meth) | (walk_at "mini call"))
  | ((with_reducible change bcall _ _ _ _ = _); walk_at "mini b")
  | ((with_reducible change (ite _ _ _) = _); first
    | ((with_reducible apply ite_t); (walk_at "mini c"))
    | ((with_reducible apply ite_f); (walk_at "mini c")))
  | (with_reducible exact okR)
  | (with_reducible exact okS)
  | (with_reducible exact an_ret)
  | (with_reducible exact an_next)
  | (with_reducible exact okP)
  | (with_reducible exact okH)
  | ((with_reducible change callF _ _ _ _ _ = _); with_reducible assumption)
  | ((with_reducible change partO _ = _); rfl)
  | ((with_reducible change localIn _ _ = _); decide +kernel)
  | ((with_reducible change isListComp _ = _); rfl)
  | ((with_reducible change plainIter _ = _); rfl)
  | ((with_reducible change isCallE _ = _); rfl)
  | ((with_reducible change behindInMarks _ _ = _); rfl)
  | ((with_reducible change List.any _ isStarredE = _); rfl)
  | ((with_reducible change (isCallE _ || _ || _ || _) = _); rfl)
  | ((with_reducible change ∀ _ _ _ _, _); intros; intro hq; cases hq)
  | ((with_reducible change evO _ _ _ _ _ _ _ = _); with_reducible first | (exact r_evO_none) | (apply r_evO_some))
  | (with_reducible exact app1)
  | (with_reducible exact app0)
  | ((with_reducible change typeOfP _ _ = _); first | (with_reducible exact ty_int) | (with_reducible exact ty_bytes) | ((with_reducible apply ty_barr); walk_at "mini h"))
  | ((with_reducible change powOk _ _ = _); with_reducible assumption)
  | ((with_reducible change mulOk _ _ = _); first | (with_reducible assumption) | ((apply mul_ok); (first | decide | omega)) | ((apply mul_ok'); (first | decide | omega)))
  | ((with_reducible change shlOk _ _ = _); first | assumption | ((apply shl_one); omega))
  | ((with_reducible change (_ : Int) ≤ _); omega)
  | ((with_reducible change (_ : Int) < _); omega)
  | ((with_reducible change sizeOk _ = _); first | rfl | (apply sz_ok; first | omega | (simp; omega)))
  | ((with_reducible change subS _ _ _ _ _ _ = _); first
    | ((with_reducible apply s_barr_ex); (walk_at "mini h"); (omega); (omega))
    | ((with_reducible apply s_list_dt); (walk_at "mini h"); (omega); (omega))
    | ((with_reducible apply s_list_hi); (walk_at "mini h"); (omega))
    | ((with_reducible apply s_scr_hi); (omega))
    | ((with_reducible apply s_bytes_hi); (omega))
    | ((with_reducible apply s_bytes_lo); (omega)))
  | ((with_reducible change sameObj _ _ = _); first | rfl | (exact beq_eq_false_iff_ne.mpr (by walk_at "mini ne")))
  | ((with_reducible change setI _ _ _ _ = _); (with_reducible apply st_barr_i); (walk_at "mini h"); (with_reducible assumption))
  | ((with_reducible change setS _ _ _ _ _ = _); (with_reducible apply st_barr_s); (walk_at "mini h"))
  | ((with_reducible change octetsOf _ _ = _); first | (with_reducible exact oc_bytes) | ((with_reducible apply oc_barr); (walk_at "mini h"))))
local macro_rules | `(tactic| walk_at "mini s") => `(tactic| first
  | ((apply ok_step); (· ((repeat (walk_at "mini")); done)))
  | ((with_reducible apply ok_nilB))
  | ((with_reducible apply ok_beh))
  | ((with_reducible apply ok_nil)))
local macro_rules | `(tactic| walk_at "mini r") => `(tactic| first
  | ((apply ok_retB); (· ((repeat (walk_at "mini")); done)))
  | ((apply ok_ret); (· ((repeat (walk_at "mini")); done))))

local macro_rules | `(tactic| walk_at "mini g") => `(tactic| with_reducible first
  | (apply g_io; walk_at "mini h") | (apply g_bl; walk_at "mini h") | (apply g_bits; walk_at "mini h") | (apply g_le; walk_at "mini h") | (apply g_wm; walk_at "mini h") | (apply g_sz; walk_at "mini h")
  | (apply g_buf; walk_at "mini h") | (apply g_pos; walk_at "mini h")
  | (apply p_bl; walk_at "mini h") | (apply p_bits; walk_at "mini h") | (apply p_le; walk_at "mini h") | (apply p_wm; walk_at "mini h") | (apply p_sz; walk_at "mini h") | (apply p_pos; walk_at "mini h"))

local macro_rules | `(tactic| walk_at "mini fn") => `(tactic| with_reducible first
  | apply callV_fn fn__whence
  | apply callV_fn fn__index
  | apply callV_fn fn_IOBase___new__
  | apply callV_fn fn_BytesIO___init__
  | apply callV_fn fn_BytesIO___check
  | apply callV_fn fn_BytesIO_seekable
  | apply callV_fn fn_BytesIO_tell
  | apply callV_fn fn_BytesIO_seek
  | apply callV_fn fn_BytesIO_read
  | apply callV_fn fn_BytesIO_write
  | apply callV_fn fn_KaitaiStruct___init__
  | apply callV_fn fn_KaitaiStruct_from_bytes
  | apply callV_fn fn_KaitaiStream___init__
  | apply callV_fn fn_KaitaiStream_is_eof
  | apply callV_fn fn_KaitaiStream_seek
  | apply callV_fn fn_KaitaiStream_pos
  | apply callV_fn fn_KaitaiStream_size
  | apply callV_fn fn_KaitaiStream_align_to_byte
  | apply callV_fn fn_KaitaiStream_read_bits_int_be
  | apply callV_fn fn_KaitaiStream__read_bytes_not_aligned
  | apply callV_fn fn_KaitaiStream_read_bytes_full
  | apply callV_fn fn_KaitaiStream__ensure_bytes_left_to_write
  | apply callV_fn fn_KaitaiStream_write_align_to_byte
  | apply callV_fn fn_KaitaiStream_write_bits_int_be
  | apply callV_fn fn_KaitaiStream__write_bytes_not_aligned
  | apply callV_fn fn_KaitaiStream_byte_from_int
  | apply callV_fn fn_KaitaiStream_to_byte_array
  | apply callV_fn fn_KaitaiStructError___init__
  | apply callV_fn fn_InvalidArgumentError___init__
  | apply callV_fn fn_EndOfStreamError___init__
  | apply callV_fn fn__law_vectors
  | apply callV_fn fn__law_plain_groups
  | apply callV_fn fn__law_text
  | apply callV_fn fn__law_read
  | apply callV_fn fn__law_sextets
  | apply callV_fn fn__law_write
  | apply callV_fn fn__law_round
  | apply callV_fn fn_law)
local macro_rules | `(tactic| walk_at "mini m") => `(tactic| with_reducible first
  | exact gv_AttributeError
  | exact gv_BytesIO
  | exact gv_EndOfStreamError
  | exact gv_InvalidArgumentError
  | exact gv_KaitaiStream
  | exact gv_KaitaiStruct
  | exact gv_KaitaiStructError
  | exact gv_OSError
  | exact gv_PY2
  | exact gv_SEEK_END
  | exact gv_ValueError
  | exact gv__index
  | exact gv__law_plain_groups
  | exact gv__law_read
  | exact gv__law_round
  | exact gv__law_sextets
  | exact gv__law_text
  | exact gv__law_vectors
  | exact gv__law_write
  | exact gv__whence
  | exact gv_bool
  | exact gv_bytearray
  | exact gv_bytes
  | exact gv_callable
  | exact gv_chr
  | exact gv_getattr
  | exact gv_int
  | exact gv_len
  | exact gv_object
  | exact gv_ord
  | exact gv_range
  | exact gv_str
  | exact gv_super
  | exact gv_type
  | (apply mm_BytesIO__BytesIO__check; walk_at "mini h")
  | (apply mm_BytesIO___init__; walk_at "mini h")
  | (apply mm_BytesIO_read; walk_at "mini h")
  | (apply mm_BytesIO_seek; walk_at "mini h")
  | (apply mm_BytesIO_seekable; walk_at "mini h")
  | (apply mm_BytesIO_tell; walk_at "mini h")
  | (apply mm_BytesIO_write; walk_at "mini h")
  | (apply mm_KaitaiStruct___init__; walk_at "mini h")
  | exact getM_cls cm_KaitaiStruct_from_bytes
  | exact cm2_KaitaiStruct_from_bytes
  | (apply mm_KaitaiStream___init__; walk_at "mini h")
  | (apply mm_KaitaiStream__ensure_bytes_left_to_write; walk_at "mini h")
  | (apply mm_KaitaiStream__read_bytes_not_aligned; walk_at "mini h")
  | (apply mm_KaitaiStream__write_bytes_not_aligned; walk_at "mini h")
  | (apply mm_KaitaiStream_align_to_byte; walk_at "mini h")
  | exact getM_cls cm_KaitaiStream_byte_from_int
  | (apply mm_KaitaiStream_is_eof; walk_at "mini h")
  | (apply mm_KaitaiStream_pos; walk_at "mini h")
  | (apply mm_KaitaiStream_read_bits_int_be; walk_at "mini h")
  | (apply mm_KaitaiStream_read_bytes_full; walk_at "mini h")
  | (apply mm_KaitaiStream_seek; walk_at "mini h")
  | (apply mm_KaitaiStream_size; walk_at "mini h")
  | (apply mm_KaitaiStream_to_byte_array; walk_at "mini h")
  | (apply mm_KaitaiStream_write_align_to_byte; walk_at "mini h")
  | (apply mm_KaitaiStream_write_bits_int_be; walk_at "mini h"))

local macro_rules | `(tactic| walk_at "mini call") => `(tactic| ((with_reducible apply callV_fn fn__index); ((with_reducible apply L_index); (omega); (omega))))
local macro_rules | `(tactic| walk_at "mini call") => `(tactic| ((with_reducible apply callV_fn fn__whence); ((with_reducible apply L_whence); (omega); (omega))))
local macro_rules | `(tactic| walk_at "mini call") => `(tactic| ((with_reducible apply callV_fn fn_KaitaiStream_align_to_byte); ((with_reducible apply L_align); (walk_at "mini h"))))
local macro_rules | `(tactic| walk_at "mini call") => `(tactic| ((with_reducible apply callV_fn fn_BytesIO___check); ((with_reducible apply L_check); (walk_at "mini h"))))
local macro_rules | `(tactic| walk_at "mini call") => `(tactic| ((with_reducible apply callV_fn fn_BytesIO_tell); ((with_reducible apply L_tell); (walk_at "mini h"))))

local macro_rules | `(tactic| walk_at "mini call") => `(tactic| ((with_reducible apply callV_fn fn_BytesIO_seek); first | ((with_reducible apply L_seek2); (walk_at "mini h"); (walk_at "mini h"); (omega)) | ((with_reducible apply L_seek); (walk_at "mini h"); (omega); (omega))))
local macro_rules | `(tactic| walk_at "mini call") => `(tactic| ((with_reducible apply callV_fn fn_KaitaiStream_size); ((with_reducible apply L_size); (walk_at "mini h"); (walk_at "mini h"); (walk_at "mini h"); (walk_at "mini ne"); (omega); (omega); (omega))))
local macro_rules | `(tactic| walk_at "mini call") => `(tactic| ((with_reducible apply callV_fn fn_KaitaiStream_pos); first | ((with_reducible apply L_pos_r); (walk_at "mini h"); (walk_at "mini h")) | ((with_reducible apply L_pos_w0); (walk_at "mini h"); (walk_at "mini h"); (omega)) | ((with_reducible apply L_pos_w1); (walk_at "mini h"); (walk_at "mini h"); (omega))))
local macro_rules | `(tactic| walk_at "mini call") => `(tactic| ((with_reducible apply callV_fn fn_BytesIO_read); ((with_reducible apply L_read); (walk_at "mini h"); (walk_at "mini h"); (omega); (omega); (omega); (omega))))

local macro_rules | `(tactic| walk_at "mini call") => `(tactic| ((with_reducible apply callV_fn fn_KaitaiStream__read_bytes_not_aligned); ((with_reducible apply L_rbna); (walk_at "mini h"); (walk_at "mini h"); (walk_at "mini h"); (omega); (omega); (omega); (omega); (omega))))
local macro_rules | `(tactic| walk_at "mini call") => `(tactic| ((with_reducible apply callV_fn fn_KaitaiStream__ensure_bytes_left_to_write); ((with_reducible apply L_ebl); (walk_at "mini h"); (omega))))
local macro_rules | `(tactic| walk_at "mini call") => `(tactic| ((with_reducible apply callV_fn fn_KaitaiStream_byte_from_int); ((with_reducible apply L_bfi); (omega); (omega))))

/-! objects on their way -/
abbrev CS : Addr := 1047
def s0 : PO := .inst 1047 []
def s1 (io : Nat) : PO := .inst 1047 [("_io", .obj io)]
def s2 (io : Nat) (bl : Int) : PO := .inst 1047 [("_io", .obj io), ("bits_left", .int bl)]
def s3 (io : Nat) (bl b : Int) : PO := .inst 1047 [("_io", .obj io), ("bits_left", .int bl), ("bits", .int b)]
def s4 (io : Nat) (bl b : Int) (le : Bool) : PO := .inst 1047 [("_io", .obj io), ("bits_left", .int bl), ("bits", .int b), ("bits_le", .bool le)]
def s5 (io : Nat) (bl b : Int) (le wm : Bool) : PO := .inst 1047 [("_io", .obj io), ("bits_left", .int bl), ("bits", .int b), ("bits_le", .bool le), ("bits_write_mode", .bool wm)]
def s6 (io : Nat) (bl b : Int) (le wm : Bool) : PO := .inst 1047 [("_io", .obj io), ("bits_left", .int bl), ("bits", .int b), ("bits_le", .bool le), ("bits_write_mode", .bool wm), ("write_back_handler", .none)]
def s7 (io : Nat) (bl b : Int) (le wm : Bool) (ch : Nat) : PO := .inst 1047 [("_io", .obj io), ("bits_left", .int bl), ("bits", .int b), ("bits_le", .bool le), ("bits_write_mode", .bool wm), ("write_back_handler", .none), ("child_streams", .obj ch)]
def b0 : PO := .inst 322 []
def b1 (γ : Nat) : PO := .inst 322 [("_BytesIO__buf", .obj γ)]
def k0 : PO := .inst 615 []
section
variable {P : Params} {ns : List Int} {σ : PH} {α β γ ch : Nat} {io : Nat} {bl b sz v p : Int} {le wm lv : Bool} {buf : Array UInt8} {d : Nat}
theorem q_io (h : σ[α]? = some s0) : setA (W0 P ns) σ (.obj α) "_io" (.obj io) = some (σ.set α (s1 io)) := setA_of h sa_KaitaiStream__io rfl rfl
theorem q_bl (h : σ[α]? = some (s1 io)) : setA (W0 P ns) σ (.obj α) "bits_left" (.int v) = some (σ.set α (s2 io v)) := setA_of h sa_KaitaiStream_bits_left rfl rfl
theorem q_bits (h : σ[α]? = some (s2 io bl)) : setA (W0 P ns) σ (.obj α) "bits" (.int v) = some (σ.set α (s3 io bl v)) := setA_of h sa_KaitaiStream_bits rfl rfl
theorem q_le (h : σ[α]? = some (s3 io bl b)) : setA (W0 P ns) σ (.obj α) "bits_le" (.bool lv) = some (σ.set α (s4 io bl b lv)) := setA_of h sa_KaitaiStream_bits_le rfl rfl
theorem q_wm (h : σ[α]? = some (s4 io bl b le)) : setA (W0 P ns) σ (.obj α) "bits_write_mode" (.bool lv) = some (σ.set α (s5 io bl b le lv)) := setA_of h sa_KaitaiStream_bits_write_mode rfl rfl
theorem q_wb (h : σ[α]? = some (s5 io bl b le wm)) : setA (W0 P ns) σ (.obj α) "write_back_handler" .none = some (σ.set α (s6 io bl b le wm)) := setA_of h sa_KaitaiStream_write_back_handler rfl rfl
theorem q_ch (h : σ[α]? = some (s6 io bl b le wm)) : setA (W0 P ns) σ (.obj α) "child_streams" (.obj ch) = some (σ.set α (s7 io bl b le wm ch)) := setA_of h sa_KaitaiStream_child_streams rfl rfl
theorem q_sz (h : σ[α]? = some (s7 io bl b le wm ch)) : setA (W0 P ns) σ (.obj α) "_size" (.int v) = some (σ.set α (strm io bl b le wm ch v)) := setA_of h sa_KaitaiStream__size rfl rfl
theorem g7_io (h : σ[α]? = some (s7 io bl b le wm ch)) : getA (W0 P ns) σ (.obj α) "_io" = some (.obj io) := getA_of h ga_KaitaiStream__io rfl rfl
theorem m1_align (h : σ[α]? = some (s1 io)) : getM (W0 P ns) σ (.obj α) "align_to_byte" = some (.top 724, [.obj α]) := getM_of h me_KaitaiStream_align_to_byte rfl
theorem m7_size (h : σ[α]? = some (s7 io bl b le wm ch)) : getM (W0 P ns) σ (.obj α) "size" = some (.top 668, [.obj α]) := getM_of h me_KaitaiStream_size rfl
theorem q_buf (h : σ[β]? = some b0) : setA (W0 P ns) σ (.obj β) "_BytesIO__buf" (.obj γ) = some (σ.set β (b1 γ)) := setA_of h sa_BytesIO__BytesIO__buf rfl rfl
theorem q_pos (h : σ[β]? = some (b1 γ)) : setA (W0 P ns) σ (.obj β) "_BytesIO__pos" (.int v) = some (σ.set β (bio γ v)) := setA_of h sa_BytesIO__BytesIO__pos rfl rfl
theorem q_kio (h : σ[α]? = some k0) : setA (W0 P ns) σ (.obj α) "_io" (.obj io) = some (σ.set α (kst io)) := setA_of h sa_KaitaiStruct__io rfl rfl
theorem g_kio (h : σ[α]? = some (kst io)) : getA (W0 P ns) σ (.obj α) "_io" = some (.obj io) := getA_of h ga_KaitaiStruct__io rfl rfl
local macro_rules | `(tactic| walk_at "mini g") => `(tactic| with_reducible first
  | (apply q_io; walk_at "mini h") | (apply q_bl; walk_at "mini h") | (apply q_bits; walk_at "mini h") | (apply q_le; walk_at "mini h") | (apply q_wm; walk_at "mini h") | (apply q_wb; walk_at "mini h") | (apply q_ch; walk_at "mini h") | (apply q_sz; walk_at "mini h")
  | (apply g7_io; walk_at "mini h") | (apply q_buf; walk_at "mini h") | (apply q_pos; walk_at "mini h") | (apply q_kio; walk_at "mini h") | (apply g_kio; walk_at "mini h"))
local macro_rules | `(tactic| walk_at "mini m") => `(tactic| with_reducible first | (apply m1_align; walk_at "mini h") | (apply m7_size; walk_at "mini h"))
set_option maxHeartbeats 4000000
theorem L_align1 (h : σ[α]? = some (s1 io)) : callF (W0 P ns) (d + 1) 724 [.obj α] σ = .ok .none (σ.set α (s3 io 0 0)) := by
  apply callF_to [("self", .obj α)] fn_KaitaiStream_align_to_byte (by rfl) (by rfl)
  repeat (walk_at "mini")
  rw [List.set_set]
theorem L_size7 (h : σ[α]? = some (s7 β bl b le wm ch)) (hβ : σ[β]? = some (bio γ p)) (hb : σ[γ]? = some (.barr buf)) (hp : 0 ≤ p) (hp2 : p ≤ 1099511627776) (hs : buf.size ≤ 16777216) : callF (W0 P ns) (d + 4) 668 [.obj α] σ = .ok (.int buf.size) σ := by
  have n1 := ne_bb hβ hb
  apply callF_to [("self", .obj α)] fn_KaitaiStream_size (by rfl) (by rfl)
  repeat (walk_at "mini")
  rw [List.set_set, setself hβ]
local macro_rules | `(tactic| walk_at "mini call") => `(tactic| first | ((with_reducible apply callV_fn fn_KaitaiStream_align_to_byte); (with_reducible apply L_align1); (walk_at "mini h")) | ((with_reducible apply callV_fn fn_KaitaiStream_size); (with_reducible apply L_size7); (walk_at "mini h"); (walk_at "mini h"); (walk_at "mini h"); (omega); (omega); (omega)))
theorem L_initS (h : σ[α]? = some s0) (hβ : σ[β]? = some (bio γ 0)) (hb : σ[γ]? = some (.barr buf)) (na : α ≠ β) (hs : buf.size ≤ 16777216) :
    Runs (W0 P ns) (d + 5) 633 [.obj α, .obj β] σ (fun v σ' => v = .none ∧ ∃ ch, σ'[α]? = some (strm β 0 0 false false ch buf.size) ∧ σ'[β]? = some (bio γ 0) ∧ σ'[γ]? = some (.barr buf) ∧ Keep σ σ' [α]) := by
  have n2 : α ≠ γ := fun e => by subst e; rw [h] at hb; cases hb
  apply does_def [("self", .obj α), ("io", .obj β)] fn_KaitaiStream___init__ (by rfl) (by rfl)
  repeat (walk_at "mini s")
  refine ⟨rfl, _, by walk_at "mini h", by walk_at "mini h", by walk_at "mini h", ?_⟩
  exact ((((((Keep.refl.set (by simp)).set (by simp)).set (by simp)).set (by simp)).set (by simp)).app.set (by simp)).set (by simp)
theorem m_onew : getM (W0 P ns) σ (.type "object") "__new__" = some (.blt "object.__new__", []) := by kernel_rfl
theorem own_B : ownNewIn (W0 P ns) 322 = true := by kernel_rfl
local macro_rules | `(tactic| walk_at "mini m") => `(tactic| with_reducible exact m_onew)
local macro_rules | `(tactic| walk_at "mini b") => `(tactic| ((with_reducible apply b_new); exact own_B))
theorem L_newB {q : PV} : callF (W0 P ns) (d + 1) 62 [.top 322, q] σ = .ok (.obj σ.length) (σ ++ [b0]) := by
  apply callF_to [("cls", .top 322), ("args", .tup [q]), ("kwargs", .opq)] fn_IOBase___new__ (by rfl) (by rfl)
  repeat (walk_at "mini")
  rfl
theorem L_initB {b : Array UInt8} (h : σ[β]? = some b0) (hs : b.size ≤ 16777216) : callF (W0 P ns) (d + 1) 109 [.obj β, .bytes b] σ = .ok .none ((σ ++ [PO.barr b]).set β (bio σ.length 0)) := by
  apply callF_to [("self", .obj β), ("initial_bytes", .bytes b)] fn_BytesIO___init__ (by rfl) (by rfl)
  repeat (walk_at "mini")
  rw [List.set_set]
theorem V_B {b : Array UInt8} (hs : b.size ≤ 16777216) : callV (W0 P ns) (callF (W0 P ns) (d + 1)) (.top 322) [.bytes b] σ = .ok (.obj σ.length) ((σ ++ [b0] ++ [PO.barr b]).set σ.length (bio (σ.length + 1) 0)) := by
  have hi := L_initB (P := P) (ns := ns) (d := d) (σ := σ ++ [b0]) (β := σ.length) (b := b) h_new hs
  rw [List.length_append, List.length_singleton] at hi
  exact callV_own (fs := []) (oc := _) (od := _) (cd := _) (sl := _) rfl mk_BytesIO nd_BytesIO fi_BytesIO if_BytesIO L_newB h_new hi
theorem L_initK (h : σ[α]? = some k0) : callF (W0 P ns) (d + 1) 585 [.obj α, .obj io] σ = .ok .none (σ.set α (kst io)) := by
  apply callF_to [("self", .obj α), ("io", .obj io)] fn_KaitaiStruct___init__ (by rfl) (by rfl)
  repeat (walk_at "mini")
theorem V_K : callV (W0 P ns) (callF (W0 P ns) (d + 1)) (.top 615) [.obj io] σ = .ok (.obj σ.length) ((σ ++ [k0]).set σ.length (kst io)) :=
  callV_make (oc := _) (od := _) (cd := _) (sl := _) rfl mk_KaitaiStruct fi_KaitaiStruct if_KaitaiStruct (L_initK h_new)
theorem V_S (hβ : σ[β]? = some (bio γ 0)) (hb : σ[γ]? = some (.barr buf)) (hs : buf.size ≤ 16777216) :
    ∃ ch σ', callV (W0 P ns) (callF (W0 P ns) (d + 5)) (.top 1047) [.obj β] σ = .ok (.obj σ.length) σ' ∧ σ'[σ.length]? = some (strm β 0 0 false false ch buf.size) ∧ σ'[β]? = some (bio γ 0) ∧ σ'[γ]? = some (.barr buf) ∧ Keep σ σ' [] := by
  obtain ⟨v, σ', hc, rfl, ch, e1, e2, e3, e4⟩ := L_initS (P := P) (ns := ns) (d := d) (σ := σ ++ [s0]) (α := σ.length) (β := β) (γ := γ) (buf := buf) h_new (h_app hβ) (h_app hb) (h_fresh' hβ) hs
  refine ⟨ch, σ', callV_make (oc := _) (od := _) (cd := _) (sl := _) rfl mk_KaitaiStream fi_KaitaiStream if_KaitaiStream hc, e1, e2, e3, fun x o _ e => e4 x o ?_ (h_app e)⟩
  have := h_lt e
  simp; omega
theorem L_from {b : Array UInt8} (hs : b.size ≤ 16777216) :
    Runs (W0 P ns) (d + 6) 599 [.top 615, .bytes b] σ (fun v σ' => ∃ κ α β γ ch, v = .obj κ ∧ σ'[κ]? = some (kst α) ∧ σ'[α]? = some (strm β 0 0 false false ch b.size) ∧ σ'[β]? = some (bio γ 0) ∧ σ'[γ]? = some (.barr b) ∧
      α ≠ β ∧ σ.length ≤ α ∧ σ.length ≤ β ∧ σ.length ≤ γ ∧ Keep σ σ' []) := by
  have hB := V_B (P := P) (ns := ns) (d := d + 4) (σ := σ) hs
  generalize hσ₁ : ((σ ++ [b0] ++ [PO.barr b]).set σ.length (bio (σ.length + 1) 0)) = σ₁ at hB
  have e1 : σ₁[σ.length]? = some (bio (σ.length + 1) 0) := by rw [← hσ₁]; exact h_set (h_app h_new)
  have e2 : σ₁[σ.length + 1]? = some (.barr b) := by
    rw [← hσ₁]
    refine h_ne (by omega) ?_
    have := h_new (σ := σ ++ [b0]) (o := .barr b)
    rwa [List.length_append, List.length_singleton] at this
  have e3 : Keep σ σ₁ [] := fun x o _ e => by rw [← hσ₁]; exact h_ne (Ne.symm (h_fresh e)) (h_app (h_app e))
  have e4 : σ.length + 2 = σ₁.length := by rw [← hσ₁]; simp
  obtain ⟨ch, σ₂, hS, f1, f2, f3, f4⟩ := V_S (P := P) (ns := ns) (d := d) e1 e2 hs
  have hK := V_K (P := P) (ns := ns) (d := d + 4) (σ := σ₂) (io := σ₁.length)
  apply does_def [("cls", .top 615), ("buf", .bytes b)] fn_KaitaiStruct_from_bytes (by rfl) (by rfl)
  walk_at "mini r"
  have hlt : σ₁.length ≠ σ₂.length := h_fresh f1
  refine ⟨_, σ₁.length, σ.length, σ.length + 1, ch, rfl, h_set h_new, h_ne (Ne.symm (h_fresh f1)) (h_app f1), h_ne (Ne.symm (h_fresh f2)) (h_app f2), h_ne (Ne.symm (h_fresh f3)) (h_app f3), by omega, by omega, by omega, by omega, ?_⟩
  exact fun x o hx e => h_ne (Ne.symm (h_fresh (f4 x o hx (e3 x o hx e)))) (h_app (f4 x o hx (e3 x o hx e)))
end

end Mine
end
/-! part A6_br5014_04 -/
section
open PySem PySem.W PySem.Calls PyProof.Rows
namespace Mine
local macro_rules | `(tactic| walk_at "mini ne") => `(tactic| first
  | assumption
  | exact Ne.symm (by assumption)
  | ((with_reducible apply h_fresh); walk_at "mini h")
  | ((with_reducible apply h_fresh'); walk_at "mini h")
  | omega)
local macro_rules | `(tactic| walk_at "mini h") => `(tactic| first
  | assumption
  | (with_reducible exact h_new)
  | ((with_reducible apply h_set); walk_at "mini h")
  | ((with_reducible apply h_app); walk_at "mini h")
  | ((with_reducible apply h_ne); (walk_at "mini ne"); walk_at "mini h"))
local macro_rules | `(tactic| walk_at "mini v") => `(tactic| first
  | (with_reducible exact vs_same)
  | (with_reducible assumption)
  | ((with_reducible apply vs_ne); (decide +kernel); walk_at "mini v")
  | rfl)
local macro_rules | `(tactic| walk_at "mini c") => `(tactic| first
  | rfl
  | assumption
  | (simp only [decide_eq_true_eq, decide_eq_false_iff_not, beq_iff_eq, bne_iff_ne, bne_eq_false_iff_eq, Bool.not_eq_true', Bool.not_eq_false', ne_eq, beq_eq_false_iff_ne, not_true_eq_false, not_false_eq_true] <;> first | omega | assumption)
  | (simp; done))
local macro_rules | `(tactic| walk_at "mini g") => `(tactic| fail "mini g")
local macro_rules | `(tactic| walk_at "mini m") => `(tactic| ((with_reducible apply getM_app); walk_at "mini h"))
local macro_rules | `(tactic| walk_at "mini call") => `(tactic| first | (with_reducible assumption) | ((walk_at "mini fn"); with_reducible assumption))
local macro_rules | `(tactic| walk_at "mini xs") => `(tactic| first
  | (with_reducible exact xs_nil)
  | (apply xs_step))
local macro_rules | `(tactic| walk_at "mini x") => `(tactic| with_reducible first
  | (apply x_asgN)
  | (apply x_if)
  | (apply x_ret)
  | (apply x_asgA)
  | (apply x_expr)
  | (apply x_augN)
  | (apply x_augA)
  | (apply x_for)
  | (apply x_while)
  | (apply x_asgS)
  | (apply x_asgI)
  | (apply x_try)
  | (exact x_ret0)
  | (exact x_pass))
local macro_rules | `(tactic| walk_at "mini e") => `(tactic| with_reducible first
  | (apply r_name)
  | (exact r_int)
  | (apply r_attr)
  | (apply r_bin)
  | (apply r_meth)
  | (apply r_call)
  | (exact r_none)
  | (exact r_bool)
  | (exact r_str)
  | (exact r_bytes)
  | (apply r_neg)
  | (apply r_not)
  | (apply r_ifx)
  | (apply r_and)
  | (apply r_or)
  | (apply r_cmp)
  | (apply r_list)
  | (apply r_tup)
  | (apply r_slice)
  | (apply r_sub)
  | (apply r_comp))
local macro_rules | `(tactic| walk_at "mini ts") => `(tactic| with_reducible first
  | (apply q_cmp)
  | (apply q_name)
  | (apply q_not)
  | (apply q_ops)
  | (apply q_attr)
  | (apply q_call)
  | (apply q_sub)
  | (apply q_bin))
local macro_rules | `(tactic| walk_at "mini i") => `(tactic| first
  | (with_reducible exact i_add)
  | (with_reducible exact i_sub)
  | ((with_reducible apply i_modp); first | omega | decide)
  | ((with_reducible apply i_shrp); first | omega | decide)
  | ((with_reducible apply i_divp); (first | omega | decide); (first | omega | decide))
  | ((with_reducible apply i_shl); first | omega | decide)
  | ((with_reducible apply i_mul))
  | ((with_reducible apply i_pow); first | omega | decide)
  | (with_reducible exact i_and)
  | (with_reducible exact i_or)
  | (with_reducible exact i_xor))
local macro_rules | `(tactic| walk_at "mini b") => `(tactic| first
  | (with_reducible exact b_int)
  | (with_reducible apply b_type)
  | ((with_reducible apply b_len_barr); (walk_at "mini h"))
  | ((with_reducible apply b_len_bytes))
  | ((with_reducible apply b_len_str))
  | ((with_reducible apply b_len_list); (walk_at "mini h"))
  | ((with_reducible apply b_bytes_b); (walk_at "mini h"))
  | ((with_reducible apply b_barr_b))
  | ((with_reducible apply b_bytes_1); (omega); (omega))
  | ((with_reducible apply b_barr_n); (omega))
  | ((with_reducible apply b_append); (walk_at "mini h"))
  | ((with_reducible apply b_bytes_l); (walk_at "mini h"); (with_reducible assumption))
  | ((with_reducible apply b_ord); (with_reducible assumption))
  | ((with_reducible apply range_up); (omega); (omega))
  | ((with_reducible apply range_ab); (omega); (omega); (omega); (omega))
  | ((with_reducible apply range_by); (first | omega | decide); (first | omega | decide); (omega); (omega))
  | ((with_reducible apply range_down); (omega); (omega); (omega); (omega)))
local macro_rules | `(tactic| walk_at "mini") => `(tactic| first
  | ((with_reducible change ev _ _ _ _ _ _ _ = _); walk_at "mini e")
  | ((with_reducible change nameV _ _ _ _ = _); first
    | ((with_reducible apply name_loc); (decide +kernel); (walk_at "mini v"); (decide +kernel))
    | ((with_reducible apply name_glob); (decide +kernel); (walk_at "mini m"); (decide +kernel))
    | ((with_reducible apply name_cell); (decide +kernel); (walk_at "mini v"); (decide +kernel)))
  | ((with_reducible change ex _ _ _ _ _ _ _ = _); walk_at "mini x")
  | ((with_reducible change exs _ _ _ _ _ _ _ = _); walk_at "mini xs")
  | ((with_reducible change SR.andThen _ _ = _); first | (with_reducible apply at_next) | (with_reducible exact at_ret))
  | ((with_reducible change ts _ _ _ _ _ _ _ = _); walk_at "mini ts")
  | ((with_reducible change tsL _ _ _ _ _ _ _ _ = _); with_reducible first | (apply q_and) | (apply q_or) | (exact q_nil))
  | ((with_reducible change evL _ _ _ = _); with_reducible first | (exact r_nil) | (apply r_cons))
  | ((with_reducible change getA _ _ _ _ = _); walk_at "mini g")
  | ((with_reducible change setA _ _ _ _ _ = _); walk_at "mini g")
  | ((with_reducible change getM _ _ _ _ = _); walk_at "mini m")
  | ((with_reducible change callable _ _ = _); first | (walk_at "mini m") | rfl)
  | ((with_reducible change binop _ _ _ _ = _); first
    | (with_reducible apply i_bin)
    | ((with_reducible apply b_cat); (walk_at "mini h"); (walk_at "mini h"))
    | ((with_reducible apply b_rep); (walk_at "mini h"))
    | (with_reducible apply b_cats)
    | (with_reducible apply b_smul))
  | ((with_reducible change intOp _ _ _ = _); walk_at "mini i")
  | ((with_reducible change cmpop _ _ _ _ = _); first | rfl | ((with_reducible apply c_eq_lists); (walk_at "mini h"); (walk_at "mini h")) | ((with_reducible apply c_ne_lists); (walk_at "mini h"); (walk_at "mini h")))
  | ((with_reducible change truthO _ _ _ = _); rfl)
  | ((with_reducible change callV _ _ _ _ _ = _); first | (with_reducible apply callV_type) | (with_reducible apply callV_blt) | (with_reducible apply callV_meth) | (walk_at "mini call"))
  | ((with_reducible change bcall _ _ _ _ = _); walk_at "mini b")
  | ((with_reducible change (ite _ _ _) = _); first
    | ((with_reducible apply ite_t); (walk_at "mini c"))
    | ((with_reducible apply ite_f); (walk_at "mini c")))
  | (with_reducible exact okR)
  | (with_reducible exact okS)
  | (with_reducible exact an_ret)
  | (with_reducible exact an_next)
  | (with_reducible exact okP)
  | (with_reducible exact okH)
  | ((with_reducible change callF _ _ _ _ _ = _); with_reducible assumption)
  | ((with_reducible change partO _ = _); rfl)
  | ((with_reducible change localIn _ _ = _); decide +kernel)
  | ((with_reducible change isListComp _ = _); rfl)
  | ((with_reducible change plainIter _ = _); rfl)
  | ((with_reducible change isCallE _ = _); rfl)
  | ((with_reducible change behindInMarks _ _ = _); rfl)
  | ((with_reducible change List.any _ isStarredE = _); rfl)
  | ((with_reducible change (isCallE _ || _ || _ || _) = _); rfl)
  | ((with_reducible change ∀ _ _ _ _, _); intros; intro hq; cases hq)
  | ((with_reducible change evO _ _ _ _ _ _ _ = _); with_reducible first | (exact r_evO_none) | (apply r_evO_some))
  | (with_reducible exact app1)
  | (with_reducible exact app0)
  | ((with_reducible change typeOfP _ _ = _); first | (with_reducible exact ty_int) | (with_reducible exact ty_bytes) | ((with_reducible apply ty_barr); walk_at "mini h"))
  | ((with_reducible change powOk _ _ = _); with_reducible assumption)
  | ((with_reducible change mulOk _ _ = _); first | (with_reducible assumption) | ((apply mul_ok); (first | decide | omega)) | ((apply mul_ok'); (first | decide | omega)))
  | ((with_reducible change shlOk _ _ = _); first | assumption | ((apply shl_one); omega))
  | ((with_reducible change (_ : Int) ≤ _); omega)
  | ((with_reducible change (_ : Int) < _); omega)
  | ((with_reducible change sizeOk _ = _); first | rfl | (apply sz_ok; first | omega | (simp; omega)))
  | ((with_reducible change subS _ _ _ _ _ _ = _); first
    | ((with_reducible apply s_barr_ex); (walk_at "mini h"); (omega); (omega))
    | ((with_reducible apply s_list_dt); (walk_at "mini h"); (omega); (omega))
    | ((with_reducible apply s_list_hi); (walk_at "mini h"); (omega))
    | ((with_reducible apply s_scr_hi); (omega))
    | ((with_reducible apply s_bytes_hi); (omega))
    | ((with_reducible apply s_bytes_lo); (omega)))
  | ((with_reducible change sameObj _ _ = _); first | rfl | (exact beq_eq_false_iff_ne.mpr (by walk_at "mini ne")))
  | ((with_reducible change setI _ _ _ _ = _); (with_reducible apply st_barr_i); (walk_at "mini h"); (with_reducible assumption))
  | ((with_reducible change setS _ _ _ _ _ = _); (with_reducible apply st_barr_s); (walk_at "mini h"))
  | ((with_reducible change octetsOf _ _ = _); first | (with_reducible exact oc_bytes) | ((with_reducible apply oc_barr); (walk_at "mini h"))))
local macro_rules | `(tactic| walk_at "mini s") => `(tactic| first
  | ((apply ok_step); (· ((repeat (walk_at "mini")); done)))
  | ((with_reducible apply ok_nilB))
  | ((with_reducible apply ok_beh))
  | ((with_reducible apply ok_nil)))
local macro_rules | `(tactic| walk_at "mini r") => `(tactic| first
  | ((apply ok_retB); (· ((repeat (walk_at "mini")); done)))
  | ((apply ok_ret); (· ((repeat (walk_at "mini")); done))))

local macro_rules | `(tactic| walk_at "mini g") => `(tactic| with_reducible first
  | (apply g_io; walk_at "mini h") | (apply g_bl; walk_at "mini h") | (apply g_bits; walk_at "mini h") | (apply g_le; walk_at "mini h") | (apply g_wm; walk_at "mini h") | (apply g_sz; walk_at "mini h")
  | (apply g_buf; walk_at "mini h") | (apply g_pos; walk_at "mini h")
  | (apply p_bl; walk_at "mini h") | (apply p_bits; walk_at "mini h") | (apply p_le; walk_at "mini h") | (apply p_wm; walk_at "mini h") | (apply p_sz; walk_at "mini h") | (apply p_pos; walk_at "mini h"))

local macro_rules | `(tactic| walk_at "mini fn") => `(tactic| with_reducible first
  | apply callV_fn fn__whence
  | apply callV_fn fn__index
  | apply callV_fn fn_IOBase___new__
  | apply callV_fn fn_BytesIO___init__
  | apply callV_fn fn_BytesIO___check
  | apply callV_fn fn_BytesIO_seekable
  | apply callV_fn fn_BytesIO_tell
  | apply callV_fn fn_BytesIO_seek
  | apply callV_fn fn_BytesIO_read
  | apply callV_fn fn_BytesIO_write
  | apply callV_fn fn_KaitaiStruct___init__
  | apply callV_fn fn_KaitaiStruct_from_bytes
  | apply callV_fn fn_KaitaiStream___init__
  | apply callV_fn fn_KaitaiStream_is_eof
  | apply callV_fn fn_KaitaiStream_seek
  | apply callV_fn fn_KaitaiStream_pos
  | apply callV_fn fn_KaitaiStream_size
  | apply callV_fn fn_KaitaiStream_align_to_byte
  | apply callV_fn fn_KaitaiStream_read_bits_int_be
  | apply callV_fn fn_KaitaiStream__read_bytes_not_aligned
  | apply callV_fn fn_KaitaiStream_read_bytes_full
  | apply callV_fn fn_KaitaiStream__ensure_bytes_left_to_write
  | apply callV_fn fn_KaitaiStream_write_align_to_byte
  | apply callV_fn fn_KaitaiStream_write_bits_int_be
  | apply callV_fn fn_KaitaiStream__write_bytes_not_aligned
  | apply callV_fn fn_KaitaiStream_byte_from_int
  | apply callV_fn fn_KaitaiStream_to_byte_array
  | apply callV_fn fn_KaitaiStructError___init__
  | apply callV_fn fn_InvalidArgumentError___init__
  | apply callV_fn fn_EndOfStreamError___init__
  | apply callV_fn fn__law_vectors
  | apply callV_fn fn__law_plain_groups
  | apply callV_fn fn__law_text
  | apply callV_fn fn__law_read
  | apply callV_fn fn__law_sextets
  | apply callV_fn fn__law_write
  | apply callV_fn fn__law_round
  | apply callV_fn fn_law)
local macro_rules | `(tactic| walk_at "mini m") => `(tactic| with_reducible first
  | exact gv_AttributeError
  | exact gv_BytesIO
  | exact gv_EndOfStreamError
  | exact gv_InvalidArgumentError
  | exact gv_KaitaiStream
  | exact gv_KaitaiStruct
  | exact gv_KaitaiStructError
  | exact gv_OSError
  | exact gv_PY2
  | exact gv_SEEK_END
  | exact gv_ValueError
  | exact gv__index
  | exact gv__law_plain_groups
  | exact gv__law_read
  | exact gv__law_round
  | exact gv__law_sextets
  | exact gv__law_text
  | exact gv__law_vectors
  | exact gv__law_write
  | exact gv__whence
  | exact gv_bool
  | exact gv_bytearray
  | exact gv_bytes
  | exact gv_callable
  | exact gv_chr
  | exact gv_getattr
  | exact gv_int
  | exact gv_len
  | exact gv_object
  | exact gv_ord
  | exact gv_range
  | exact gv_str
  | exact gv_super
  | exact gv_type
  | (apply mm_BytesIO__BytesIO__check; walk_at "mini h")
  | (apply mm_BytesIO___init__; walk_at "mini h")
  | (apply mm_BytesIO_read; walk_at "mini h")
  | (apply mm_BytesIO_seek; walk_at "mini h")
  | (apply mm_BytesIO_seekable; walk_at "mini h")
  | (apply mm_BytesIO_tell; walk_at "mini h")
  | (apply mm_BytesIO_write; walk_at "mini h")
  | (apply mm_KaitaiStruct___init__; walk_at "mini h")
  | exact getM_cls cm_KaitaiStruct_from_bytes
  | exact cm2_KaitaiStruct_from_bytes
  | (apply mm_KaitaiStream___init__; walk_at "mini h")
  | (apply mm_KaitaiStream__ensure_bytes_left_to_write; walk_at "mini h")
  | (apply mm_KaitaiStream__read_bytes_not_aligned; walk_at "mini h")
  | (apply mm_KaitaiStream__write_bytes_not_aligned; walk_at "mini h")
  | (apply mm_KaitaiStream_align_to_byte; walk_at "mini h")
  | exact getM_cls cm_KaitaiStream_byte_from_int
  | (apply mm_KaitaiStream_is_eof; walk_at "mini h")
  | (apply mm_KaitaiStream_pos; walk_at "mini h")
  | (apply mm_KaitaiStream_read_bits_int_be; walk_at "mini h")
  | (apply mm_KaitaiStream_read_bytes_full; walk_at "mini h")
  | (apply mm_KaitaiStream_seek; walk_at "mini h")
  | (apply mm_KaitaiStream_size; walk_at "mini h")
  | (apply mm_KaitaiStream_to_byte_array; walk_at "mini h")
  | (apply mm_KaitaiStream_write_align_to_byte; walk_at "mini h")
  | (apply mm_KaitaiStream_write_bits_int_be; walk_at "mini h"))

local macro_rules | `(tactic| walk_at "mini call") => `(tactic| ((with_reducible apply callV_fn fn__index); ((with_reducible apply L_index); (omega); (omega))))
local macro_rules | `(tactic| walk_at "mini call") => `(tactic| ((with_reducible apply callV_fn fn__whence); ((with_reducible apply L_whence); (omega); (omega))))
local macro_rules | `(tactic| walk_at "mini call") => `(tactic| ((with_reducible apply callV_fn fn_KaitaiStream_align_to_byte); ((with_reducible apply L_align); (walk_at "mini h"))))
local macro_rules | `(tactic| walk_at "mini call") => `(tactic| ((with_reducible apply callV_fn fn_BytesIO___check); ((with_reducible apply L_check); (walk_at "mini h"))))
local macro_rules | `(tactic| walk_at "mini call") => `(tactic| ((with_reducible apply callV_fn fn_BytesIO_tell); ((with_reducible apply L_tell); (walk_at "mini h"))))

local macro_rules | `(tactic| walk_at "mini call") => `(tactic| ((with_reducible apply callV_fn fn_BytesIO_seek); first | ((with_reducible apply L_seek2); (walk_at "mini h"); (walk_at "mini h"); (omega)) | ((with_reducible apply L_seek); (walk_at "mini h"); (omega); (omega))))
local macro_rules | `(tactic| walk_at "mini call") => `(tactic| ((with_reducible apply callV_fn fn_KaitaiStream_size); ((with_reducible apply L_size); (walk_at "mini h"); (walk_at "mini h"); (walk_at "mini h"); (walk_at "mini ne"); (omega); (omega); (omega))))
local macro_rules | `(tactic| walk_at "mini call") => `(tactic| ((with_reducible apply callV_fn fn_KaitaiStream_pos); first | ((with_reducible apply L_pos_r); (walk_at "mini h"); (walk_at "mini h")) | ((with_reducible apply L_pos_w0); (walk_at "mini h"); (walk_at "mini h"); (omega)) | ((with_reducible apply L_pos_w1); (walk_at "mini h"); (walk_at "mini h"); (omega))))
local macro_rules | `(tactic| walk_at "mini call") => `(tactic| ((with_reducible apply callV_fn fn_BytesIO_read); ((with_reducible apply L_read); (walk_at "mini h"); (walk_at "mini h"); (omega); (omega); (omega); (omega))))

local macro_rules | `(tactic| walk_at "mini call") => `(tactic| ((with_reducible apply callV_fn fn_KaitaiStream__read_bytes_not_aligned); ((with_reducible apply L_rbna); (walk_at "mini h"); (walk_at "mini h"); (walk_at "mini h"); (omega); (omega); (omega); (omega); (omega))))
local macro_rules | `(tactic| walk_at "mini call") => `(tactic| ((with_reducible apply callV_fn fn_KaitaiStream__ensure_bytes_left_to_write); ((with_reducible apply L_ebl); (walk_at "mini h"); (omega))))
local macro_rules | `(tactic| walk_at "mini call") => `(tactic| ((with_reducible apply callV_fn fn_KaitaiStream_byte_from_int); ((with_reducible apply L_bfi); (omega); (omega))))

section
variable {P : Params} {ns : List Int} {σ : PH} {α β γ ch : Nat} {io : Nat} {bl b sz v p : Int} {le wm lv : Bool} {buf : Array UInt8} {d : Nat}
set_option maxHeartbeats 4000000
theorem L_wal0 (h : σ[α]? = some (strm β bl b le wm ch sz)) (hl : bl ≤ 0) : callF (W0 P ns) (d + 5) 880 [.obj α] σ = .ok .none σ := by
  apply callF_to [("self", .obj α)] fn_KaitaiStream_write_align_to_byte (by rfl) (by rfl)
  repeat (walk_at "mini")
theorem L_wal (h : σ[α]? = some (strm β bl b false wm ch buf.size)) (hβ : σ[β]? = some (bio γ p)) (hb : σ[γ]? = some (.barr buf)) (na : α ≠ β) (hp : 0 ≤ p) (hs : buf.size ≤ 16777216) (h0 : 0 < bl) (h1 : bl < 8) (b0 : 0 ≤ b) (b1 : b < 2 ^ bl.toNat) (hpn : p + 1 ≤ buf.size) :
    callF (W0 P ns) (d + 5) 880 [.obj α] σ = .ok .none (((σ.set α (strm β 0 0 false wm ch buf.size)).set γ (.barr (splicedB buf #[UInt8.ofNat (b * 2 ^ (8 - bl).toNat).toNat] p (p + 1)))).set β (bio γ (p + 1))) := by
  have n2 : α ≠ γ := fun e => by subst e; rw [h] at hb; cases hb
  have hsh : shlOk b (8 - bl) = true := shl_ok (m := bl.toNat) b0 b1 (by omega)
  have hlt : b * 2 ^ (8 - bl).toNat < 256 := by
    have : b * 2 ^ (8 - bl).toNat < 2 ^ bl.toNat * 2 ^ (8 - bl).toNat := Int.mul_lt_mul_of_pos_right b1 (Int.pow_pos (by decide))
    rw [← Int.pow_add, show bl.toNat + (8 - bl).toNat = 8 by omega] at this
    simpa using this
  have hge : 0 ≤ b * 2 ^ (8 - bl).toNat := Int.mul_nonneg b0 (Int.le_of_lt (Int.pow_pos (by decide)))
  have WB := fun s (q1 : s[α]? = some (strm β 0 0 false wm ch buf.size)) (q2 : s[β]? = some (bio γ p)) (q3 : s[γ]? = some (PO.barr buf)) => L_wbna (P := P) (ns := ns) (d := d) (σ := s) (cv := .bytes #[UInt8.ofNat (b * 2 ^ (8 - bl).toNat).toNat]) q1 q2 q3 hp hs (by simp) (by simpa using hpn) (.inl rfl)
  have WB := WB (σ.set α (strm β 0 0 false wm ch buf.size)) (by walk_at "mini h") (by walk_at "mini h") (by walk_at "mini h")
  apply callF_to [("self", .obj α)] fn_KaitaiStream_write_align_to_byte (by rfl) (by rfl)
  repeat (walk_at "mini")
  rfl
local macro_rules | `(tactic| walk_at "mini call") => `(tactic| ((with_reducible apply callV_fn fn_KaitaiStream_write_align_to_byte); first | ((with_reducible apply L_wal0); (walk_at "mini h"); (omega))))
theorem L_seekW {n : Int} (h : σ[α]? = some (strm β bl b le true ch sz)) (hβ : σ[β]? = some (bio γ p)) (hl : bl ≤ 0) (h0 : 0 ≤ n) (h1 : n ≤ 1099511627776) : callF (W0 P ns) (d + 6) 654 [.obj α, .int n] σ = .ok .none (σ.set β (bio γ n)) := by
  apply callF_to [("self", .obj α), ("n", .int n)] fn_KaitaiStream_seek (by rfl) (by rfl)
  repeat (walk_at "mini")
theorem L_seekR {n : Int} (h : σ[α]? = some (strm β bl b le false ch sz)) (hβ : σ[β]? = some (bio γ p)) (na : α ≠ β) (h0 : 0 ≤ n) (h1 : n ≤ 1099511627776) : callF (W0 P ns) (d + 6) 654 [.obj α, .int n] σ = .ok .none ((σ.set α (strm β 0 0 le false ch sz)).set β (bio γ n)) := by
  apply callF_to [("self", .obj α), ("n", .int n)] fn_KaitaiStream_seek (by rfl) (by rfl)
  repeat (walk_at "mini")
theorem L_readA (hβ : σ[β]? = some (bio γ p)) (hb : σ[γ]? = some (.barr buf)) (hp : 0 ≤ p) (hs : buf.size ≤ 16777216) (hpn : p < buf.size) :
    callF (W0 P ns) (d + 3) 246 [.obj β] σ = .ok (.bytes (buf.extract p.toNat buf.size)) (σ.set β (bio γ buf.size) ++ [.barr (buf.extract p.toNat buf.size)]) := by
  have n1 : β ≠ γ := ne_bb hβ hb
  apply callF_to [("self", .obj β), ("size", .int (-1))] fn_BytesIO_read (by rfl) (by rfl)
  repeat (walk_at "mini")
  all_goals simp
local macro_rules | `(tactic| walk_at "mini call") => `(tactic| ((with_reducible apply callV_fn fn_BytesIO_read); ((with_reducible apply L_readA); (walk_at "mini h"); (walk_at "mini h"); (omega); (omega); (omega))))
theorem L_readF (h : σ[α]? = some (strm β bl b le wm ch sz)) (hβ : σ[β]? = some (bio γ p)) (hb : σ[γ]? = some (.barr buf)) (na : α ≠ β) (hp : 0 ≤ p) (hs : buf.size ≤ 16777216) (hpn : p < buf.size) :
    callF (W0 P ns) (d + 4) 766 [.obj α] σ = .ok (.bytes (buf.extract p.toNat buf.size)) ((σ.set α (strm β 0 0 le wm ch sz)).set β (bio γ buf.size) ++ [.barr (buf.extract p.toNat buf.size)]) := by
  have n2 : α ≠ γ := fun e => by subst e; rw [h] at hb; cases hb
  apply callF_to [("self", .obj α)] fn_KaitaiStream_read_bytes_full (by rfl) (by rfl)
  repeat (walk_at "mini")
local macro_rules | `(tactic| walk_at "mini call") => `(tactic| ((with_reducible apply callV_fn fn_KaitaiStream_seek); first | ((with_reducible apply L_seekW); (walk_at "mini h"); (walk_at "mini h"); (omega); (omega); (omega)) | ((with_reducible apply L_seekR); (walk_at "mini h"); (walk_at "mini h"); (walk_at "mini ne"); (omega); (omega))))
local macro_rules | `(tactic| walk_at "mini call") => `(tactic| ((with_reducible apply callV_fn fn_KaitaiStream_read_bytes_full); ((with_reducible apply L_readF); (walk_at "mini h"); (walk_at "mini h"); (walk_at "mini h"); (walk_at "mini ne"); (omega); (omega); (omega))))
theorem L_tba (h : σ[α]? = some (strm β 0 b le true ch sz)) (hβ : σ[β]? = some (bio γ p)) (hb : σ[γ]? = some (.barr buf)) (na : α ≠ β) (hp : 0 ≤ p) (hp2 : p ≤ 16777216) (hs : buf.size ≤ 16777216) (hpn : 0 < buf.size) :
    Runs (W0 P ns) (d + 7) 1022 [.obj α] σ (fun v σ' => v = .bytes buf ∧ σ'[α]? = some (strm β 0 0 le true ch sz) ∧ σ'[β]? = some (bio γ p) ∧ σ'[γ]? = some (.barr buf) ∧ Keep σ σ' [α, β]) := by
  have n1 := ne_bb hβ hb
  have n2 : α ≠ γ := fun e => by subst e; rw [h] at hb; cases hb
  apply does_def [("self", .obj α)] fn_KaitaiStream_to_byte_array (by rfl) (by rfl)
  repeat (walk_at "mini s")
  walk_at "mini r"
  refine ⟨?_, by walk_at "mini h", by walk_at "mini h", by walk_at "mini h", ?_⟩
  · simp
  · exact ((((Keep.refl.set (by simp)).set (by simp)).set (by simp)).app).set (by simp)
end

end Mine
end
/-! part M4_br5014_04 -/
section
open PySem PySem.W PySem.Calls PyProof.Rows
namespace Mine
/-! six bits at a time -/
def rb (R : List UInt8) (i : Nat) : Nat := ((R[i]?).getD 0).toNat
theorem rb_lt (R : List UInt8) (i : Nat) : rb R i < 256 := UInt8.toNat_lt _
def gv (R : List UInt8) (j : Nat) : Nat := match j % 4 with
  | 0 => rb R (j / 4 * 3) / 4
  | 1 => rb R (j / 4 * 3) % 4 * 16 + rb R (j / 4 * 3 + 1) / 16
  | 2 => rb R (j / 4 * 3 + 1) % 16 * 4 + rb R (j / 4 * 3 + 2) / 64
  | _ => rb R (j / 4 * 3 + 2) % 64
def gm (R : List UInt8) : Nat := (4 * R.length + 2) / 3
def GS (R : List UInt8) : List Nat := (List.range (gm R)).map (gv R)
theorem gv0 (R : List UInt8) (q : Nat) : gv R (4 * q) = rb R (3 * q) / 4 := by
  have h1 : 4 * q % 4 = 0 := by omega
  have h2 : 4 * q / 4 * 3 = 3 * q := by omega
  unfold gv; rw [h1, h2]; rfl
theorem gv1 (R : List UInt8) (q : Nat) : gv R (4 * q + 1) = rb R (3 * q) % 4 * 16 + rb R (3 * q + 1) / 16 := by
  have h1 : (4 * q + 1) % 4 = 1 := by omega
  have h2 : (4 * q + 1) / 4 * 3 = 3 * q := by omega
  unfold gv; rw [h1, h2]; rfl
theorem gv2 (R : List UInt8) (q : Nat) : gv R (4 * q + 2) = rb R (3 * q + 1) % 16 * 4 + rb R (3 * q + 2) / 64 := by
  have h1 : (4 * q + 2) % 4 = 2 := by omega
  have h2 : (4 * q + 2) / 4 * 3 = 3 * q := by omega
  unfold gv; rw [h1, h2]; rfl
theorem gv3 (R : List UInt8) (q : Nat) : gv R (4 * q + 3) = rb R (3 * q + 2) % 64 := by
  have h1 : (4 * q + 3) % 4 = 3 := by omega
  have h2 : (4 * q + 3) / 4 * 3 = 3 * q := by omega
  unfold gv; rw [h1, h2]; rfl
theorem four (j : Nat) : ∃ q, j = 4 * q ∨ j = 4 * q + 1 ∨ j = 4 * q + 2 ∨ j = 4 * q + 3 := ⟨j / 4, by omega⟩
theorem gv_lt (R : List UInt8) (j : Nat) : gv R j < 64 := by
  obtain ⟨q, rfl | rfl | rfl | rfl⟩ := four j
  · rw [gv0]; have := rb_lt R (3 * q); omega
  · rw [gv1]; have := rb_lt R (3 * q + 1); omega
  · rw [gv2]; have := rb_lt R (3 * q + 2); omega
  · rw [gv3]; omega

/-! the reader's places -/
def rp (len j : Nat) : Nat := min ((6 * j + 7) / 8) len
def rl (len j : Nat) : Nat := 8 * rp len j - 6 * j
def rbits (R : List UInt8) (j : Nat) : Nat := rb R (rp R.length j - 1) % 2 ^ rl R.length j
theorem read_step {R : List UInt8} {j : Nat} (h : 6 * (j + 1) ≤ 8 * R.length) (hl : rl R.length j < 6) :
    rp R.length (j + 1) = rp R.length j + 1 ∧ rp R.length j < R.length ∧ rl R.length (j + 1) = rl R.length j + 2 ∧
    rb R (rp R.length j) / 2 ^ rl R.length (j + 1) + rbits R j * 2 ^ (6 - rl R.length j) = gv R j ∧ rb R (rp R.length j) % 2 ^ rl R.length (j + 1) = rbits R (j + 1) := by
  obtain ⟨q, rfl | rfl | rfl | rfl⟩ := four j
  · have e1 : rp R.length (4 * q) = 3 * q := by unfold rp; omega
    have e2 : rp R.length (4 * q + 1) = 3 * q + 1 := by unfold rp; omega
    have e3 : rl R.length (4 * q) = 0 := by unfold rl; omega
    have e4 : rl R.length (4 * q + 1) = 2 := by unfold rl; omega
    unfold rbits
    rw [e1, e2, e3, e4, gv0, Nat.add_sub_cancel]
    refine ⟨rfl, by omega, rfl, ?_, rfl⟩
    simp [Nat.mod_one]
  · have e1 : rp R.length (4 * q + 1) = 3 * q + 1 := by unfold rp; omega
    have e2 : rp R.length (4 * q + 1 + 1) = 3 * q + 1 + 1 := by unfold rp; omega
    have e3 : rl R.length (4 * q + 1) = 2 := by unfold rl; omega
    have e4 : rl R.length (4 * q + 1 + 1) = 4 := by unfold rl; omega
    unfold rbits
    rw [e1, e2, e3, e4, gv1, Nat.add_sub_cancel, Nat.add_sub_cancel]
    refine ⟨rfl, by omega, rfl, ?_, rfl⟩
    omega
  · have e1 : rp R.length (4 * q + 2) = 3 * q + 1 + 1 := by unfold rp; omega
    have e2 : rp R.length (4 * q + 2 + 1) = 3 * q + 1 + 1 + 1 := by unfold rp; omega
    have e3 : rl R.length (4 * q + 2) = 4 := by unfold rl; omega
    have e4 : rl R.length (4 * q + 2 + 1) = 6 := by unfold rl; omega
    unfold rbits
    rw [e1, e2, e3, e4, gv2, Nat.add_sub_cancel, Nat.add_sub_cancel, show 3 * q + 2 = 3 * q + 1 + 1 from rfl]
    refine ⟨rfl, by omega, rfl, ?_, rfl⟩
    omega
  · have e1 : rp R.length (4 * q + 3) = 3 * q + 3 := by unfold rp; omega
    have e3 : rl R.length (4 * q + 3) = 6 := by unfold rl; omega
    omega
theorem read_six {R : List UInt8} {j : Nat} (h : 6 * (j + 1) ≤ 8 * R.length) (hl : ¬ rl R.length j < 6) :
    rl R.length j = 6 ∧ rp R.length (j + 1) = rp R.length j ∧ rl R.length (j + 1) = 0 ∧ rbits R j = gv R j := by
  obtain ⟨q, rfl | rfl | rfl | rfl⟩ := four j
  · have e1 : rp R.length (4 * q) = 3 * q := by unfold rp; omega
    have e3 : rl R.length (4 * q) = 0 := by unfold rl; omega
    omega
  · have e1 : rp R.length (4 * q + 1) = 3 * q + 1 := by unfold rp; omega
    have e3 : rl R.length (4 * q + 1) = 2 := by unfold rl; omega
    omega
  · have e1 : rp R.length (4 * q + 2) = 3 * q + 2 := by unfold rp; omega
    have e3 : rl R.length (4 * q + 2) = 4 := by unfold rl; omega
    omega
  · have e1 : rp R.length (4 * q + 3) = 3 * q + 2 + 1 := by unfold rp; omega
    have e2 : rp R.length (4 * q + 3 + 1) = 3 * q + 2 + 1 := by unfold rp; omega
    have e3 : rl R.length (4 * q + 3) = 6 := by unfold rl; omega
    have e4 : rl R.length (4 * q + 3 + 1) = 0 := by unfold rl; omega
    unfold rbits
    rw [e1, e2, e3, e4, gv3, Nat.add_sub_cancel]
    exact ⟨rfl, rfl, rfl, rfl⟩
theorem read_last {R : List UInt8} {j : Nat} (h : 6 * j < 8 * R.length) (h2 : 8 * R.length < 6 * (j + 1)) :
    rp R.length j = R.length ∧ rl R.length j = 8 * R.length - 6 * j ∧ rbits R j * 2 ^ (6 - (8 * R.length - 6 * j)) = gv R j ∧ j + 1 = gm R ∧ rp R.length (j + 1) = R.length ∧ rl R.length (j + 1) = 0 := by
  have e0 : rp R.length j = R.length := by unfold rp; omega
  have e1 : rp R.length (j + 1) = R.length := by unfold rp; omega
  have e2 : rl R.length j = 8 * R.length - 6 * j := by unfold rl; omega
  have e3 : rl R.length (j + 1) = 0 := by unfold rl; omega
  have e4 : ∀ i, R.length ≤ i → rb R i = 0 := fun i hi => by unfold rb; rw [List.getElem?_eq_none hi]; rfl
  refine ⟨e0, e2, ?_, by unfold gm; omega, e1, e3⟩
  unfold rbits
  rw [e0, e2]
  obtain ⟨q, rfl | rfl | rfl | rfl⟩ := four j
  · omega
  · have : R.length = 3 * q + 1 := by omega
    rw [gv1, this, show 8 * (3 * q + 1) - 6 * (4 * q + 1) = 2 by omega, e4 (3 * q + 1) (by omega)]
    simp
  · have : R.length = 3 * q + 1 + 1 := by omega
    rw [gv2, this, show 8 * (3 * q + 1 + 1) - 6 * (4 * q + 2) = 4 by omega, e4 (3 * q + 2) (by omega)]
    simp
  · omega

/-! the writer's places -/
def wp (j : Nat) : Nat := 6 * j / 8
def wl (j : Nat) : Nat := 6 * j % 8
def wbits (R : List UInt8) (j : Nat) : Nat := if wl j = 0 then 0 else rb R (wp j) / 2 ^ (8 - wl j)
theorem write_step (R : List UInt8) (j : Nat) : (wl j + 6) % 8 = wl (j + 1) ∧ wp (j + 1) = wp j + (wl j + 6) / 8 ∧
    (wbits R j * 2 ^ 6 + gv R j) % 2 ^ wl (j + 1) = wbits R (j + 1) ∧ (1 ≤ (wl j + 6) / 8 → (wbits R j * 2 ^ 6 + gv R j) / 2 ^ wl (j + 1) = rb R (wp j)) := by
  have hb : ∀ i, rb R i < 256 := rb_lt R
  obtain ⟨q, rfl | rfl | rfl | rfl⟩ := four j
  · have e1 : wl (4 * q) = 0 := by unfold wl; omega
    have e2 : wl (4 * q + 1) = 6 := by unfold wl; omega
    have e3 : wp (4 * q) = 3 * q := by unfold wp; omega
    have e4 : wp (4 * q + 1) = 3 * q := by unfold wp; omega
    unfold wbits
    rw [e1, e2, e3, e4, gv0]
    have := hb (3 * q)
    simp
    omega
  · have e1 : wl (4 * q + 1) = 6 := by unfold wl; omega
    have e2 : wl (4 * q + 1 + 1) = 4 := by unfold wl; omega
    have e3 : wp (4 * q + 1) = 3 * q := by unfold wp; omega
    have e4 : wp (4 * q + 1 + 1) = 3 * q + 1 := by unfold wp; omega
    unfold wbits
    rw [e1, e2, e3, e4, gv1]
    have := hb (3 * q)
    have := hb (3 * q + 1)
    simp
    omega
  · have e1 : wl (4 * q + 2) = 4 := by unfold wl; omega
    have e2 : wl (4 * q + 2 + 1) = 2 := by unfold wl; omega
    have e3 : wp (4 * q + 2) = 3 * q + 1 := by unfold wp; omega
    have e4 : wp (4 * q + 2 + 1) = 3 * q + 2 := by unfold wp; omega
    unfold wbits
    rw [e1, e2, e3, e4, gv2]
    have := hb (3 * q + 1)
    have := hb (3 * q + 2)
    simp
    omega
  · have e1 : wl (4 * q + 3) = 2 := by unfold wl; omega
    have e2 : wl (4 * q + 3 + 1) = 0 := by unfold wl; omega
    have e3 : wp (4 * q + 3) = 3 * q + 2 := by unfold wp; omega
    have e4 : wp (4 * q + 3 + 1) = 3 * q + 2 + 1 := by unfold wp; omega
    unfold wbits
    rw [e1, e2, e3, e4, gv3]
    have := hb (3 * q + 2)
    simp
    omega
theorem wbits_lt (R : List UInt8) (j : Nat) : wbits R j < 2 ^ wl j := by
  unfold wbits
  have := rb_lt R (wp j)
  have h8 : wl j < 8 := by unfold wl; omega
  split
  · rename_i h; rw [h]; decide
  · rw [Nat.div_lt_iff_lt_mul (Nat.two_pow_pos _), ← Nat.pow_add, show wl j + (8 - wl j) = 8 by omega]; exact this
theorem write_end (R : List UInt8) : wp (gm R) = R.length ∧ wbits R (gm R) = 0 := by
  have e1 : wp (gm R) = R.length := by unfold wp gm; omega
  refine ⟨e1, ?_⟩
  unfold wbits
  rw [e1]
  split
  · rfl
  · unfold rb; rw [List.getElem?_eq_none (Nat.le_refl _)]; simp

end Mine
end
/-! part L4_br5014_04 -/
section
open PySem PySem.W PySem.Calls PyProof.Rows
namespace Mine
local macro_rules | `(tactic| walk_at "mini ne") => `(tactic| first
  | assumption
  | exact Ne.symm (by assumption)
  | ((with_reducible apply h_fresh); walk_at "mini h")
  | ((with_reducible apply h_fresh'); walk_at "mini h")
  | omega)
local macro_rules | `(tactic| walk_at "mini h") => `(tactic| first
  | assumption
  | (with_reducible exact h_new)
  | ((with_reducible apply h_set); walk_at "mini h")
  | ((with_reducible apply h_app); walk_at "mini h")
  | ((with_reducible apply h_ne); (walk_at "mini ne"); walk_at "mini h"))
local macro_rules | `(tactic| walk_at "mini v") => `(tactic| first
  | (with_reducible exact vs_same)
  | (with_reducible assumption)
  | ((with_reducible apply vs_ne); (decide +kernel); walk_at "mini v")
  | rfl)
local macro_rules | `(tactic| walk_at "mini c") => `(tactic| first
  | rfl
  | assumption
  | (simp only [decide_eq_true_eq, decide_eq_false_iff_not, beq_iff_eq, bne_iff_ne, bne_eq_false_iff_eq, Bool.not_eq_true', Bool.not_eq_false', ne_eq, beq_eq_false_iff_ne, not_true_eq_false, not_false_eq_true] <;> first | omega | assumption)
  | (simp; done))
local macro_rules | `(tactic| walk_at "mini g") => `(tactic| fail "mini g")
local macro_rules | `(tactic| walk_at "mini m") => `(tactic| ((with_reducible apply getM_app); walk_at "mini h"))
local macro_rules | `(tactic| walk_at "mini call") => `(tactic| first | (with_reducible assumption) | ((walk_at "mini fn"); with_reducible assumption))
local macro_rules | `(tactic| walk_at "mini xs") => `(tactic| first
  | (with_reducible exact xs_nil)
  | (apply xs_step))
local macro_rules | `(tactic| walk_at "mini x") => `(tactic| with_reducible first
  | (apply x_asgN)
  | (apply x_if)
  | (apply x_ret)
  | (apply x_asgA)
  | (apply x_expr)
  | (apply x_augN)
  | (apply x_augA)
  | (apply x_for)
  | (apply x_while)
  | (apply x_asgS)
  | (apply x_asgI)
  | (apply x_try)
  | (exact x_ret0)
  | (exact x_pass))
local macro_rules | `(tactic| walk_at "mini e") => `(tactic| with_reducible first
  | (apply r_name)
  | (exact r_int)
  | (apply r_attr)
  | (apply r_bin)
  | (apply r_meth)
  | (apply r_call)
  | (exact r_none)
  | (exact r_bool)
  | (exact r_str)
  | (exact r_bytes)
  | (apply r_neg)
  | (apply r_not)
  | (apply r_ifx)
  | (apply r_and)
  | (apply r_or)
  | (apply r_cmp)
  | (apply r_list)
  | (apply r_tup)
  | (apply r_slice)
  | (apply r_sub)
  | (apply r_comp))
local macro_rules | `(tactic| walk_at "mini ts") => `(tactic| with_reducible first
  | (apply q_cmp)
  | (apply q_name)
  | (apply q_not)
  | (apply q_ops)
  | (apply q_attr)
  | (apply q_call)
  | (apply q_sub)
  | (apply q_bin))
local macro_rules | `(tactic| walk_at "mini i") => `(tactic| first
  | (with_reducible exact i_add)
  | (with_reducible exact i_sub)
  | ((with_reducible apply i_modp); first | omega | decide)
  | ((with_reducible apply i_shrp); first | omega | decide)
  | ((with_reducible apply i_divp); (first | omega | decide); (first | omega | decide))
  | ((with_reducible apply i_shl); first | omega | decide)
  | ((with_reducible apply i_mul))
  | ((with_reducible apply i_pow); first | omega | decide)
  | (with_reducible exact i_and)
  | (with_reducible exact i_or)
  | (with_reducible exact i_xor))
local macro_rules | `(tactic| walk_at "mini b") => `(tactic| first
  | (with_reducible exact b_int)
  | (with_reducible apply b_type)
  | ((with_reducible apply b_len_barr); (walk_at "mini h"))
  | ((with_reducible apply b_len_bytes))
  | ((with_reducible apply b_len_str))
  | ((with_reducible apply b_len_list); (walk_at "mini h"))
  | ((with_reducible apply b_bytes_b); (walk_at "mini h"))
  | ((with_reducible apply b_barr_b))
  | ((with_reducible apply b_bytes_1); (omega); (omega))
  | ((with_reducible apply b_barr_n); (omega))
  | ((with_reducible apply b_append); (walk_at "mini h"))
  | ((with_reducible apply b_bytes_l); (walk_at "mini h"); (with_reducible assumption))
  | ((with_reducible apply b_ord); (with_reducible assumption))
  | ((with_reducible apply range_up); (omega); (omega))
  | ((with_reducible apply range_ab); (omega); (omega); (omega); (omega))
  | ((with_reducible apply range_by); (first | omega | decide); (first | omega | decide); (omega); (omega))
  | ((with_reducible apply range_down); (omega); (omega); (omega); (omega)))
local macro_rules | `(tactic| walk_at "mini") => `(tactic| first
  | ((with_reducible change ev _ _ _ _ _ _ _ = _); walk_at "mini e")
  | ((with_reducible change nameV _ _ _ _ = _); first
    | ((with_reducible apply name_loc); (decide +kernel); (walk_at "mini v"); (decide +kernel))
    | ((with_reducible apply name_glob); (decide +kernel); (walk_at "mini m"); (decide +kernel))
    | ((with_reducible apply name_cell); (decide +kernel); (walk_at "mini v"); (decide +kernel)))
  | ((with_reducible change ex _ _ _ _ _ _ _ = _); walk_at "mini x")
  | ((with_reducible change exs _ _ _ _ _ _ _ = _); walk_at "mini xs")
  | ((with_reducible change SR.andThen _ _ = _); first | (with_reducible apply at_next) | (with_reducible exact at_ret))
  | ((with_reducible change ts _ _ _ _ _ _ _ = _); walk_at "mini ts")
  | ((with_reducible change tsL _ _ _ _ _ _ _ _ = _); with_reducible first | (apply q_and) | (apply q_or) | (exact q_nil))
  | ((with_reducible change evL _ _ _ = _); with_reducible first | (exact r_nil) | (apply r_cons))
  | ((with_reducible change getA _ _ _ _ = _); walk_at "mini g")
  | ((with_reducible change setA _ _ _ _ _ = _); walk_at "mini g")
  | ((with_reducible change getM _ _ _ _ = _); walk_at "mini m")
  | ((with_reducible change callable _ _ = _); first | (walk_at "mini m") | rfl)
  | ((with_reducible change binop _ _ _ _ = _); first
    | (with_reducible apply i_bin)
    | ((with_reducible apply b_cat); (walk_at "mini h"); (walk_at "mini h"))
    | ((with_reducible apply b_rep); (walk_at "mini h"))
    | (with_reducible apply b_cats)
    | (with_reducible apply b_smul))
  | ((with_reducible change intOp _ _ _ = _); walk_at "mini i")
  | ((with_reducible change cmpop _ _ _ _ = _); first | rfl | ((with_reducible apply c_eq_lists); (walk_at "mini h"); (walk_at "mini h")) | ((with_reducible apply c_ne_lists); (walk_at "mini h"); (walk_at "mini h")))
  | ((with_reducible change truthO _ _ _ = _); rfl)
  | ((with_reducible change callV _ _ _ _ _ = _); first | (with_reducible apply callV_type) | (with_reducible apply callV_blt) | (with_reducible apply callV_meth) | (walk_at "mini call"))
  | ((with_reducible change bcall _ _ _ _ = _); walk_at "mini b")
  | ((with_reducible change (ite _ _ _) = _); first
    | ((with_reducible apply ite_t); (walk_at "mini c"))
    | ((with_reducible apply ite_f); (walk_at "mini c")))
  | (with_reducible exact okR)
  | (with_reducible exact okS)
  | (with_reducible exact an_ret)
  | (with_reducible exact an_next)
  | (with_reducible exact okP)
  | (with_reducible exact okH)
  | ((with_reducible change callF _ _ _ _ _ = _); with_reducible assumption)
  | ((with_reducible change partO _ = _); rfl)
  | ((with_reducible change localIn _ _ = _); decide +kernel)
  | ((with_reducible change isListComp _ = _); rfl)
  | ((with_reducible change plainIter _ = _); rfl)
  | ((with_reducible change isCallE _ = _); rfl)
  | ((with_reducible change behindInMarks _ _ = _); rfl)
  | ((with_reducible change List.any _ isStarredE = _); rfl)
  | ((with_reducible change (isCallE _ || _ || _ || _) = _); rfl)
  | ((with_reducible change ∀ _ _ _ _, _); intros; intro hq; cases hq)
  | ((with_reducible change evO _ _ _ _ _ _ _ = _); with_reducible first | (exact r_evO_none) | (apply r_evO_some))
  | (with_reducible exact app1)
  | (with_reducible exact app0)
  | ((with_reducible change typeOfP _ _ = _); first | (with_reducible exact ty_int) | (with_reducible exact ty_bytes) | ((with_reducible apply ty_barr); walk_at "mini h"))
  | ((with_reducible change powOk _ _ = _); with_reducible assumption)
  | ((with_reducible change mulOk _ _ = _); first | (with_reducible assumption) | ((apply mul_ok); (first | decide | omega)) | ((apply mul_ok'); (first | decide | omega)))
  | ((with_reducible change shlOk _ _ = _); first | assumption | ((apply shl_one); omega))
  | ((with_reducible change (_ : Int) ≤ _); omega)
  | ((with_reducible change (_ : Int) < _); omega)
  | ((with_reducible change sizeOk _ = _); first | rfl | (apply sz_ok; first | omega | (simp; omega)))
  | ((with_reducible change subS _ _ _ _ _ _ = _); first
    | ((with_reducible apply s_barr_ex); (walk_at "mini h"); (omega); (omega))
    | ((with_reducible apply s_list_dt); (walk_at "mini h"); (omega); (omega))
    | ((with_reducible apply s_list_hi); (walk_at "mini h"); (omega))
    | ((with_reducible apply s_scr_hi); (omega))
    | ((with_reducible apply s_bytes_hi); (omega))
    | ((with_reducible apply s_bytes_lo); (omega)))
  | ((with_reducible change sameObj _ _ = _); first | rfl | (exact beq_eq_false_iff_ne.mpr (by walk_at "mini ne")))
  | ((with_reducible change setI _ _ _ _ = _); (with_reducible apply st_barr_i); (walk_at "mini h"); (with_reducible assumption))
  | ((with_reducible change setS _ _ _ _ _ = _); (with_reducible apply st_barr_s); (walk_at "mini h"))
  | ((with_reducible change octetsOf _ _ = _); first | (with_reducible exact oc_bytes) | ((with_reducible apply oc_barr); (walk_at "mini h"))))
local macro_rules | `(tactic| walk_at "mini s") => `(tactic| first
  | ((apply ok_step); (· ((repeat (walk_at "mini")); done)))
  | ((with_reducible apply ok_nilB))
  | ((with_reducible apply ok_beh))
  | ((with_reducible apply ok_nil)))
local macro_rules | `(tactic| walk_at "mini r") => `(tactic| first
  | ((apply ok_retB); (· ((repeat (walk_at "mini")); done)))
  | ((apply ok_ret); (· ((repeat (walk_at "mini")); done))))

local macro_rules | `(tactic| walk_at "mini g") => `(tactic| with_reducible first
  | (apply g_io; walk_at "mini h") | (apply g_bl; walk_at "mini h") | (apply g_bits; walk_at "mini h") | (apply g_le; walk_at "mini h") | (apply g_wm; walk_at "mini h") | (apply g_sz; walk_at "mini h")
  | (apply g_buf; walk_at "mini h") | (apply g_pos; walk_at "mini h")
  | (apply p_bl; walk_at "mini h") | (apply p_bits; walk_at "mini h") | (apply p_le; walk_at "mini h") | (apply p_wm; walk_at "mini h") | (apply p_sz; walk_at "mini h") | (apply p_pos; walk_at "mini h"))

local macro_rules | `(tactic| walk_at "mini fn") => `(tactic| with_reducible first
  | apply callV_fn fn__whence
  | apply callV_fn fn__index
  | apply callV_fn fn_IOBase___new__
  | apply callV_fn fn_BytesIO___init__
  | apply callV_fn fn_BytesIO___check
  | apply callV_fn fn_BytesIO_seekable
  | apply callV_fn fn_BytesIO_tell
  | apply callV_fn fn_BytesIO_seek
  | apply callV_fn fn_BytesIO_read
  | apply callV_fn fn_BytesIO_write
  | apply callV_fn fn_KaitaiStruct___init__
  | apply callV_fn fn_KaitaiStruct_from_bytes
  | apply callV_fn fn_KaitaiStream___init__
  | apply callV_fn fn_KaitaiStream_is_eof
  | apply callV_fn fn_KaitaiStream_seek
  | apply callV_fn fn_KaitaiStream_pos
  | apply callV_fn fn_KaitaiStream_size
  | apply callV_fn fn_KaitaiStream_align_to_byte
  | apply callV_fn fn_KaitaiStream_read_bits_int_be
  | apply callV_fn fn_KaitaiStream__read_bytes_not_aligned
  | apply callV_fn fn_KaitaiStream_read_bytes_full
  | apply callV_fn fn_KaitaiStream__ensure_bytes_left_to_write
  | apply callV_fn fn_KaitaiStream_write_align_to_byte
  | apply callV_fn fn_KaitaiStream_write_bits_int_be
  | apply callV_fn fn_KaitaiStream__write_bytes_not_aligned
  | apply callV_fn fn_KaitaiStream_byte_from_int
  | apply callV_fn fn_KaitaiStream_to_byte_array
  | apply callV_fn fn_KaitaiStructError___init__
  | apply callV_fn fn_InvalidArgumentError___init__
  | apply callV_fn fn_EndOfStreamError___init__
  | apply callV_fn fn__law_vectors
  | apply callV_fn fn__law_plain_groups
  | apply callV_fn fn__law_text
  | apply callV_fn fn__law_read
  | apply callV_fn fn__law_sextets
  | apply callV_fn fn__law_write
  | apply callV_fn fn__law_round
  | apply callV_fn fn_law)
local macro_rules | `(tactic| walk_at "mini m") => `(tactic| with_reducible first
  | exact gv_AttributeError
  | exact gv_BytesIO
  | exact gv_EndOfStreamError
  | exact gv_InvalidArgumentError
  | exact gv_KaitaiStream
  | exact gv_KaitaiStruct
  | exact gv_KaitaiStructError
  | exact gv_OSError
  | exact gv_PY2
  | exact gv_SEEK_END
  | exact gv_ValueError
  | exact gv__index
  | exact gv__law_plain_groups
  | exact gv__law_read
  | exact gv__law_round
  | exact gv__law_sextets
  | exact gv__law_text
  | exact gv__law_vectors
  | exact gv__law_write
  | exact gv__whence
  | exact gv_bool
  | exact gv_bytearray
  | exact gv_bytes
  | exact gv_callable
  | exact gv_chr
  | exact gv_getattr
  | exact gv_int
  | exact gv_len
  | exact gv_object
  | exact gv_ord
  | exact gv_range
  | exact gv_str
  | exact gv_super
  | exact gv_type
  | (apply mm_BytesIO__BytesIO__check; walk_at "mini h")
  | (apply mm_BytesIO___init__; walk_at "mini h")
  | (apply mm_BytesIO_read; walk_at "mini h")
  | (apply mm_BytesIO_seek; walk_at "mini h")
  | (apply mm_BytesIO_seekable; walk_at "mini h")
  | (apply mm_BytesIO_tell; walk_at "mini h")
  | (apply mm_BytesIO_write; walk_at "mini h")
  | (apply mm_KaitaiStruct___init__; walk_at "mini h")
  | exact getM_cls cm_KaitaiStruct_from_bytes
  | exact cm2_KaitaiStruct_from_bytes
  | (apply mm_KaitaiStream___init__; walk_at "mini h")
  | (apply mm_KaitaiStream__ensure_bytes_left_to_write; walk_at "mini h")
  | (apply mm_KaitaiStream__read_bytes_not_aligned; walk_at "mini h")
  | (apply mm_KaitaiStream__write_bytes_not_aligned; walk_at "mini h")
  | (apply mm_KaitaiStream_align_to_byte; walk_at "mini h")
  | exact getM_cls cm_KaitaiStream_byte_from_int
  | (apply mm_KaitaiStream_is_eof; walk_at "mini h")
  | (apply mm_KaitaiStream_pos; walk_at "mini h")
  | (apply mm_KaitaiStream_read_bits_int_be; walk_at "mini h")
  | (apply mm_KaitaiStream_read_bytes_full; walk_at "mini h")
  | (apply mm_KaitaiStream_seek; walk_at "mini h")
  | (apply mm_KaitaiStream_size; walk_at "mini h")
  | (apply mm_KaitaiStream_to_byte_array; walk_at "mini h")
  | (apply mm_KaitaiStream_write_align_to_byte; walk_at "mini h")
  | (apply mm_KaitaiStream_write_bits_int_be; walk_at "mini h"))

local macro_rules | `(tactic| walk_at "mini call") => `(tactic| ((with_reducible apply callV_fn fn__index); ((with_reducible apply L_index); (omega); (omega))))
local macro_rules | `(tactic| walk_at "mini call") => `(tactic| ((with_reducible apply callV_fn fn__whence); ((with_reducible apply L_whence); (omega); (omega))))
local macro_rules | `(tactic| walk_at "mini call") => `(tactic| ((with_reducible apply callV_fn fn_KaitaiStream_align_to_byte); ((with_reducible apply L_align); (walk_at "mini h"))))
local macro_rules | `(tactic| walk_at "mini call") => `(tactic| ((with_reducible apply callV_fn fn_BytesIO___check); ((with_reducible apply L_check); (walk_at "mini h"))))
local macro_rules | `(tactic| walk_at "mini call") => `(tactic| ((with_reducible apply callV_fn fn_BytesIO_tell); ((with_reducible apply L_tell); (walk_at "mini h"))))

local macro_rules | `(tactic| walk_at "mini call") => `(tactic| ((with_reducible apply callV_fn fn_BytesIO_seek); first | ((with_reducible apply L_seek2); (walk_at "mini h"); (walk_at "mini h"); (omega)) | ((with_reducible apply L_seek); (walk_at "mini h"); (omega); (omega))))
local macro_rules | `(tactic| walk_at "mini call") => `(tactic| ((with_reducible apply callV_fn fn_KaitaiStream_size); ((with_reducible apply L_size); (walk_at "mini h"); (walk_at "mini h"); (walk_at "mini h"); (walk_at "mini ne"); (omega); (omega); (omega))))
local macro_rules | `(tactic| walk_at "mini call") => `(tactic| ((with_reducible apply callV_fn fn_KaitaiStream_pos); first | ((with_reducible apply L_pos_r); (walk_at "mini h"); (walk_at "mini h")) | ((with_reducible apply L_pos_w0); (walk_at "mini h"); (walk_at "mini h"); (omega)) | ((with_reducible apply L_pos_w1); (walk_at "mini h"); (walk_at "mini h"); (omega))))
local macro_rules | `(tactic| walk_at "mini call") => `(tactic| ((with_reducible apply callV_fn fn_BytesIO_read); ((with_reducible apply L_read); (walk_at "mini h"); (walk_at "mini h"); (omega); (omega); (omega); (omega))))

local macro_rules | `(tactic| walk_at "mini call") => `(tactic| ((with_reducible apply callV_fn fn_KaitaiStream__read_bytes_not_aligned); ((with_reducible apply L_rbna); (walk_at "mini h"); (walk_at "mini h"); (walk_at "mini h"); (omega); (omega); (omega); (omega); (omega))))
local macro_rules | `(tactic| walk_at "mini call") => `(tactic| ((with_reducible apply callV_fn fn_KaitaiStream__ensure_bytes_left_to_write); ((with_reducible apply L_ebl); (walk_at "mini h"); (omega))))
local macro_rules | `(tactic| walk_at "mini call") => `(tactic| ((with_reducible apply callV_fn fn_KaitaiStream_byte_from_int); ((with_reducible apply L_bfi); (omega); (omega))))

local macro_rules | `(tactic| walk_at "mini g") => `(tactic| with_reducible first
  | (apply g_kio; walk_at "mini h"))
abbrev rowO (R : List UInt8) : PO := .list (R.map fun c => .int (c.toNat : Nat))
theorem octets_row (R : List UInt8) : octets (R.map fun c => PV.int (c.toNat : Nat)) = some R := by
  induction R with
  | nil => rfl
  | cons c R ih =>
    have := c.toNat_lt
    rw [List.map_cons]
    unfold octets
    rw [if_pos ⟨by omega, by omega⟩, ih, Int.toNat_natCast, UInt8.ofNat_toNat]
    rfl
theorem Keep.low {σ s s' : PH} {A : List Nat} (h : Keep σ s []) (k : Keep s s' A) (hA : ∀ a ∈ A, σ.length ≤ a) : Keep σ s' [] := fun x o hx e => by
  refine k x o (fun q => ?_) (h x o hx e)
  have := hA x q
  have := h_lt e
  omega
section
variable {P : Params} {ns : List Int} {σ : PH} {α β γ ch : Nat} {io : Nat} {bl b sz v p : Int} {le wm lv : Bool} {buf : Array UInt8} {d : Nat}
set_option maxHeartbeats 4000000
theorem read_ok {R : List UInt8} {j : Nat} {s : PH} (hR : R.length ≤ 1000) (h : 6 * (j + 1) ≤ 8 * R.length) (ha : s[α]? = some (strm β (rl R.length j) (rbits R j) le wm ch sz)) (hβ : s[β]? = some (bio γ (rp R.length j))) (hb : s[γ]? = some (.barr R.toArray)) (na : α ≠ β) :
    ∃ s1, callF (W0 P ns) (d + 5) 731 [.obj α, .int 6] s = .ok (.int (gv R j)) s1 ∧ s1[α]? = some (strm β (rl R.length (j + 1)) (rbits R (j + 1)) le false ch sz) ∧ s1[β]? = some (bio γ (rp R.length (j + 1))) ∧ s1[γ]? = some (.barr R.toArray) ∧ Keep s s1 [α, β] := by
  have hbits : rbits R j < 2 ^ rl R.length j := Nat.mod_lt _ (Nat.two_pow_pos _)
  by_cases hl : rl R.length j < 6
  · obtain ⟨e1, e2, e3, e4, e5⟩ := read_step h hl
    have hc0 : rb R (rp R.length j) = R[rp R.length j].toNat := by unfold rb; rw [List.getElem?_eq_getElem e2]; rfl
    have hB : [R[rp R.length j]] = (R.toArray.extract ((rp R.length j : Nat) : Int).toNat (((rp R.length j : Nat) : Int) + (1 : Nat)).toNat).toList := by
      rw [show (((rp R.length j : Nat) : Int) + (1 : Nat)).toNat = rp R.length j + 1 by omega, Int.toNat_natCast]
      simp only [Array.toList_extract, List.extract_eq_take_drop]
      rw [show rp R.length j + 1 - rp R.length j = 1 by omega, List.drop_eq_getElem_cons (by simpa using e2), List.take_succ_cons, List.take_zero]
    have hbi : ((rbits R j : Nat) : Int) < 2 ^ ((rl R.length j : Nat) : Int).toNat := by rw [Int.toNat_natCast]; exact_mod_cast hbits
    obtain ⟨v, s1, hc, rfl, f1, f2, f3, f4⟩ := L_rb_be (P := P) (ns := ns) (d := d) (n := 6) ha hβ hb na (by omega) (by simp; omega) (by omega) (by omega) (by omega) hbi (by omega) (by omega) 1 (by omega) (by simp; omega) [R[rp R.length j]] hB
    have hbe : beN [R[rp R.length j]] = rb R (rp R.length j) := by rw [hc0]; simp [beN]
    have g1 : (-(6 - ((rl R.length j : Nat) : Int))) % 8 = ((rl R.length j + 2 : Nat) : Int) := by omega
    have g2 : (6 - ((rl R.length j : Nat) : Int)).toNat = 6 - rl R.length j := by omega
    rw [g1, Int.toNat_natCast, hbe] at hc f1
    rw [g2] at hc
    rw [← e3] at hc f1
    refine ⟨s1, ?_, ?_, ?_, f3, f4⟩
    · rw [hc, ← e4]; simp
    · rw [f1, ← e5]; simp
    · rw [f2, e1]; simp
  · obtain ⟨e1, e2, e3, e4⟩ := read_six h hl
    have hc := L_rb_be0 (P := P) (ns := ns) (d := d) (n := 6) ha (by omega) (by omega) (by omega) (by omega)
    have g1 : ((rl R.length j : Nat) : Int) - 6 = 0 := by omega
    rw [g1] at hc
    refine ⟨s.set α (strm β 0 (((rbits R j : Nat) : Int) % 2 ^ Int.toNat 0) le false ch sz), hc.trans ?_, ?_, ?_, ?_, ?_⟩
    · rw [← e4]; simp
    · rw [e3]
      have : rbits R (j + 1) = 0 := by unfold rbits; rw [e3]; exact Nat.mod_one _
      rw [this]
      simpa [Int.emod_one] using h_set ha
    · rw [e2]; exact h_ne na hβ
    · exact h_ne (fun e => by subst e; rw [ha] at hb; cases hb) hb
    · exact Keep.refl.set (by simp)
theorem read_tail {R : List UInt8} {j : Nat} {s : PH} (h : 6 * j < 8 * R.length) (h2 : 8 * R.length < 6 * (j + 1)) (ha : s[α]? = some (strm β (rl R.length j) (rbits R j) le wm ch sz)) (hβ : s[β]? = some (bio γ (rp R.length j))) (hb : s[γ]? = some (.barr R.toArray)) (na : α ≠ β) :
    ∃ s1, callF (W0 P ns) (d + 5) 731 [.obj α, .int ((8 * R.length - 6 * j : Nat) : Int)] s = .ok (.int (rbits R j)) s1 ∧ s1[α]? = some (strm β (rl R.length (j + 1)) (rbits R (j + 1)) le false ch sz) ∧ s1[β]? = some (bio γ (rp R.length (j + 1))) ∧ s1[γ]? = some (.barr R.toArray) ∧ Keep s s1 [α, β] := by
  obtain ⟨e1, e2, e3, e4, e5, e6⟩ := read_last h h2
  have hc := L_rb_be0 (P := P) (ns := ns) (d := d) (n := ((8 * R.length - 6 * j : Nat) : Int)) ha (by omega) (by omega) (by omega) (by omega)
  rw [e2, Int.sub_self] at hc
  refine ⟨s.set α (strm β 0 (((rbits R j : Nat) : Int) % 2 ^ Int.toNat 0) le false ch sz), hc.trans ?_, ?_, ?_, ?_, ?_⟩
  · simp
  · have : rbits R (j + 1) = 0 := by unfold rbits; rw [e6]; exact Nat.mod_one _
    rw [this, e6]
    simpa [Int.emod_one] using h_set ha
  · rw [e5, ← e1]; exact h_ne na hβ
  · exact h_ne (fun e => by subst e; rw [ha] at hb; cases hb) hb
  · exact Keep.refl.set (by simp)
end

end Mine
end
/-! part L5_br5014_04 -/
section
open PySem PySem.W PySem.Calls PyProof.Rows
namespace Mine
local macro_rules | `(tactic| walk_at "mini ne") => `(tactic| first
  | assumption
  | exact Ne.symm (by assumption)
  | ((with_reducible apply h_fresh); walk_at "mini h")
  | ((with_reducible apply h_fresh'); walk_at "mini h")
  | omega)
local macro_rules | `(tactic| walk_at "mini h") => `(tactic| first
  | assumption
  | (with_reducible exact h_new)
  | ((with_reducible apply h_set); walk_at "mini h")
  | ((with_reducible apply h_app); walk_at "mini h")
  | ((with_reducible apply h_ne); (walk_at "mini ne"); walk_at "mini h"))
local macro_rules | `(tactic| walk_at "mini v") => `(tactic| first
  | (with_reducible exact vs_same)
  | (with_reducible assumption)
  | ((with_reducible apply vs_ne); (decide +kernel); walk_at "mini v")
  | rfl)
local macro_rules | `(tactic| walk_at "mini c") => `(tactic| first
  | rfl
  | assumption
  | (simp only [decide_eq_true_eq, decide_eq_false_iff_not, beq_iff_eq, bne_iff_ne, bne_eq_false_iff_eq, Bool.not_eq_true', Bool.not_eq_false', ne_eq, beq_eq_false_iff_ne, not_true_eq_false, not_false_eq_true] <;> first | omega | assumption)
  | (simp; done))
local macro_rules | `(tactic| walk_at "mini g") => `(tactic| fail "mini g")
local macro_rules | `(tactic| walk_at "mini m") => `(tactic| ((with_reducible apply getM_app); walk_at "mini h"))
local macro_rules | `(tactic| walk_at "mini call") => `(tactic| first | (with_reducible assumption) | ((walk_at "mini fn"); with_reducible assumption))
local macro_rules | `(tactic| walk_at "mini xs") => `(tactic| first
  | (with_reducible exact xs_nil)
  | (apply xs_step))
local macro_rules | `(tactic| walk_at "mini x") => `(tactic| with_reducible first
  | (apply x_asgN)
  | (apply x_if)
  | (apply x_ret)
  | (apply x_asgA)
  | (apply x_expr)
  | (apply x_augN)
  | (apply x_augA)
  | (apply x_for)
  | (apply x_while)
  | (apply x_asgS)
  | (apply x_asgI)
  | (apply x_try)
  | (exact x_ret0)
  | (exact x_pass))
local macro_rules | `(tactic| walk_at "mini e") => `(tactic| with_reducible first
  | (apply r_name)
  | (exact r_int)
  | (apply r_attr)
  | (apply r_bin)
  | (apply r_meth)
  | (apply r_call)
  | (exact r_none)
  | (exact r_bool)
  | (exact r_str)
  | (exact r_bytes)
  | (apply r_neg)
  | (apply r_not)
  | (apply r_ifx)
  | (apply r_and)
  | (apply r_or)
  | (apply r_cmp)
  | (apply r_list)
  | (apply r_tup)
  | (apply r_slice)
  | (apply r_sub)
  | (apply r_comp))
local macro_rules | `(tactic| walk_at "mini ts") => `(tactic| with_reducible first
  | (apply q_cmp)
  | (apply q_name)
  | (apply q_not)
  | (apply q_ops)
  | (apply q_attr)
  | (apply q_call)
  | (apply q_sub)
  | (apply q_bin))
local macro_rules | `(tactic| walk_at "mini i") => `(tactic| first
  | (with_reducible exact i_add)
  | (with_reducible exact i_sub)
  | ((with_reducible apply i_modp); first | omega | decide)
  | ((with_reducible apply i_shrp); first | omega | decide)
  | ((with_reducible apply i_divp); (first | omega | decide); (first | omega | decide))
  | ((with_reducible apply i_shl); first | omega | decide)
  | ((with_reducible apply i_mul))
  | ((with_reducible apply i_pow); first | omega | decide)
  | (with_reducible exact i_and)
  | (with_reducible exact i_or)
  | (with_reducible exact i_xor))
local macro_rules | `(tactic| walk_at "mini b") => `(tactic| first
  | (with_reducible exact b_int)
  | (with_reducible apply b_type)
  | ((with_reducible apply b_len_barr); (walk_at "mini h"))
  | ((with_reducible apply b_len_bytes))
  | ((with_reducible apply b_len_str))
  | ((with_reducible apply b_len_list); (walk_at "mini h"))
  | ((with_reducible apply b_bytes_b); (walk_at "mini h"))
  | ((with_reducible apply b_barr_b))
  | ((with_reducible apply b_bytes_1); (omega); (omega))
  | ((with_reducible apply b_barr_n); (omega))
  | ((with_reducible apply b_append); (walk_at "mini h"))
  | ((with_reducible apply b_bytes_l); (walk_at "mini h"); (with_reducible assumption))
  | ((with_reducible apply b_ord); (with_reducible assumption))
  | ((with_reducible apply range_up); (omega); (omega))
  | ((with_reducible apply range_ab); (omega); (omega); (omega); (omega))
  | ((with_reducible apply range_by); (first | omega | decide); (first | omega | decide); (omega); (omega))
  | ((with_reducible apply range_down); (omega); (omega); (omega); (omega)))
local macro_rules | `(tactic| walk_at "mini") => `(tactic| first
  | ((with_reducible change ev _ _ _ _ _ _ _ = _); walk_at "mini e")
  | ((with_reducible change nameV _ _ _ _ = _); first
    | ((with_reducible apply name_loc); (decide +kernel); (walk_at "mini v"); (decide +kernel))
    | ((with_reducible apply name_glob); (decide +kernel); (walk_at "mini m"); (decide +kernel))
    | ((with_reducible apply name_cell); (decide +kernel); (walk_at "mini v"); (decide +kernel)))
  | ((with_reducible change ex _ _ _ _ _ _ _ = _); walk_at "mini x")
  | ((with_reducible change exs _ _ _ _ _ _ _ = _); walk_at "mini xs")
  | ((with_reducible change SR.andThen _ _ = _); first | (with_reducible apply at_next) | (with_reducible exact at_ret))
  | ((with_reducible change ts _ _ _ _ _ _ _ = _); walk_at "mini ts")
  | ((with_reducible change tsL _ _ _ _ _ _ _ _ = _); with_reducible first | (apply q_and) | (apply q_or) | (exact q_nil))
  | ((with_reducible change evL _ _ _ = _); with_reducible first | (exact r_nil) | (apply r_cons))
  | ((with_reducible change getA _ _ _ _ = _); walk_at "mini g")
  | ((with_reducible change setA _ _ _ _ _ = _); walk_at "mini g")
  | ((with_reducible change getM _ _ _ _ = _); walk_at "mini m")
  | ((with_reducible change callable _ _ = _); first | (walk_at "mini m") | rfl)
  | ((with_reducible change binop _ _ _ _ = _); first
    | (with_reducible apply i_bin)
    | ((with_reducible apply b_cat); (walk_at "mini h"); (walk_at "mini h"))
    | ((with_reducible apply b_rep); (walk_at "mini h"))
    | (with_reducible apply b_cats)
    | (with_reducible apply b_smul))
  | ((with_reducible change intOp _ _ _ = _); walk_at "mini i")
  | ((with_reducible change cmpop _ _ _ _ = _); first | rfl | ((with_reducible apply c_eq_lists); (walk_at "mini h"); (walk_at "mini h")) | ((with_reducible apply c_ne_lists); (walk_at "mini h"); (walk_at "mini h")))
  | ((with_reducible change truthO _ _ _ = _); rfl)
  | ((with_reducible change callV _ _ _ _ _ = _); first | (with_reducible apply callV_type) | (with_reducible apply callV_blt) | (with_reducible apply callV_meth) | (walk_at "mini call"))
  | ((with_reducible change bcall _ _ _ _ = _); walk_at "mini b")
  | ((with_reducible change (ite _ _ _) = _); first
    | ((with_reducible apply ite_t); (walk_at "mini c"))
    | ((with_reducible apply ite_f); (walk_at "mini c")))
  | (with_reducible exact okR)
  | (with_reducible exact okS)
  | (with_reducible exact an_ret)
  | (with_reducible exact an_next)
  | (with_reducible exact okP)
  | (with_reducible exact okH)
  | ((with_reducible change callF _ _ _ _ _ = _); with_reducible assumption)
  | ((with_reducible change partO _ = _); rfl)
  | ((with_reducible change localIn _ _ = _); decide +kernel)
  | ((with_reducible change isListComp _ = _); rfl)
  | ((with_reducible change plainIter _ = _); rfl)
  | ((with_reducible change isCallE _ = _); rfl)
  | ((with_reducible change behindInMarks _ _ = _); rfl)
  | ((with_reducible change List.any _ isStarredE = _); rfl)
  | ((with_reducible change (isCallE _ || _ || _ || _) = _); rfl)
  | ((with_reducible change ∀ _ _ _ _, _); intros; intro hq; cases hq)
  | ((with_reducible change evO _ _ _ _ _ _ _ = _); with_reducible first | (exact r_evO_none) | (apply r_evO_some))
  | (with_reducible exact app1)
  | (with_reducible exact app0)
  | ((with_reducible change typeOfP _ _ = _); first | (with_reducible exact ty_int) | (with_reducible exact ty_bytes) | ((with_reducible apply ty_barr); walk_at "mini h"))
  | ((with_reducible change powOk _ _ = _); with_reducible assumption)
  | ((with_reducible change mulOk _ _ = _); first | (with_reducible assumption) | ((apply mul_ok); (first | decide | omega)) | ((apply mul_ok'); (first | decide | omega)))
  | ((with_reducible change shlOk _ _ = _); first | assumption | ((apply shl_one); omega))
  | ((with_reducible change (_ : Int) ≤ _); omega)
  | ((with_reducible change (_ : Int) < _); omega)
  | ((with_reducible change sizeOk _ = _); first | rfl | (apply sz_ok; first | omega | (simp; omega)))
  | ((with_reducible change subS _ _ _ _ _ _ = _); first
    | ((with_reducible apply s_barr_ex); (walk_at "mini h"); (omega); (omega))
    | ((with_reducible apply s_list_dt); (walk_at "mini h"); (omega); (omega))
    | ((with_reducible apply s_list_hi); (walk_at "mini h"); (omega))
    | ((with_reducible apply s_scr_hi); (omega))
    | ((with_reducible apply s_bytes_hi); (omega))
    | ((with_reducible apply s_bytes_lo); (omega)))
  | ((with_reducible change sameObj _ _ = _); first | rfl | (exact beq_eq_false_iff_ne.mpr (by walk_at "mini ne")))
  | ((with_reducible change setI _ _ _ _ = _); (with_reducible apply st_barr_i); (walk_at "mini h"); (with_reducible assumption))
  | ((with_reducible change setS _ _ _ _ _ = _); (with_reducible apply st_barr_s); (walk_at "mini h"))
  | ((with_reducible change octetsOf _ _ = _); first | (with_reducible exact oc_bytes) | ((with_reducible apply oc_barr); (walk_at "mini h"))))
local macro_rules | `(tactic| walk_at "mini s") => `(tactic| first
  | ((apply ok_step); (· ((repeat (walk_at "mini")); done)))
  | ((with_reducible apply ok_nilB))
  | ((with_reducible apply ok_beh))
  | ((with_reducible apply ok_nil)))
local macro_rules | `(tactic| walk_at "mini r") => `(tactic| first
  | ((apply ok_retB); (· ((repeat (walk_at "mini")); done)))
  | ((apply ok_ret); (· ((repeat (walk_at "mini")); done))))

local macro_rules | `(tactic| walk_at "mini g") => `(tactic| with_reducible first
  | (apply g_io; walk_at "mini h") | (apply g_bl; walk_at "mini h") | (apply g_bits; walk_at "mini h") | (apply g_le; walk_at "mini h") | (apply g_wm; walk_at "mini h") | (apply g_sz; walk_at "mini h")
  | (apply g_buf; walk_at "mini h") | (apply g_pos; walk_at "mini h")
  | (apply p_bl; walk_at "mini h") | (apply p_bits; walk_at "mini h") | (apply p_le; walk_at "mini h") | (apply p_wm; walk_at "mini h") | (apply p_sz; walk_at "mini h") | (apply p_pos; walk_at "mini h"))

local macro_rules | `(tactic| walk_at "mini fn") => `(tactic| with_reducible first
  | apply callV_fn fn__whence
  | apply callV_fn fn__index
  | apply callV_fn fn_IOBase___new__
  | apply callV_fn fn_BytesIO___init__
  | apply callV_fn fn_BytesIO___check
  | apply callV_fn fn_BytesIO_seekable
  | apply callV_fn fn_BytesIO_tell
  | apply callV_fn fn_BytesIO_seek
  | apply callV_fn fn_BytesIO_read
  | apply callV_fn fn_BytesIO_write
  | apply callV_fn fn_KaitaiStruct___init__
  | apply callV_fn fn_KaitaiStruct_from_bytes
  | apply callV_fn fn_KaitaiStream___init__
  | apply callV_fn fn_KaitaiStream_is_eof
  | apply callV_fn fn_KaitaiStream_seek
  | apply callV_fn fn_KaitaiStream_pos
  | apply callV_fn fn_KaitaiStream_size
  | apply callV_fn fn_KaitaiStream_align_to_byte
  | apply callV_fn fn_KaitaiStream_read_bits_int_be
  | apply callV_fn fn_KaitaiStream__read_bytes_not_aligned
  | apply callV_fn fn_KaitaiStream_read_bytes_full
  | apply callV_fn fn_KaitaiStream__ensure_bytes_left_to_write
  | apply callV_fn fn_KaitaiStream_write_align_to_byte
  | apply callV_fn fn_KaitaiStream_write_bits_int_be
  | apply callV_fn fn_KaitaiStream__write_bytes_not_aligned
  | apply callV_fn fn_KaitaiStream_byte_from_int
  | apply callV_fn fn_KaitaiStream_to_byte_array
  | apply callV_fn fn_KaitaiStructError___init__
  | apply callV_fn fn_InvalidArgumentError___init__
  | apply callV_fn fn_EndOfStreamError___init__
  | apply callV_fn fn__law_vectors
  | apply callV_fn fn__law_plain_groups
  | apply callV_fn fn__law_text
  | apply callV_fn fn__law_read
  | apply callV_fn fn__law_sextets
  | apply callV_fn fn__law_write
  | apply callV_fn fn__law_round
  | apply callV_fn fn_law)
local macro_rules | `(tactic| walk_at "mini m") => `(tactic| with_reducible first
  | exact gv_AttributeError
  | exact gv_BytesIO
  | exact gv_EndOfStreamError
  | exact gv_InvalidArgumentError
  | exact gv_KaitaiStream
  | exact gv_KaitaiStruct
  | exact gv_KaitaiStructError
  | exact gv_OSError
  | exact gv_PY2
  | exact gv_SEEK_END
  | exact gv_ValueError
  | exact gv__index
  | exact gv__law_plain_groups
  | exact gv__law_read
  | exact gv__law_round
  | exact gv__law_sextets
  | exact gv__law_text
  | exact gv__law_vectors
  | exact gv__law_write
  | exact gv__whence
  | exact gv_bool
  | exact gv_bytearray
  | exact gv_bytes
  | exact gv_callable
  | exact gv_chr
  | exact gv_getattr
  | exact gv_int
  | exact gv_len
  | exact gv_object
  | exact gv_ord
  | exact gv_range
  | exact gv_str
  | exact gv_super
  | exact gv_type
  | (apply mm_BytesIO__BytesIO__check; walk_at "mini h")
  | (apply mm_BytesIO___init__; walk_at "mini h")
  | (apply mm_BytesIO_read; walk_at "mini h")
  | (apply mm_BytesIO_seek; walk_at "mini h")
  | (apply mm_BytesIO_seekable; walk_at "mini h")
  | (apply mm_BytesIO_tell; walk_at "mini h")
  | (apply mm_BytesIO_write; walk_at "mini h")
  | (apply mm_KaitaiStruct___init__; walk_at "mini h")
  | exact getM_cls cm_KaitaiStruct_from_bytes
  | exact cm2_KaitaiStruct_from_bytes
  | (apply mm_KaitaiStream___init__; walk_at "mini h")
  | (apply mm_KaitaiStream__ensure_bytes_left_to_write; walk_at "mini h")
  | (apply mm_KaitaiStream__read_bytes_not_aligned; walk_at "mini h")
  | (apply mm_KaitaiStream__write_bytes_not_aligned; walk_at "mini h")
  | (apply mm_KaitaiStream_align_to_byte; walk_at "mini h")
  | exact getM_cls cm_KaitaiStream_byte_from_int
  | (apply mm_KaitaiStream_is_eof; walk_at "mini h")
  | (apply mm_KaitaiStream_pos; walk_at "mini h")
  | (apply mm_KaitaiStream_read_bits_int_be; walk_at "mini h")
  | (apply mm_KaitaiStream_read_bytes_full; walk_at "mini h")
  | (apply mm_KaitaiStream_seek; walk_at "mini h")
  | (apply mm_KaitaiStream_size; walk_at "mini h")
  | (apply mm_KaitaiStream_to_byte_array; walk_at "mini h")
  | (apply mm_KaitaiStream_write_align_to_byte; walk_at "mini h")
  | (apply mm_KaitaiStream_write_bits_int_be; walk_at "mini h"))

local macro_rules | `(tactic| walk_at "mini call") => `(tactic| ((with_reducible apply callV_fn fn__index); ((with_reducible apply L_index); (omega); (omega))))
local macro_rules | `(tactic| walk_at "mini call") => `(tactic| ((with_reducible apply callV_fn fn__whence); ((with_reducible apply L_whence); (omega); (omega))))
local macro_rules | `(tactic| walk_at "mini call") => `(tactic| ((with_reducible apply callV_fn fn_KaitaiStream_align_to_byte); ((with_reducible apply L_align); (walk_at "mini h"))))
local macro_rules | `(tactic| walk_at "mini call") => `(tactic| ((with_reducible apply callV_fn fn_BytesIO___check); ((with_reducible apply L_check); (walk_at "mini h"))))
local macro_rules | `(tactic| walk_at "mini call") => `(tactic| ((with_reducible apply callV_fn fn_BytesIO_tell); ((with_reducible apply L_tell); (walk_at "mini h"))))

local macro_rules | `(tactic| walk_at "mini call") => `(tactic| ((with_reducible apply callV_fn fn_BytesIO_seek); first | ((with_reducible apply L_seek2); (walk_at "mini h"); (walk_at "mini h"); (omega)) | ((with_reducible apply L_seek); (walk_at "mini h"); (omega); (omega))))
local macro_rules | `(tactic| walk_at "mini call") => `(tactic| ((with_reducible apply callV_fn fn_KaitaiStream_size); ((with_reducible apply L_size); (walk_at "mini h"); (walk_at "mini h"); (walk_at "mini h"); (walk_at "mini ne"); (omega); (omega); (omega))))
local macro_rules | `(tactic| walk_at "mini call") => `(tactic| ((with_reducible apply callV_fn fn_KaitaiStream_pos); first | ((with_reducible apply L_pos_r); (walk_at "mini h"); (walk_at "mini h")) | ((with_reducible apply L_pos_w0); (walk_at "mini h"); (walk_at "mini h"); (omega)) | ((with_reducible apply L_pos_w1); (walk_at "mini h"); (walk_at "mini h"); (omega))))
local macro_rules | `(tactic| walk_at "mini call") => `(tactic| ((with_reducible apply callV_fn fn_BytesIO_read); ((with_reducible apply L_read); (walk_at "mini h"); (walk_at "mini h"); (omega); (omega); (omega); (omega))))

local macro_rules | `(tactic| walk_at "mini call") => `(tactic| ((with_reducible apply callV_fn fn_KaitaiStream__read_bytes_not_aligned); ((with_reducible apply L_rbna); (walk_at "mini h"); (walk_at "mini h"); (walk_at "mini h"); (omega); (omega); (omega); (omega); (omega))))
local macro_rules | `(tactic| walk_at "mini call") => `(tactic| ((with_reducible apply callV_fn fn_KaitaiStream__ensure_bytes_left_to_write); ((with_reducible apply L_ebl); (walk_at "mini h"); (omega))))
local macro_rules | `(tactic| walk_at "mini call") => `(tactic| ((with_reducible apply callV_fn fn_KaitaiStream_byte_from_int); ((with_reducible apply L_bfi); (omega); (omega))))

local macro_rules | `(tactic| walk_at "mini g") => `(tactic| with_reducible first
  | (apply g_kio; walk_at "mini h"))
section
variable {P : Params} {ns : List Int} {σ : PH} {α β γ ch ρ τ : Nat} {io : Nat} {bl b sz v p : Int} {le wm lv : Bool} {buf : Array UInt8} {d : Nat}
set_option maxHeartbeats 8000000
abbrev gsO (R : List UInt8) (j : Nat) : PO := .list ((List.range j).map fun (j : Nat) => .int (gv R j : Nat))
theorem gs_succ (R : List UInt8) (j : Nat) : gsO R (j + 1) = .list ((List.range j).map (fun (j : Nat) => .int (gv R j : Nat)) ++ [.int (gv R j : Nat)]) := by
  unfold gsO; rw [List.range_succ, List.map_append]; rfl
theorem L_lread {R : List UInt8} (hR : R.length ≤ 1000) (hρ : σ[ρ]? = some (rowO R)) :
    Runs (W0 P ns) (d + 8) 1143 [.obj ρ] σ (fun v σ' => ∃ τ, v = .obj τ ∧ σ'[τ]? = some (gsO R (gm R)) ∧ σ.length ≤ τ ∧ Keep σ σ' []) := by
  obtain ⟨v, σ1, hc, κ, α, β, γ, ch, rfl, k1, k2, k3, k4, na, l1, l2, l3, kp⟩ := L_from (P := P) (ns := ns) (d := d + 1) (σ := σ) (b := R.toArray) (by simp; omega)
  have hoct := octets_row R
  have hρ1 : σ1[ρ]? = some (rowO R) := kp ρ _ (by simp) hρ
  apply does_def [("row", .obj ρ)] fn__law_read (by rfl) (by rfl)
  repeat (walk_at "mini s")
  generalize hM : Vars.set _ "left" _ = M
  generalize hS : ((_ : PH) ++ [PO.list []] : PH) = S
  generalize hτ : List.length σ1 = τ at hM
  have f1 : S[ρ]? = some (rowO R) := by rw [← hS]; exact h_app hρ1
  have f2 : S[τ]? = some (gsO R 0) := by rw [← hS, ← hτ]; exact h_new
  have f3 : S[α]? = some (strm β 0 0 false false ch R.toArray.size) := by rw [← hS]; exact h_app k2
  have f4 : S[β]? = some (bio γ 0) := by rw [← hS]; exact h_app k3
  have f5 : S[γ]? = some (.barr R.toArray) := by rw [← hS]; exact h_app k4
  have f6 : Keep σ S [] := by rw [← hS]; exact kp.app
  have t1 : τ ≠ α := by rw [← hτ]; exact h_fresh' k2
  have t2 : τ ≠ β := by rw [← hτ]; exact h_fresh' k3
  have t3 : τ ≠ γ := by rw [← hτ]; exact h_fresh' k4
  have t4 : τ ≠ ρ := by rw [← hτ]; exact h_fresh' hρ1
  have t5 : ρ ≠ α := by have := h_lt hρ; omega
  have t6 : ρ ≠ β := by have := h_lt hρ; omega
  have t7 : σ.length ≤ τ := by rw [← hτ]; have := h_lt k2; omega
  have v1 : M "row" = some (.obj ρ) := by rw [← hM]; walk_at "mini v"
  have v2 : M "stream" = some (.obj α) := by rw [← hM]; walk_at "mini v"
  have v3 : M "told" = some (.obj τ) := by rw [← hM]; walk_at "mini v"
  have v4 : M "left" = some (.int (8 * (R.map fun c => PV.int (c.toNat : Nat)).length)) := by rw [← hM]; walk_at "mini v"
  rw [List.length_map] at v4
  clear hM hS hc
  apply ok_st
  apply ok_while (k₀ := gm R) (I := fun k m s => k ≤ gm R ∧ m "row" = some (.obj ρ) ∧ m "stream" = some (.obj α) ∧ m "told" = some (.obj τ) ∧ m "left" = some (.int ((8 * R.length - 6 * (gm R - k) : Nat) : Int)) ∧
    s[ρ]? = some (rowO R) ∧ s[τ]? = some (gsO R (gm R - k)) ∧ s[α]? = some (strm β (rl R.length (gm R - k)) (rbits R (gm R - k)) false false ch R.toArray.size) ∧ s[β]? = some (bio γ (rp R.length (gm R - k))) ∧ s[γ]? = some (.barr R.toArray) ∧ Keep σ s [])
  · unfold gm; omega
  · rw [Nat.sub_self]
    refine ⟨Nat.le_refl _, v1, v2, v3, ?_, f1, f2, ?_, ?_, f5, f6⟩
    · rw [v4]; simp
    · rw [f3]; simp [rl, rbits, rp, Nat.mod_one]
    · rw [f4]; simp [rp]
  · intro k m s ⟨hk, w1, w2, w3, w4, e1, e2, e3, e4, e5, e6⟩
    generalize hj : gm R - k = j at *
    have hsz : R.toArray.size = R.length := by simp
    by_cases hk0 : k = 0
    · have hj2 : j = gm R := by omega
      have hrp : rp R.length j = R.length := by rw [hj2]; unfold rp gm; omega
      have hrl : rl R.length j = 0 := by unfold rl; rw [hrp, hj2]; unfold gm; omega
      rw [hrl] at e3
      rw [hrp] at e4
      have w4 : m "left" = some (.int 0) := by rw [w4, hj2, show 8 * R.length - 6 * gm R = 0 by unfold gm; omega]; rfl
      have he := L_eof (P := P) (ns := ns) (d := d + 2) e3 e4 e5 (ne_bb e4 e5) (by omega) (by omega) (by simp; omega) (by decide)
      rw [decide_eq_true (by simp)] at he
      apply ex_ts
      · repeat (walk_at "mini")
      show (if (!true) = true then _ else _)
      rw [if_neg (by decide)]
      walk_at "mini s"
      walk_at "mini r"
      exact ⟨τ, rfl, by rw [← hj2]; exact e2, t7, e6⟩
    · have hjm : j < gm R := by omega
      have hj3 : j ≤ 2000 := by unfold gm at hjm; omega
      have hj1 : gm R - (k - 1) = j + 1 := by omega
      have h6 : 6 * j < 8 * R.length := by unfold gm at hjm; omega
      have hev : callF (W0 P ns) (d + 7) 647 [.obj α] s = .ok (.bool false) s := by
        by_cases h0 : rl R.length j = 0
        · have hp : rp R.length j < R.length := by unfold rl at h0; unfold rp at h0 ⊢; omega
          have he := L_eof (P := P) (ns := ns) (d := d + 2) e3 e4 e5 (ne_bb e4 e5) (by omega) (by omega) (by simp; omega) (by omega)
          rw [decide_eq_false (by simp; omega)] at he
          exact he
        · exact L_eof_no (d := d + 2) e3 (by omega)
      apply ex_ts
      · repeat (walk_at "mini")
      show (if (!false) = true then _ else _)
      rw [if_pos (by decide)]
      refine ⟨by omega, ?_⟩
      by_cases hfull : 6 * (j + 1) ≤ 8 * R.length
      · obtain ⟨s1, hr, r1, r2, r3, r4⟩ := read_ok (P := P) (ns := ns) (d := d + 2) hR hfull e3 e4 e5 na
        have q1 : s1[ρ]? = some (rowO R) := r4 ρ _ (by simp [t5, t6]) e1
        have q2 : s1[τ]? = some (gsO R j) := r4 τ _ (by simp [t1, t2]) e2
        have q3 : Keep σ s1 [] := e6.low r4 (by simp [l1, l2])
        have hrp : rp R.length (j + 1) = (6 * (j + 1) + 7) / 8 := by unfold rp; omega
        have hlm : (R.map fun c => PV.int (c.toNat : Nat)).length = R.length := List.length_map ..
        repeat (walk_at "mini s")
        show _ ∧ _
        rw [hj1]
        refine ⟨by omega, by walk_at "mini v", by walk_at "mini v", by walk_at "mini v", ?_, by walk_at "mini h", ?_, by walk_at "mini h", by walk_at "mini h", by walk_at "mini h", ?_⟩
        · rw [vs_same]; congr 2; omega
        · rw [h_set q2, gs_succ]
        · exact q3.low (Keep.refl.set (A := [τ]) (by simp)) (by simpa using t7)
      · obtain ⟨s1, hr, r1, r2, r3, r4⟩ := read_tail (P := P) (ns := ns) (d := d + 2) h6 (by omega) e3 e4 e5 na
        obtain ⟨c1, c2, c3, c4, c5, c6⟩ := read_last h6 (by omega)
        have q1 : s1[ρ]? = some (rowO R) := r4 ρ _ (by simp [t5, t6]) e1
        have q2 : s1[τ]? = some (gsO R j) := r4 τ _ (by simp [t1, t2]) e2
        have q3 : Keep σ s1 [] := e6.low r4 (by simp [l1, l2])
        have hlm : (R.map fun c => PV.int (c.toNat : Nat)).length = R.length := List.length_map ..
        have hpw : ((rbits R j : Nat) : Int) * 2 ^ (6 - ((8 * R.length - 6 * j : Nat) : Int)).toNat = (gv R j : Nat) := by
          rw [← c3, show (6 - ((8 * R.length - 6 * j : Nat) : Int)).toNat = 6 - (8 * R.length - 6 * j) by omega]; simp
        have hpo : powOk 2 (6 - ((8 * R.length - 6 * j : Nat) : Int)) = true := pow_ok (by decide) (by omega) (by omega)
        have hmo : mulOk ((rbits R j : Nat) : Int) (2 ^ (6 - ((8 * R.length - 6 * j : Nat) : Int)).toNat) = true := by
          refine mul_ok ?_
          have h1 : rbits R j < 2 ^ rl R.length j := Nat.mod_lt _ (Nat.two_pow_pos _)
          have h2 : 2 ^ rl R.length j ≤ 2 ^ 6 := Nat.pow_le_pow_right (by decide) (by omega)
          simp; omega
        repeat (walk_at "mini s")
        show _ ∧ _
        rw [hj1, hpw]
        have hrp : rp R.length (j + 1) = R.length := c5
        refine ⟨by omega, by walk_at "mini v", by walk_at "mini v", by walk_at "mini v", ?_, by walk_at "mini h", ?_, by walk_at "mini h", by walk_at "mini h", by walk_at "mini h", ?_⟩
        · rw [vs_same]; congr 2; omega
        · rw [h_set q2, gs_succ]
        · exact q3.low (Keep.refl.set (A := [τ]) (by simp)) (by simpa using t7)
end

end Mine
end
/-! part L6_br5014_04 -/
section
open PySem PySem.W PySem.Calls PyProof.Rows
namespace Mine
local macro_rules | `(tactic| walk_at "mini ne") => `(tactic| first
  | assumption
  | exact Ne.symm (by assumption)
  | ((with_reducible apply h_fresh); walk_at "mini h")
  | ((with_reducible apply h_fresh'); walk_at "mini h")
  | omega)
local macro_rules | `(tactic| walk_at "mini h") => `(tactic| first
  | assumption
  | (with_reducible exact h_new)
  | ((with_reducible apply h_set); walk_at "mini h")
  | ((with_reducible apply h_app); walk_at "mini h")
  | ((with_reducible apply h_ne); (walk_at "mini ne"); walk_at "mini h"))
local macro_rules | `(tactic| walk_at "mini v") => `(tactic| first
  | (with_reducible exact vs_same)
  | (with_reducible assumption)
  | ((with_reducible apply vs_ne); (decide +kernel); walk_at "mini v")
  | rfl)
local macro_rules | `(tactic| walk_at "mini c") => `(tactic| first
  | rfl
  | assumption
  | (simp only [decide_eq_true_eq, decide_eq_false_iff_not, beq_iff_eq, bne_iff_ne, bne_eq_false_iff_eq, Bool.not_eq_true', Bool.not_eq_false', ne_eq, beq_eq_false_iff_ne, not_true_eq_false, not_false_eq_true] <;> first | omega | assumption)
  | (simp; done))
local macro_rules | `(tactic| walk_at "mini g") => `(tactic| fail "mini g")
local macro_rules | `(tactic| walk_at "mini m") => `(tactic| ((with_reducible apply getM_app); walk_at "mini h"))
local macro_rules | `(tactic| walk_at "mini call") => `(tactic| first | (with_reducible assumption) | ((walk_at "mini fn"); with_reducible assumption))
local macro_rules | `(tactic| walk_at "mini xs") => `(tactic| first
  | (with_reducible exact xs_nil)
  | (apply xs_step))
local macro_rules | `(tactic| walk_at "mini x") => `(tactic| with_reducible first
  | (apply x_asgN)
  | (apply x_if)
  | (apply x_ret)
  | (apply x_asgA)
  | (apply x_expr)
  | (apply x_augN)
  | (apply x_augA)
  | (apply x_for)
  | (apply x_while)
  | (apply x_asgS)
  | (apply x_asgI)
  | (apply x_try)
  | (exact x_ret0)
  | (exact x_pass))
local macro_rules | `(tactic| walk_at "mini e") => `(tactic| with_reducible first
  | (apply r_name)
  | (exact r_int)
  | (apply r_attr)
  | (apply r_bin)
  | (apply r_meth)
  | (apply r_call)
  | (exact r_none)
  | (exact r_bool)
  | (exact r_str)
  | (exact r_bytes)
  | (apply r_neg)
  | (apply r_not)
  | (apply r_ifx)
  | (apply r_and)
  | (apply r_or)
  | (apply r_cmp)
  | (apply r_list)
  | (apply r_tup)
  | (apply r_slice)
  | (apply r_sub)
  | (apply r_comp))
local macro_rules | `(tactic| walk_at "mini ts") => `(tactic| with_reducible first
  | (apply q_cmp)
  | (apply q_name)
  | (apply q_not)
  | (apply q_ops)
  | (apply q_attr)
  | (apply q_call)
  | (apply q_sub)
  | (apply q_bin))
local macro_rules | `(tactic| walk_at "mini i") => `(tactic| first
  | (with_reducible exact i_add)
  | (with_reducible exact i_sub)
  | ((with_reducible apply i_modp); first | omega | decide)
  | ((with_reducible apply i_shrp); first | omega | decide)
  | ((with_reducible apply i_divp); (first | omega | decide); (first | omega | decide))
  | ((with_reducible apply i_shl); first | omega | decide)
  | ((with_reducible apply i_mul))
  | ((with_reducible apply i_pow); first | omega | decide)
  | (with_reducible exact i_and)
  | (with_reducible exact i_or)
  | (with_reducible exact i_xor))
local macro_rules | `(tactic| walk_at "mini b") => `(tactic| first
  | (with_reducible exact b_int)
  | (with_reducible apply b_type)
  | ((with_reducible apply b_len_barr); (walk_at "mini h"))
  | ((with_reducible apply b_len_bytes))
  | ((with_reducible apply b_len_str))
  | ((with_reducible apply b_len_list); (walk_at "mini h"))
  | ((with_reducible apply b_bytes_b); (walk_at "mini h"))
  | ((with_reducible apply b_barr_b))
  | ((with_reducible apply b_bytes_1); (omega); (omega))
  | ((with_reducible apply b_barr_n); (omega))
  | ((with_reducible apply b_append); (walk_at "mini h"))
  | ((with_reducible apply b_bytes_l); (walk_at "mini h"); (with_reducible assumption))
  | ((with_reducible apply b_ord); (with_reducible assumption))
  | ((with_reducible apply range_up); (omega); (omega))
  | ((with_reducible apply range_ab); (omega); (omega); (omega); (omega))
  | ((with_reducible apply range_by); (first | omega | decide); (first | omega | decide); (omega); (omega))
  | ((with_reducible apply range_down); (omega); (omega); (omega); (omega)))
local macro_rules | `(tactic| walk_at "mini") => `(tactic| first
  | ((with_reducible change ev _ _ _ _ _ _ _ = _); walk_at "mini e")
  | ((with_reducible change nameV _ _ _ _ = _); first
    | ((with_reducible apply name_loc); (decide +kernel); (walk_at "mini v"); (decide +kernel))
    | ((with_reducible apply name_glob); (decide +kernel); (walk_at "mini m"); (decide +kernel))
    | ((with_reducible apply name_cell); (decide +kernel); (walk_at "mini v"); (decide +kernel)))
  | ((with_reducible change ex _ _ _ _ _ _ _ = _); walk_at "mini x")
  | ((with_reducible change exs _ _ _ _ _ _ _ = _); walk_at "mini xs")
  | ((with_reducible change SR.andThen _ _ = _); first | (with_reducible apply at_next) | (with_reducible exact at_ret))
  | ((with_reducible change ts _ _ _ _ _ _ _ = _); walk_at "mini ts")
  | ((with_reducible change tsL _ _ _ _ _ _ _ _ = _); with_reducible first | (apply q_and) | (apply q_or) | (exact q_nil))
  | ((with_reducible change evL _ _ _ = _); with_reducible first | (exact r_nil) | (apply r_cons))
  | ((with_reducible change getA _ _ _ _ = _); walk_at "mini g")
  | ((with_reducible change setA _ _ _ _ _ = _); walk_at "mini g")
  | ((with_reducible change getM _ _ _ _ = _); walk_at "mini m")
  | ((with_reducible change callable _ _ = _); first | (walk_at "mini m") | rfl)
  | ((with_reducible change binop _ _ _ _ = _); first
    | (with_reducible apply i_bin)
    | ((with_reducible apply b_cat); (walk_at "mini h"); (walk_at "mini h"))
    | ((with_reducible apply b_rep); (walk_at "mini h"); (with_reducible assumption))
    | (with_reducible apply b_cats)
    | (with_reducible apply b_smul))
  | ((with_reducible change intOp _ _ _ = _); walk_at "mini i")
  | ((with_reducible change cmpop _ _ _ _ = _); first | rfl | ((with_reducible apply c_eq_lists); (walk_at "mini h"); (walk_at "mini h")) | ((with_reducible apply c_ne_lists); (walk_at "mini h"); (walk_at "mini h")))
  | ((with_reducible change truthO _ _ _ = _); rfl)
  | ((with_reducible change callV _ _ _ _ _ = _); first | (with_reducible apply callV_type) | (with_reducible apply callV_blt) | (with_reducible apply callV_meth) | (walk_at "mini call"))
  | ((with_reducible change bcall _ _ _ _ = _); walk_at "mini b")
  | ((with_reducible change (ite _ _ _) = _); first
    | ((with_reducible apply ite_t); (walk_at "mini c"))
    | ((with_reducible apply ite_f); (walk_at "mini c")))
  | (with_reducible exact okR)
  | (with_reducible exact okS)
  | (with_reducible exact an_ret)
  | (with_reducible exact an_next)
  | (with_reducible exact okP)
  | (with_reducible exact okH)
  | ((with_reducible change callF _ _ _ _ _ = _); with_reducible assumption)
  | ((with_reducible change partO _ = _); rfl)
  | ((with_reducible change localIn _ _ = _); decide +kernel)
  | ((with_reducible change isListComp _ = _); rfl)
  | ((with_reducible change plainIter _ = _); rfl)
  | ((with_reducible change isCallE _ = _); rfl)
  | ((with_reducible change behindInMarks _ _ = _); rfl)
  | ((with_reducible change List.any _ isStarredE = _); rfl)
  | ((with_reducible change (isCallE _ || _ || _ || _) = _); rfl)
  | ((with_reducible change ∀ _ _ _ _, _); intros; intro hq; cases hq)
  | ((with_reducible change evO _ _ _ _ _ _ _ = _); with_reducible first | (exact r_evO_none) | (apply r_evO_some))
  | (with_reducible exact app1)
  | (with_reducible exact app0)
  | ((with_reducible change typeOfP _ _ = _); first | (with_reducible exact ty_int) | (with_reducible exact ty_bytes) | ((with_reducible apply ty_barr); walk_at "mini h"))
  | ((with_reducible change powOk _ _ = _); with_reducible assumption)
  | ((with_reducible change mulOk _ _ = _); first | (with_reducible assumption) | ((apply mul_ok); (first | decide | omega)) | ((apply mul_ok'); (first | decide | omega)))
  | ((with_reducible change shlOk _ _ = _); first | assumption | ((apply shl_one); omega))
  | ((with_reducible change (_ : Int) ≤ _); omega)
  | ((with_reducible change (_ : Int) < _); omega)
  | ((with_reducible change sizeOk _ = _); first | (with_reducible assumption) | rfl | (apply sz_ok; first | omega | (simp; omega)))
  | ((with_reducible change subS _ _ _ _ _ _ = _); first
    | ((with_reducible apply s_barr_ex); (walk_at "mini h"); (omega); (omega))
    | ((with_reducible apply s_list_dt); (walk_at "mini h"); (omega); (omega))
    | ((with_reducible apply s_list_hi); (walk_at "mini h"); (omega))
    | ((with_reducible apply s_scr_hi); (omega))
    | ((with_reducible apply s_bytes_hi); (omega))
    | ((with_reducible apply s_bytes_lo); (omega)))
  | ((with_reducible change sameObj _ _ = _); first | rfl | (exact beq_eq_false_iff_ne.mpr (by walk_at "mini ne")))
  | ((with_reducible change setI _ _ _ _ = _); (with_reducible apply st_barr_i); (walk_at "mini h"); (with_reducible assumption))
  | ((with_reducible change setS _ _ _ _ _ = _); (with_reducible apply st_barr_s); (walk_at "mini h"))
  | ((with_reducible change octetsOf _ _ = _); first | (with_reducible exact oc_bytes) | ((with_reducible apply oc_barr); (walk_at "mini h"))))
local macro_rules | `(tactic| walk_at "mini s") => `(tactic| first
  | ((apply ok_step); (· ((repeat (walk_at "mini")); done)))
  | ((with_reducible apply ok_nilB))
  | ((with_reducible apply ok_beh))
  | ((with_reducible apply ok_nil)))
local macro_rules | `(tactic| walk_at "mini r") => `(tactic| first
  | ((apply ok_retB); (· ((repeat (walk_at "mini")); done)))
  | ((apply ok_ret); (· ((repeat (walk_at "mini")); done))))

local macro_rules | `(tactic| walk_at "mini g") => `(tactic| with_reducible first
  | (apply g_io; walk_at "mini h") | (apply g_bl; walk_at "mini h") | (apply g_bits; walk_at "mini h") | (apply g_le; walk_at "mini h") | (apply g_wm; walk_at "mini h") | (apply g_sz; walk_at "mini h")
  | (apply g_buf; walk_at "mini h") | (apply g_pos; walk_at "mini h")
  | (apply p_bl; walk_at "mini h") | (apply p_bits; walk_at "mini h") | (apply p_le; walk_at "mini h") | (apply p_wm; walk_at "mini h") | (apply p_sz; walk_at "mini h") | (apply p_pos; walk_at "mini h"))

local macro_rules | `(tactic| walk_at "mini fn") => `(tactic| with_reducible first
  | apply callV_fn fn__whence
  | apply callV_fn fn__index
  | apply callV_fn fn_IOBase___new__
  | apply callV_fn fn_BytesIO___init__
  | apply callV_fn fn_BytesIO___check
  | apply callV_fn fn_BytesIO_seekable
  | apply callV_fn fn_BytesIO_tell
  | apply callV_fn fn_BytesIO_seek
  | apply callV_fn fn_BytesIO_read
  | apply callV_fn fn_BytesIO_write
  | apply callV_fn fn_KaitaiStruct___init__
  | apply callV_fn fn_KaitaiStruct_from_bytes
  | apply callV_fn fn_KaitaiStream___init__
  | apply callV_fn fn_KaitaiStream_is_eof
  | apply callV_fn fn_KaitaiStream_seek
  | apply callV_fn fn_KaitaiStream_pos
  | apply callV_fn fn_KaitaiStream_size
  | apply callV_fn fn_KaitaiStream_align_to_byte
  | apply callV_fn fn_KaitaiStream_read_bits_int_be
  | apply callV_fn fn_KaitaiStream__read_bytes_not_aligned
  | apply callV_fn fn_KaitaiStream_read_bytes_full
  | apply callV_fn fn_KaitaiStream__ensure_bytes_left_to_write
  | apply callV_fn fn_KaitaiStream_write_align_to_byte
  | apply callV_fn fn_KaitaiStream_write_bits_int_be
  | apply callV_fn fn_KaitaiStream__write_bytes_not_aligned
  | apply callV_fn fn_KaitaiStream_byte_from_int
  | apply callV_fn fn_KaitaiStream_to_byte_array
  | apply callV_fn fn_KaitaiStructError___init__
  | apply callV_fn fn_InvalidArgumentError___init__
  | apply callV_fn fn_EndOfStreamError___init__
  | apply callV_fn fn__law_vectors
  | apply callV_fn fn__law_plain_groups
  | apply callV_fn fn__law_text
  | apply callV_fn fn__law_read
  | apply callV_fn fn__law_sextets
  | apply callV_fn fn__law_write
  | apply callV_fn fn__law_round
  | apply callV_fn fn_law)
local macro_rules | `(tactic| walk_at "mini m") => `(tactic| with_reducible first
  | exact gv_AttributeError
  | exact gv_BytesIO
  | exact gv_EndOfStreamError
  | exact gv_InvalidArgumentError
  | exact gv_KaitaiStream
  | exact gv_KaitaiStruct
  | exact gv_KaitaiStructError
  | exact gv_OSError
  | exact gv_PY2
  | exact gv_SEEK_END
  | exact gv_ValueError
  | exact gv__index
  | exact gv__law_plain_groups
  | exact gv__law_read
  | exact gv__law_round
  | exact gv__law_sextets
  | exact gv__law_text
  | exact gv__law_vectors
  | exact gv__law_write
  | exact gv__whence
  | exact gv_bool
  | exact gv_bytearray
  | exact gv_bytes
  | exact gv_callable
  | exact gv_chr
  | exact gv_getattr
  | exact gv_int
  | exact gv_len
  | exact gv_object
  | exact gv_ord
  | exact gv_range
  | exact gv_str
  | exact gv_super
  | exact gv_type
  | (apply mm_BytesIO__BytesIO__check; walk_at "mini h")
  | (apply mm_BytesIO___init__; walk_at "mini h")
  | (apply mm_BytesIO_read; walk_at "mini h")
  | (apply mm_BytesIO_seek; walk_at "mini h")
  | (apply mm_BytesIO_seekable; walk_at "mini h")
  | (apply mm_BytesIO_tell; walk_at "mini h")
  | (apply mm_BytesIO_write; walk_at "mini h")
  | (apply mm_KaitaiStruct___init__; walk_at "mini h")
  | exact getM_cls cm_KaitaiStruct_from_bytes
  | exact cm2_KaitaiStruct_from_bytes
  | (apply mm_KaitaiStream___init__; walk_at "mini h")
  | (apply mm_KaitaiStream__ensure_bytes_left_to_write; walk_at "mini h")
  | (apply mm_KaitaiStream__read_bytes_not_aligned; walk_at "mini h")
  | (apply mm_KaitaiStream__write_bytes_not_aligned; walk_at "mini h")
  | (apply mm_KaitaiStream_align_to_byte; walk_at "mini h")
  | exact getM_cls cm_KaitaiStream_byte_from_int
  | (apply mm_KaitaiStream_is_eof; walk_at "mini h")
  | (apply mm_KaitaiStream_pos; walk_at "mini h")
  | (apply mm_KaitaiStream_read_bits_int_be; walk_at "mini h")
  | (apply mm_KaitaiStream_read_bytes_full; walk_at "mini h")
  | (apply mm_KaitaiStream_seek; walk_at "mini h")
  | (apply mm_KaitaiStream_size; walk_at "mini h")
  | (apply mm_KaitaiStream_to_byte_array; walk_at "mini h")
  | (apply mm_KaitaiStream_write_align_to_byte; walk_at "mini h")
  | (apply mm_KaitaiStream_write_bits_int_be; walk_at "mini h"))

local macro_rules | `(tactic| walk_at "mini call") => `(tactic| ((with_reducible apply callV_fn fn__index); ((with_reducible apply L_index); (omega); (omega))))
local macro_rules | `(tactic| walk_at "mini call") => `(tactic| ((with_reducible apply callV_fn fn__whence); ((with_reducible apply L_whence); (omega); (omega))))
local macro_rules | `(tactic| walk_at "mini call") => `(tactic| ((with_reducible apply callV_fn fn_KaitaiStream_align_to_byte); ((with_reducible apply L_align); (walk_at "mini h"))))
local macro_rules | `(tactic| walk_at "mini call") => `(tactic| ((with_reducible apply callV_fn fn_BytesIO___check); ((with_reducible apply L_check); (walk_at "mini h"))))
local macro_rules | `(tactic| walk_at "mini call") => `(tactic| ((with_reducible apply callV_fn fn_BytesIO_tell); ((with_reducible apply L_tell); (walk_at "mini h"))))

local macro_rules | `(tactic| walk_at "mini call") => `(tactic| ((with_reducible apply callV_fn fn_BytesIO_seek); first | ((with_reducible apply L_seek2); (walk_at "mini h"); (walk_at "mini h"); (omega)) | ((with_reducible apply L_seek); (walk_at "mini h"); (omega); (omega))))
local macro_rules | `(tactic| walk_at "mini call") => `(tactic| ((with_reducible apply callV_fn fn_KaitaiStream_size); ((with_reducible apply L_size); (walk_at "mini h"); (walk_at "mini h"); (walk_at "mini h"); (walk_at "mini ne"); (omega); (omega); (omega))))
local macro_rules | `(tactic| walk_at "mini call") => `(tactic| ((with_reducible apply callV_fn fn_KaitaiStream_pos); first | ((with_reducible apply L_pos_r); (walk_at "mini h"); (walk_at "mini h")) | ((with_reducible apply L_pos_w0); (walk_at "mini h"); (walk_at "mini h"); (omega)) | ((with_reducible apply L_pos_w1); (walk_at "mini h"); (walk_at "mini h"); (omega))))
local macro_rules | `(tactic| walk_at "mini call") => `(tactic| ((with_reducible apply callV_fn fn_BytesIO_read); ((with_reducible apply L_read); (walk_at "mini h"); (walk_at "mini h"); (omega); (omega); (omega); (omega))))

local macro_rules | `(tactic| walk_at "mini call") => `(tactic| ((with_reducible apply callV_fn fn_KaitaiStream__read_bytes_not_aligned); ((with_reducible apply L_rbna); (walk_at "mini h"); (walk_at "mini h"); (walk_at "mini h"); (omega); (omega); (omega); (omega); (omega))))
local macro_rules | `(tactic| walk_at "mini call") => `(tactic| ((with_reducible apply callV_fn fn_KaitaiStream__ensure_bytes_left_to_write); ((with_reducible apply L_ebl); (walk_at "mini h"); (omega))))
local macro_rules | `(tactic| walk_at "mini call") => `(tactic| ((with_reducible apply callV_fn fn_KaitaiStream_byte_from_int); ((with_reducible apply L_bfi); (omega); (omega))))

section
variable {P : Params} {ns : List Int} {σ : PH} {α β γ ch ρ τ : Nat} {io : Nat} {bl b sz v p : Int} {le wm lv : Bool} {buf : Array UInt8} {d : Nat}
set_option maxHeartbeats 8000000
local macro_rules | `(tactic| walk_at "mini x") => `(tactic| with_reducible apply x_for3)
/-- a piece of three octets, filled with noughts -/
theorem pad3 (R : List UInt8) (i : Nat) (h : 3 * i < R.length) : ∃ l, 1 ≤ l ∧ l ≤ 3 ∧ (((R.map fun c => PV.int (c.toNat : Nat)).drop (3 * i)).take 3).length = l ∧ min (4 * i + (l + 1)) (gm R) = min (4 * (i + 1)) (gm R) ∧ 4 * i + (l + 1) ≤ gm R ∧
    ((R.map fun c => PV.int (c.toNat : Nat)).drop (3 * i)).take 3 ++ rep [PV.int 0] (3 - (l : Int)) = [.int (rb R (3 * i) : Nat), .int (rb R (3 * i + 1) : Nat), .int (rb R (3 * i + 2) : Nat)] := by
  have hg : ∀ k, rb R (3 * i + k) = (((R.drop (3 * i))[k]?).getD 0).toNat := fun k => by unfold rb; rw [List.getElem?_drop]
  have hl : (R.drop (3 * i)).length = R.length - 3 * i := by simp
  rw [show rb R (3 * i) = rb R (3 * i + 0) from rfl, hg 0, hg 1, hg 2, ← List.map_drop]
  generalize R.drop (3 * i) = D at *
  match D with
  | [] => simp at hl; omega
  | [a] => simp at hl; exact ⟨1, by omega, by omega, rfl, by unfold gm; omega, by unfold gm; omega, rfl⟩
  | [a, b] => simp at hl; exact ⟨2, by omega, by omega, rfl, by unfold gm; omega, by unfold gm; omega, rfl⟩
  | a :: b :: c :: r => simp at hl; exact ⟨3, by omega, by omega, by simp, by unfold gm; omega, by unfold gm; omega, rfl⟩
/-- the groups of a piece -/
theorem grp (R : List UInt8) (i : Nat) : ((rb R (3 * i) * 256 + rb R (3 * i + 1)) * 256 + rb R (3 * i + 2)) / 262144 = gv R (4 * i) ∧
    ((rb R (3 * i) * 256 + rb R (3 * i + 1)) * 256 + rb R (3 * i + 2)) / 4096 % 64 = gv R (4 * i + 1) ∧
    ((rb R (3 * i) * 256 + rb R (3 * i + 1)) * 256 + rb R (3 * i + 2)) / 64 % 64 = gv R (4 * i + 2) ∧
    ((rb R (3 * i) * 256 + rb R (3 * i + 1)) * 256 + rb R (3 * i + 2)) % 64 = gv R (4 * i + 3) := by
  have h1 := rb_lt R (3 * i)
  have h2 := rb_lt R (3 * i + 1)
  have h3 := rb_lt R (3 * i + 2)
  rw [gv0, gv1, gv2, gv3]
  refine ⟨?_, ?_, ?_, ?_⟩ <;> omega
theorem gs_add (R : List UInt8) (i l : Nat) (hl : l ≤ 3) : ((List.range (4 * i)).map fun (j : Nat) => PV.int (gv R j : Nat)) ++ ([PV.int (gv R (4 * i) : Nat), .int (gv R (4 * i + 1) : Nat), .int (gv R (4 * i + 2) : Nat), .int (gv R (4 * i + 3) : Nat)].take (l + 1)) =
    (List.range (4 * i + (l + 1))).map fun (j : Nat) => PV.int (gv R j : Nat) := by
  have : l = 0 ∨ l = 1 ∨ l = 2 ∨ l = 3 := by omega
  rcases this with rfl | rfl | rfl | rfl <;> simp [List.range_succ, ← Nat.add_assoc]
theorem L_plain {R : List UInt8} (hR : R.length ≤ 1000) (hρ : σ[ρ]? = some (rowO R)) :
    Runs (W0 P ns) (d + 8) 1129 [.obj ρ] σ (fun v σ' => ∃ τ, v = .obj τ ∧ σ'[τ]? = some (gsO R (gm R)) ∧ Keep σ σ' []) := by
  have hlm : (R.map fun c => PV.int (c.toNat : Nat)).length = R.length := List.length_map ..
  apply does_def [("row", .obj ρ)] fn__law_plain_groups (by rfl) (by rfl)
  repeat (walk_at "mini s")
  generalize hM : Vars.set _ "told" _ = M
  generalize hS : ((_ : PH) ++ [PO.list []] : PH) = S
  have f1 : S[ρ]? = some (rowO R) := by rw [← hS]; exact h_app hρ
  have f2 : S[σ.length]? = some (gsO R 0) := by rw [← hS]; exact h_new
  have f6 : Keep σ S [] := by rw [← hS]; exact Keep.refl.app
  have v1 : M "row" = some (.obj ρ) := by rw [← hM]; walk_at "mini v"
  have v3 : M "told" = some (.obj σ.length) := by rw [← hM]; walk_at "mini v"
  clear hM hS
  apply ok_st
  apply ok_for (I := fun i m s => m "row" = some (.obj ρ) ∧ s[ρ]? = some (rowO R) ∧ Keep σ s [] ∧ ∃ τ, m "told" = some (.obj τ) ∧ s[τ]? = some (gsO R (min (4 * i) (gm R))))
  · rfl
  · repeat (walk_at "mini")
  · rw [hlm]; exact src_by (by decide) (by decide) (by omega) (by omega)
  · exact ⟨v1, f1, f6, _, v3, by simpa using f2⟩
  · intro m s _
    show some ((List.map _ _)[(List.map _ _).length]?) = some none
    rw [List.getElem?_eq_none (Nat.le_refl _)]
  · intro i m s hi ⟨w1, e1, e6, τ, w3, e2⟩
    have hi : 3 * i < R.length := by simp [Src.len] at hi; omega
    obtain ⟨l, l1, l3, hpl, hmin, hle, hpad⟩ := pad3 R i hi
    obtain ⟨g0, g1, g2, g3⟩ := grp R i
    rw [show min (4 * i) (gm R) = 4 * i by omega] at e2
    refine ⟨.int (3 * (i : Int)), _, ?_, tgt_name (by decide +kernel), ?_⟩
    · show some ((List.map _ _)[i]?) = _
      rw [List.getElem?_map, List.getElem?_range (by omega)]; rfl
    · walk_at "mini s"
      have ht : (3 * (i : Int) + 3).toNat - (3 * (i : Int)).toNat = 3 := by omega
      have ht2 : (3 * (i : Int)).toNat = 3 * i := by omega
      rw [ht, ht2]
      generalize hpc : List.take 3 (List.drop (3 * i) (R.map fun c => PV.int (c.toNat : Nat))) = pc at hpl hpad ⊢
      subst hpl
      have hrep : [PV.int 0].length * (3 - (pc.length : Int)).toNat ≤ 2 ^ 24 ∧ (3 - (pc.length : Int)) < 2 ^ 63 ∧ -(2 ^ 63) ≤ (3 - (pc.length : Int)) := by
        refine ⟨?_, by omega, by omega⟩
        show 1 * _ ≤ 2 ^ 24
        omega
      have hcat : sizeOk (pc.length + (rep [PV.int 0] (3 - (pc.length : Int))).length) = true := by
        rw [← List.length_append, hpad]; rfl
      repeat (walk_at "mini s")
      apply ok_step
      · apply x_for3 (hL := hpad)
        · rfl
        · repeat (walk_at "mini")
        · walk_at "mini h"
        · decide +kernel
        · repeat (walk_at "mini")
        · repeat (walk_at "mini")
        · repeat (walk_at "mini")
      repeat (walk_at "mini s")
      have q0 : (((0 * 256 + ((rb R (3 * i) : Nat) : Int)) * 256 + ((rb R (3 * i + 1) : Nat) : Int)) * 256 + ((rb R (3 * i + 2) : Nat) : Int)) / 262144 = ((gv R (4 * i) : Nat) : Int) := by rw [← g0]; omega
      have q1 : (((0 * 256 + ((rb R (3 * i) : Nat) : Int)) * 256 + ((rb R (3 * i + 1) : Nat) : Int)) * 256 + ((rb R (3 * i + 2) : Nat) : Int)) / 4096 % 64 = ((gv R (4 * i + 1) : Nat) : Int) := by rw [← g1]; omega
      have q2 : (((0 * 256 + ((rb R (3 * i) : Nat) : Int)) * 256 + ((rb R (3 * i + 1) : Nat) : Int)) * 256 + ((rb R (3 * i + 2) : Nat) : Int)) / 64 % 64 = ((gv R (4 * i + 2) : Nat) : Int) := by rw [← g2]; omega
      have q3 : (((0 * 256 + ((rb R (3 * i) : Nat) : Int)) * 256 + ((rb R (3 * i + 1) : Nat) : Int)) * 256 + ((rb R (3 * i + 2) : Nat) : Int)) % 64 = ((gv R (4 * i + 3) : Nat) : Int) := by rw [← g3]; omega
      refine ⟨rfl, by walk_at "mini v", by walk_at "mini h", ?_, _, by walk_at "mini v", ?_⟩
      · exact e6.app.app.app.app.app.app.app
      · rw [h_new, q0, q1, q2, q3, show ((pc.length : Int) + 1).toNat = pc.length + 1 by omega, gs_add R i pc.length l3, ← hmin, Nat.min_eq_left hle]
  · intro m s ⟨w1, e1, e6, τ, w3, e2⟩
    walk_at "mini s"
    walk_at "mini r"
    refine ⟨τ, rfl, ?_, e6⟩
    rw [e2]
    congr 2
    simp [Src.len, gm]
    omega
end

end Mine
end
/-! part L7_br5014_04 -/
section
open PySem PySem.W PySem.Calls PyProof.Rows
namespace Mine
local macro_rules | `(tactic| walk_at "mini ne") => `(tactic| first
  | assumption
  | exact Ne.symm (by assumption)
  | ((with_reducible apply h_fresh); walk_at "mini h")
  | ((with_reducible apply h_fresh'); walk_at "mini h")
  | omega)
local macro_rules | `(tactic| walk_at "mini h") => `(tactic| first
  | assumption
  | (with_reducible exact h_new)
  | ((with_reducible apply h_set); walk_at "mini h")
  | ((with_reducible apply h_app); walk_at "mini h")
  | ((with_reducible apply h_ne); (walk_at "mini ne"); walk_at "mini h"))
local macro_rules | `(tactic| walk_at "mini v") => `(tactic| first
  | (with_reducible exact vs_same)
  | (with_reducible assumption)
  | ((with_reducible apply vs_ne); (decide +kernel); walk_at "mini v")
  | rfl)
local macro_rules | `(tactic| walk_at "mini c") => `(tactic| first
  | rfl
  | assumption
  | (simp only [decide_eq_true_eq, decide_eq_false_iff_not, beq_iff_eq, bne_iff_ne, bne_eq_false_iff_eq, Bool.not_eq_true', Bool.not_eq_false', ne_eq, beq_eq_false_iff_ne, not_true_eq_false, not_false_eq_true] <;> first | omega | assumption)
  | (simp; done))
local macro_rules | `(tactic| walk_at "mini g") => `(tactic| fail "mini g")
local macro_rules | `(tactic| walk_at "mini m") => `(tactic| ((with_reducible apply getM_app); walk_at "mini h"))
local macro_rules | `(tactic| walk_at "mini call") => `(tactic| first | (with_reducible assumption) | ((walk_at "mini fn"); with_reducible assumption))
local macro_rules | `(tactic| walk_at "mini xs") => `(tactic| first
  | (with_reducible exact xs_nil)
  | (apply xs_step))
local macro_rules | `(tactic| walk_at "mini x") => `(tactic| with_reducible first
  | (apply x_asgN)
  | (apply x_if)
  | (apply x_ret)
  | (apply x_asgA)
  | (apply x_expr)
  | (apply x_augN)
  | (apply x_augA)
  | (apply x_for)
  | (apply x_while)
  | (apply x_asgS)
  | (apply x_asgI)
  | (apply x_try)
  | (exact x_ret0)
  | (exact x_pass))
local macro_rules | `(tactic| walk_at "mini e") => `(tactic| with_reducible first
  | (apply r_name)
  | (exact r_int)
  | (apply r_attr)
  | (apply r_bin)
  | (apply r_meth)
  | (apply r_call)
  | (exact r_none)
  | (exact r_bool)
  | (exact r_str)
  | (exact r_bytes)
  | (apply r_neg)
  | (apply r_not)
  | (apply r_ifx)
  | (apply r_and)
  | (apply r_or)
  | (apply r_cmp)
  | (apply r_list)
  | (apply r_tup)
  | (apply r_slice)
  | (apply r_sub)
  | (apply r_comp))
local macro_rules | `(tactic| walk_at "mini ts") => `(tactic| with_reducible first
  | (apply q_cmp)
  | (apply q_name)
  | (apply q_not)
  | (apply q_ops)
  | (apply q_attr)
  | (apply q_call)
  | (apply q_sub)
  | (apply q_bin))
local macro_rules | `(tactic| walk_at "mini i") => `(tactic| first
  | (with_reducible exact i_add)
  | (with_reducible exact i_sub)
  | ((with_reducible apply i_modp); first | omega | decide)
  | ((with_reducible apply i_shrp); first | omega | decide)
  | ((with_reducible apply i_divp); (first | omega | decide); (first | omega | decide))
  | ((with_reducible apply i_shl); first | omega | decide)
  | ((with_reducible apply i_mul))
  | ((with_reducible apply i_pow); first | omega | decide)
  | (with_reducible exact i_and)
  | (with_reducible exact i_or)
  | (with_reducible exact i_xor))
local macro_rules | `(tactic| walk_at "mini b") => `(tactic| first
  | (with_reducible exact b_int)
  | (with_reducible apply b_type)
  | ((with_reducible apply b_len_barr); (walk_at "mini h"))
  | ((with_reducible apply b_len_bytes))
  | ((with_reducible apply b_len_str))
  | ((with_reducible apply b_len_list); (walk_at "mini h"))
  | ((with_reducible apply b_bytes_b); (walk_at "mini h"))
  | ((with_reducible apply b_barr_b))
  | ((with_reducible apply b_bytes_1); (omega); (omega))
  | ((with_reducible apply b_barr_n); (omega))
  | ((with_reducible apply b_append); (walk_at "mini h"))
  | ((with_reducible apply b_index); (with_reducible assumption))
  | ((with_reducible apply b_bytes_l); (walk_at "mini h"); (with_reducible assumption))
  | ((with_reducible apply b_ord); (with_reducible assumption))
  | ((with_reducible apply range_up); (omega); (omega))
  | ((with_reducible apply range_ab); (omega); (omega); (omega); (omega))
  | ((with_reducible apply range_by); (first | omega | decide); (first | omega | decide); (omega); (omega))
  | ((with_reducible apply range_down); (omega); (omega); (omega); (omega)))
local macro_rules | `(tactic| walk_at "mini") => `(tactic| first
  | ((with_reducible change ev _ _ _ _ _ _ _ = _); walk_at "mini e")
  | ((with_reducible change nameV _ _ _ _ = _); first
    | ((with_reducible apply name_loc); (decide +kernel); (walk_at "mini v"); (decide +kernel))
    | ((with_reducible apply name_glob); (decide +kernel); (walk_at "mini m"); (decide +kernel))
    | ((with_reducible apply name_cell); (decide +kernel); (walk_at "mini v"); (decide +kernel)))
  | ((with_reducible change ex _ _ _ _ _ _ _ = _); walk_at "mini x")
  | ((with_reducible change exs _ _ _ _ _ _ _ = _); walk_at "mini xs")
  | ((with_reducible change SR.andThen _ _ = _); first | (with_reducible apply at_next) | (with_reducible exact at_ret))
  | ((with_reducible change ts _ _ _ _ _ _ _ = _); walk_at "mini ts")
  | ((with_reducible change tsL _ _ _ _ _ _ _ _ = _); with_reducible first | (apply q_and) | (apply q_or) | (exact q_nil))
  | ((with_reducible change evL _ _ _ = _); with_reducible first | (exact r_nil) | (apply r_cons))
  | ((with_reducible change getA _ _ _ _ = _); walk_at "mini g")
  | ((with_reducible change setA _ _ _ _ _ = _); walk_at "mini g")
  | ((with_reducible change getM _ _ _ _ = _); walk_at "mini m")
  | ((with_reducible change callable _ _ = _); first | (walk_at "mini m") | rfl)
  | ((with_reducible change binop _ _ _ _ = _); first
    | (with_reducible apply i_bin)
    | ((with_reducible apply b_cat); (walk_at "mini h"); (walk_at "mini h"))
    | ((with_reducible apply b_rep); (walk_at "mini h"); (with_reducible assumption))
    | (with_reducible apply b_cats)
    | ((with_reducible apply b_smul); with_reducible assumption))
  | ((with_reducible change intOp _ _ _ = _); walk_at "mini i")
  | ((with_reducible change cmpop _ _ _ _ = _); first | rfl | ((with_reducible apply c_eq_lists); (walk_at "mini h"); (walk_at "mini h")) | ((with_reducible apply c_ne_lists); (walk_at "mini h"); (walk_at "mini h")))
  | ((with_reducible change truthO _ _ _ = _); rfl)
  | ((with_reducible change callV _ _ _ _ _ = _); first | (with_reducible apply callV_type) | (with_reducible apply callV_blt) | (with_reducible apply callV_meth) | (walk_at "mini call"))
  | ((with_reducible change bcall _ _ _ _ = _); walk_at "mini b")
  | ((with_reducible change (ite _ _ _) = _); first
    | ((with_reducible apply ite_t); (walk_at "mini c"))
    | ((with_reducible apply ite_f); (walk_at "mini c")))
  | (with_reducible exact okR)
  | (with_reducible exact okS)
  | (with_reducible exact an_ret)
  | (with_reducible exact an_next)
  | (with_reducible exact okP)
  | (with_reducible exact okH)
  | ((with_reducible change callF _ _ _ _ _ = _); with_reducible assumption)
  | ((with_reducible change partO _ = _); rfl)
  | ((with_reducible change localIn _ _ = _); decide +kernel)
  | ((with_reducible change isListComp _ = _); rfl)
  | ((with_reducible change plainIter _ = _); rfl)
  | ((with_reducible change isCallE _ = _); rfl)
  | ((with_reducible change behindInMarks _ _ = _); rfl)
  | ((with_reducible change List.any _ isStarredE = _); rfl)
  | ((with_reducible change (isCallE _ || _ || _ || _) = _); rfl)
  | ((with_reducible change ∀ _ _ _ _, _); intros; intro hq; cases hq)
  | ((with_reducible change evO _ _ _ _ _ _ _ = _); with_reducible first | (exact r_evO_none) | (apply r_evO_some))
  | (with_reducible exact app1)
  | (with_reducible exact app0)
  | ((with_reducible change typeOfP _ _ = _); first | (with_reducible exact ty_int) | (with_reducible exact ty_bytes) | ((with_reducible apply ty_barr); walk_at "mini h"))
  | ((with_reducible change powOk _ _ = _); with_reducible assumption)
  | ((with_reducible change mulOk _ _ = _); first | (with_reducible assumption) | ((apply mul_ok); (first | decide | omega)) | ((apply mul_ok'); (first | decide | omega)))
  | ((with_reducible change shlOk _ _ = _); first | assumption | ((apply shl_one); omega))
  | ((with_reducible change (_ : Int) ≤ _); omega)
  | ((with_reducible change (_ : Int) < _); omega)
  | ((with_reducible change sizeOk _ = _); first | (with_reducible assumption) | rfl | (apply sz_ok; first | omega | (simp; omega)))
  | ((with_reducible change subI _ _ _ _ = _); with_reducible assumption)
  | ((with_reducible change subS _ _ _ _ _ _ = _); first
    | ((with_reducible apply s_barr_ex); (walk_at "mini h"); (omega); (omega))
    | ((with_reducible apply s_list_dt); (walk_at "mini h"); (omega); (omega))
    | ((with_reducible apply s_list_hi); (walk_at "mini h"); (omega))
    | ((with_reducible apply s_scr_hi); (omega))
    | ((with_reducible apply s_bytes_hi); (omega))
    | ((with_reducible apply s_bytes_lo); (omega)))
  | ((with_reducible change sameObj _ _ = _); first | rfl | (exact beq_eq_false_iff_ne.mpr (by walk_at "mini ne")))
  | ((with_reducible change setI _ _ _ _ = _); (with_reducible apply st_barr_i); (walk_at "mini h"); (with_reducible assumption))
  | ((with_reducible change setS _ _ _ _ _ = _); (with_reducible apply st_barr_s); (walk_at "mini h"))
  | ((with_reducible change octetsOf _ _ = _); first | (with_reducible exact oc_bytes) | ((with_reducible apply oc_barr); (walk_at "mini h"))))
local macro_rules | `(tactic| walk_at "mini s") => `(tactic| first
  | ((apply ok_step); (· ((repeat (walk_at "mini")); done)))
  | ((with_reducible apply ok_nilB))
  | ((with_reducible apply ok_beh))
  | ((with_reducible apply ok_nil)))
local macro_rules | `(tactic| walk_at "mini r") => `(tactic| first
  | ((apply ok_retB); (· ((repeat (walk_at "mini")); done)))
  | ((apply ok_ret); (· ((repeat (walk_at "mini")); done))))

local macro_rules | `(tactic| walk_at "mini g") => `(tactic| with_reducible first
  | (apply g_io; walk_at "mini h") | (apply g_bl; walk_at "mini h") | (apply g_bits; walk_at "mini h") | (apply g_le; walk_at "mini h") | (apply g_wm; walk_at "mini h") | (apply g_sz; walk_at "mini h")
  | (apply g_buf; walk_at "mini h") | (apply g_pos; walk_at "mini h")
  | (apply p_bl; walk_at "mini h") | (apply p_bits; walk_at "mini h") | (apply p_le; walk_at "mini h") | (apply p_wm; walk_at "mini h") | (apply p_sz; walk_at "mini h") | (apply p_pos; walk_at "mini h"))

local macro_rules | `(tactic| walk_at "mini fn") => `(tactic| with_reducible first
  | apply callV_fn fn__whence
  | apply callV_fn fn__index
  | apply callV_fn fn_IOBase___new__
  | apply callV_fn fn_BytesIO___init__
  | apply callV_fn fn_BytesIO___check
  | apply callV_fn fn_BytesIO_seekable
  | apply callV_fn fn_BytesIO_tell
  | apply callV_fn fn_BytesIO_seek
  | apply callV_fn fn_BytesIO_read
  | apply callV_fn fn_BytesIO_write
  | apply callV_fn fn_KaitaiStruct___init__
  | apply callV_fn fn_KaitaiStruct_from_bytes
  | apply callV_fn fn_KaitaiStream___init__
  | apply callV_fn fn_KaitaiStream_is_eof
  | apply callV_fn fn_KaitaiStream_seek
  | apply callV_fn fn_KaitaiStream_pos
  | apply callV_fn fn_KaitaiStream_size
  | apply callV_fn fn_KaitaiStream_align_to_byte
  | apply callV_fn fn_KaitaiStream_read_bits_int_be
  | apply callV_fn fn_KaitaiStream__read_bytes_not_aligned
  | apply callV_fn fn_KaitaiStream_read_bytes_full
  | apply callV_fn fn_KaitaiStream__ensure_bytes_left_to_write
  | apply callV_fn fn_KaitaiStream_write_align_to_byte
  | apply callV_fn fn_KaitaiStream_write_bits_int_be
  | apply callV_fn fn_KaitaiStream__write_bytes_not_aligned
  | apply callV_fn fn_KaitaiStream_byte_from_int
  | apply callV_fn fn_KaitaiStream_to_byte_array
  | apply callV_fn fn_KaitaiStructError___init__
  | apply callV_fn fn_InvalidArgumentError___init__
  | apply callV_fn fn_EndOfStreamError___init__
  | apply callV_fn fn__law_vectors
  | apply callV_fn fn__law_plain_groups
  | apply callV_fn fn__law_text
  | apply callV_fn fn__law_read
  | apply callV_fn fn__law_sextets
  | apply callV_fn fn__law_write
  | apply callV_fn fn__law_round
  | apply callV_fn fn_law)
local macro_rules | `(tactic| walk_at "mini m") => `(tactic| with_reducible first
  | exact gv_AttributeError
  | exact gv_BytesIO
  | exact gv_EndOfStreamError
  | exact gv_InvalidArgumentError
  | exact gv_KaitaiStream
  | exact gv_KaitaiStruct
  | exact gv_KaitaiStructError
  | exact gv_OSError
  | exact gv_PY2
  | exact gv_SEEK_END
  | exact gv_ValueError
  | exact gv__index
  | exact gv__law_plain_groups
  | exact gv__law_read
  | exact gv__law_round
  | exact gv__law_sextets
  | exact gv__law_text
  | exact gv__law_vectors
  | exact gv__law_write
  | exact gv__whence
  | exact gv_bool
  | exact gv_bytearray
  | exact gv_bytes
  | exact gv_callable
  | exact gv_chr
  | exact gv_getattr
  | exact gv_int
  | exact gv_len
  | exact gv_object
  | exact gv_ord
  | exact gv_range
  | exact gv_str
  | exact gv_super
  | exact gv_type
  | (apply mm_BytesIO__BytesIO__check; walk_at "mini h")
  | (apply mm_BytesIO___init__; walk_at "mini h")
  | (apply mm_BytesIO_read; walk_at "mini h")
  | (apply mm_BytesIO_seek; walk_at "mini h")
  | (apply mm_BytesIO_seekable; walk_at "mini h")
  | (apply mm_BytesIO_tell; walk_at "mini h")
  | (apply mm_BytesIO_write; walk_at "mini h")
  | (apply mm_KaitaiStruct___init__; walk_at "mini h")
  | exact getM_cls cm_KaitaiStruct_from_bytes
  | exact cm2_KaitaiStruct_from_bytes
  | (apply mm_KaitaiStream___init__; walk_at "mini h")
  | (apply mm_KaitaiStream__ensure_bytes_left_to_write; walk_at "mini h")
  | (apply mm_KaitaiStream__read_bytes_not_aligned; walk_at "mini h")
  | (apply mm_KaitaiStream__write_bytes_not_aligned; walk_at "mini h")
  | (apply mm_KaitaiStream_align_to_byte; walk_at "mini h")
  | exact getM_cls cm_KaitaiStream_byte_from_int
  | (apply mm_KaitaiStream_is_eof; walk_at "mini h")
  | (apply mm_KaitaiStream_pos; walk_at "mini h")
  | (apply mm_KaitaiStream_read_bits_int_be; walk_at "mini h")
  | (apply mm_KaitaiStream_read_bytes_full; walk_at "mini h")
  | (apply mm_KaitaiStream_seek; walk_at "mini h")
  | (apply mm_KaitaiStream_size; walk_at "mini h")
  | (apply mm_KaitaiStream_to_byte_array; walk_at "mini h")
  | (apply mm_KaitaiStream_write_align_to_byte; walk_at "mini h")
  | (apply mm_KaitaiStream_write_bits_int_be; walk_at "mini h"))

local macro_rules | `(tactic| walk_at "mini call") => `(tactic| ((with_reducible apply callV_fn fn__index); ((with_reducible apply L_index); (omega); (omega))))
local macro_rules | `(tactic| walk_at "mini call") => `(tactic| ((with_reducible apply callV_fn fn__whence); ((with_reducible apply L_whence); (omega); (omega))))
local macro_rules | `(tactic| walk_at "mini call") => `(tactic| ((with_reducible apply callV_fn fn_KaitaiStream_align_to_byte); ((with_reducible apply L_align); (walk_at "mini h"))))
local macro_rules | `(tactic| walk_at "mini call") => `(tactic| ((with_reducible apply callV_fn fn_BytesIO___check); ((with_reducible apply L_check); (walk_at "mini h"))))
local macro_rules | `(tactic| walk_at "mini call") => `(tactic| ((with_reducible apply callV_fn fn_BytesIO_tell); ((with_reducible apply L_tell); (walk_at "mini h"))))

local macro_rules | `(tactic| walk_at "mini call") => `(tactic| ((with_reducible apply callV_fn fn_BytesIO_seek); first | ((with_reducible apply L_seek2); (walk_at "mini h"); (walk_at "mini h"); (omega)) | ((with_reducible apply L_seek); (walk_at "mini h"); (omega); (omega))))
local macro_rules | `(tactic| walk_at "mini call") => `(tactic| ((with_reducible apply callV_fn fn_KaitaiStream_size); ((with_reducible apply L_size); (walk_at "mini h"); (walk_at "mini h"); (walk_at "mini h"); (walk_at "mini ne"); (omega); (omega); (omega))))
local macro_rules | `(tactic| walk_at "mini call") => `(tactic| ((with_reducible apply callV_fn fn_KaitaiStream_pos); first | ((with_reducible apply L_pos_r); (walk_at "mini h"); (walk_at "mini h")) | ((with_reducible apply L_pos_w0); (walk_at "mini h"); (walk_at "mini h"); (omega)) | ((with_reducible apply L_pos_w1); (walk_at "mini h"); (walk_at "mini h"); (omega))))
local macro_rules | `(tactic| walk_at "mini call") => `(tactic| ((with_reducible apply callV_fn fn_BytesIO_read); ((with_reducible apply L_read); (walk_at "mini h"); (walk_at "mini h"); (omega); (omega); (omega); (omega))))

local macro_rules | `(tactic| walk_at "mini call") => `(tactic| ((with_reducible apply callV_fn fn_KaitaiStream__read_bytes_not_aligned); ((with_reducible apply L_rbna); (walk_at "mini h"); (walk_at "mini h"); (walk_at "mini h"); (omega); (omega); (omega); (omega); (omega))))
local macro_rules | `(tactic| walk_at "mini call") => `(tactic| ((with_reducible apply callV_fn fn_KaitaiStream__ensure_bytes_left_to_write); ((with_reducible apply L_ebl); (walk_at "mini h"); (omega))))
local macro_rules | `(tactic| walk_at "mini call") => `(tactic| ((with_reducible apply callV_fn fn_KaitaiStream_byte_from_int); ((with_reducible apply L_bfi); (omega); (omega))))

def alph : Str := sStr (tst 19)
def al (g : Nat) : Nat := alph.cps.getD g 0
theorem alph_all : ∀ g : Fin 64, alph.cps[g.val]? = some (al g.val) ∧ ((⟨#[al g.val]⟩ : Str) != "=") = true ∧ Txt.find alph ⟨#[al g.val]⟩ = (g.val : Int) := by decide +kernel
theorem alph_at {g : Nat} (h : g < 64) : alph.cps[g]? = some (al g) ∧ ((⟨#[al g]⟩ : Str) != "=") = true ∧ Txt.find alph ⟨#[al g]⟩ = (g : Int) := alph_all ⟨g, h⟩
def codes (R : List UInt8) (j : Nat) : List Nat := (List.range j).map fun j => al (gv R j)
theorem codes_succ (R : List UInt8) (j : Nat) : codes R (j + 1) = codes R j ++ [al (gv R j)] := by unfold codes; rw [List.range_succ, List.map_append]; rfl
theorem codes_len (R : List UInt8) (j : Nat) : (codes R j).length = j := by unfold codes; simp
def strOf (l : List Nat) : Str := ⟨l.toArray⟩
theorem strOf_add (l : List Nat) (c : Nat) : strOf l ++ (⟨#[c]⟩ : Str) = strOf (l ++ [c]) := by
  apply Str.ext'
  rw [Str.cps_append]
  simp [strOf]
def padn (R : List UInt8) : Nat := (-(R.length : Int) % 3).toNat
def tx (R : List UInt8) : Str := strOf (codes R (gm R) ++ List.replicate (padn R) 61)
theorem tx_eq (R : List UInt8) : strOf (codes R (gm R)) ++ Txt.mul "=" (-(R.length : Int) % 3) = tx R := by
  apply Str.ext'
  rw [Str.cps_append]
  have h : -(R.length : Int) % 3 = 0 ∨ -(R.length : Int) % 3 = 1 ∨ -(R.length : Int) % 3 = 2 := by omega
  unfold tx padn
  rcases h with h | h | h <;> rw [h]
  · rw [show Txt.mul "=" 0 = (⟨#[]⟩ : Str) by decide +kernel]; simp [strOf]
  · rw [show Txt.mul "=" 1 = (⟨#[61]⟩ : Str) by decide +kernel]; simp [strOf]
  · rw [show Txt.mul "=" 2 = (⟨#[61, 61]⟩ : Str) by decide +kernel]; simp [strOf, List.replicate]
section
variable {P : Params} {ns : List Int} {σ : PH} {α β γ ch ρ τ : Nat} {io : Nat} {bl b sz v p : Int} {le wm lv : Bool} {buf : Array UInt8} {d : Nat}
set_option maxHeartbeats 8000000
theorem gv_alpha : globV (W0 P ns).K "_law_alphabet" = some (.str alph) := by kernel_rfl
local macro_rules | `(tactic| walk_at "mini m") => `(tactic| with_reducible first | exact gv_alpha | exact getM_idx)
theorem gm_le {R : List UInt8} (hR : R.length ≤ 1000) : gm R ≤ 1400 := by unfold gm; omega
theorem L_text {R : List UInt8} (hR : R.length ≤ 1000) (hγ : σ[γ]? = some (gsO R (gm R))) :
    Runs (W0 P ns) (d + 1) 1136 [.obj γ, .int R.length] σ (fun v σ' => v = .str (tx R) ∧ σ' = σ) := by
  have hgm := gm_le hR
  have hlen : ((List.range (gm R)).map fun (j : Nat) => PV.int (gv R j : Nat)).length = gm R := by simp
  apply does_def [("groups", .obj γ), ("many", .int R.length)] fn__law_text (by rfl) (by rfl)
  repeat (walk_at "mini s")
  apply ok_st
  apply ok_for (S := .lst γ ((List.range (gm R)).map fun (j : Nat) => PV.int (gv R j : Nat)).length) (I := fun i m s => s = σ ∧ m "many" = some (.int R.length) ∧ m "text" = some (.str (strOf (codes R i))))
  · rfl
  · repeat (walk_at "mini")
  · unfold srcO; dsimp only; rw [hγ]
  · exact ⟨rfl, by walk_at "mini v", by walk_at "mini v"⟩
  · intro m s ⟨hs, _, _⟩
    subst hs
    unfold Src.get Src.len; dsimp only; rw [hγ]; dsimp only
    rw [List.getElem?_eq_none (Nat.le_refl _)]
  · intro i m s hi ⟨hs, w1, w2⟩
    subst hs
    have hi : i < gm R := by simpa [Src.len] using hi
    obtain ⟨a1, a2, a3⟩ := alph_at (gv_lt R i)
    refine ⟨.int (gv R i : Nat), _, ?_, tgt_name (by decide +kernel), ?_⟩
    · unfold Src.get; dsimp only; rw [hγ]; dsimp only
      rw [List.getElem?_map, List.getElem?_range hi]; rfl
    · have hsub : subI (W0 P ns) s (.str alph) ((gv R i : Nat) : Int) = some (.str ⟨#[al (gv R i)]⟩) := by
        unfold subI; dsimp only
        have := gv_lt R i
        rw [if_pos ⟨by omega, by omega⟩, Int.toNat_natCast, a1]; rfl
      have hz : sizeOk ((strOf (codes R i)).length + (⟨#[al (gv R i)]⟩ : Str).length) = true := by
        refine sz_ok ?_
        show (codes R i).toArray.size + 1 ≤ _
        rw [List.size_toArray, codes_len]; omega
      repeat (walk_at "mini s")
      exact ⟨rfl, rfl, by walk_at "mini v", by rw [strOf_add, ← codes_succ]; walk_at "mini v"⟩
  · intro m s ⟨hs, w1, w2⟩
    subst hs
    rw [show (Src.lst γ ((List.range (gm R)).map fun (j : Nat) => PV.int (gv R j : Nat)).length).len = gm R by simp [Src.len]] at w2
    have hmu : ("=" : Str).length ≤ 16 ∧ (-(R.length : Int) % 3) ≤ 1048576 ∧ -(2 ^ 63) ≤ (-(R.length : Int) % 3) := ⟨by decide +kernel, by omega, by omega⟩
    have hz : sizeOk ((strOf (codes R (gm R))).length + (Txt.mul "=" (-(R.length : Int) % 3)).length) = true := by
      refine sz_ok ?_
      have h1 : (strOf (codes R (gm R)) ++ Txt.mul "=" (-(R.length : Int) % 3)).length = (tx R).length := by rw [tx_eq]
      rw [Str.length_append] at h1
      rw [h1]
      show ((codes R (gm R) ++ List.replicate (padn R) 61).toArray).size ≤ _
      simp [codes_len, padn]; omega
    walk_at "mini s"
    walk_at "mini r"
    exact ⟨by rw [tx_eq], rfl⟩
theorem L_sext {R : List UInt8} (hR : R.length ≤ 1000) :
    Runs (W0 P ns) (d + 1) 1150 [.str (tx R)] σ (fun v σ' => v = .obj σ.length ∧ σ'[σ.length]? = some (gsO R (gm R)) ∧ Keep σ σ' []) := by
  have hgm := gm_le hR
  have hpd : padn R ≤ 2 := by unfold padn; omega
  apply does_def [("text", .str (tx R))] fn__law_sextets (by rfl) (by rfl)
  repeat (walk_at "mini s")
  generalize hM : Vars.set _ "told" _ = M
  have v1 : M "told" = some (.obj σ.length) := by rw [← hM]; walk_at "mini v"
  have v2 : M "text" = some (.str (tx R)) := by rw [← hM]; walk_at "mini v"
  clear hM
  apply ok_st
  apply ok_for (S := .fix ((codes R (gm R) ++ List.replicate (padn R) 61).map fun c => .str ⟨#[c]⟩)) (I := fun i m s => m "told" = some (.obj σ.length) ∧ s[σ.length]? = some (gsO R (min i (gm R))) ∧ Keep σ s [])
  · rfl
  · repeat (walk_at "mini")
  · show (itemsO (W0 P ns) (σ ++ [PO.list []]) (.str (tx R))).map Src.fix = _
    unfold itemsO; dsimp only
    rw [show (tx R).cps.toList = codes R (gm R) ++ List.replicate (padn R) 61 from rfl]; rfl
  · refine ⟨v1, ?_, Keep.refl.app⟩
    rw [Nat.zero_min]; exact h_new
  · intro m s _
    show some ((List.map _ _)[(List.map _ _).length]?) = some none
    rw [List.getElem?_eq_none (Nat.le_refl _)]
  · intro i m s hi ⟨w1, e1, e2⟩
    have hi : i < gm R + padn R := by simpa [Src.len, codes_len] using hi
    by_cases hg : i < gm R
    · obtain ⟨a1, a2, a3⟩ := alph_at (gv_lt R i)
      refine ⟨.str ⟨#[al (gv R i)]⟩, _, ?_, tgt_name (by decide +kernel), ?_⟩
      · show some ((List.map _ _)[i]?) = _
        rw [List.getElem?_map, List.getElem?_append_left (by rw [codes_len]; exact hg)]
        unfold codes
        rw [List.getElem?_map, List.getElem?_range hg]; rfl
      · have hix : 0 ≤ Txt.find alph ⟨#[al (gv R i)]⟩ := by rw [a3]; omega
        rw [Nat.min_eq_left (Nat.le_of_lt hg)] at e1
        have hz : sizeOk (((List.range i).map fun (j : Nat) => PV.int (gv R j : Nat)).length + 1) = true := sz_ok (by simp; omega)
        repeat (walk_at "mini s")
        rw [a3]
        refine ⟨rfl, by walk_at "mini v", ?_, e2.low (Keep.refl.set (A := [σ.length]) (by simp)) (by simp)⟩
        rw [h_set e1, Nat.min_eq_left (by omega), gs_succ]
    · refine ⟨.str ⟨#[61]⟩, _, ?_, tgt_name (by decide +kernel), ?_⟩
      · show some ((List.map _ _)[i]?) = _
        rw [List.getElem?_map, List.getElem?_append_right (by rw [codes_len]; omega), codes_len, List.getElem?_replicate, if_pos (by omega)]; rfl
      · have a2 : ((⟨#[61]⟩ : Str) != "=") = false := by decide +kernel
        repeat (walk_at "mini s")
        refine ⟨rfl, by walk_at "mini v", ?_, e2⟩
        rw [e1, Nat.min_eq_right (by omega), Nat.min_eq_right (by omega)]
  · intro m s ⟨w1, e1, e2⟩
    walk_at "mini s"
    walk_at "mini r"
    refine ⟨rfl, ?_, e2⟩
    rw [e1, Nat.min_eq_right (by simp [Src.len, codes_len])]
end

end Mine
end
/-! part L8_br5014_04 -/
section
open PySem PySem.W PySem.Calls PyProof.Rows
namespace Mine
local macro_rules | `(tactic| walk_at "mini ne") => `(tactic| first
  | assumption
  | exact Ne.symm (by assumption)
  | ((with_reducible apply h_fresh); walk_at "mini h")
  | ((with_reducible apply h_fresh'); walk_at "mini h")
  | omega)
local macro_rules | `(tactic| walk_at "mini h") => `(tactic| first
  | assumption
  | (with_reducible exact h_new)
  | ((with_reducible apply h_set); walk_at "mini h")
  | ((with_reducible apply h_app); walk_at "mini h")
  | ((with_reducible apply h_ne); (walk_at "mini ne"); walk_at "mini h"))
local macro_rules | `(tactic| walk_at "mini v") => `(tactic| first
  | (with_reducible exact vs_same)
  | (with_reducible assumption)
  | ((with_reducible apply vs_ne); (decide +kernel); walk_at "mini v")
  | rfl)
local macro_rules | `(tactic| walk_at "mini c") => `(tactic| first
  | rfl
  | assumption
  | (simp only [decide_eq_true_eq, decide_eq_false_iff_not, beq_iff_eq, bne_iff_ne, bne_eq_false_iff_eq, Bool.not_eq_true', Bool.not_eq_false', ne_eq, beq_eq_false_iff_ne, not_true_eq_false, not_false_eq_true] <;> first | omega | assumption)
  | (simp; done))
local macro_rules | `(tactic| walk_at "mini g") => `(tactic| fail "mini g")
local macro_rules | `(tactic| walk_at "mini m") => `(tactic| ((with_reducible apply getM_app); walk_at "mini h"))
local macro_rules | `(tactic| walk_at "mini call") => `(tactic| first | (with_reducible assumption) | ((walk_at "mini fn"); with_reducible assumption))
local macro_rules | `(tactic| walk_at "mini xs") => `(tactic| first
  | (with_reducible exact xs_nil)
  | (apply xs_step))
local macro_rules | `(tactic| walk_at "mini x") => `(tactic| with_reducible first
  | (apply x_asgN)
  | (apply x_if)
  | (apply x_ret)
  | (apply x_asgA)
  | (apply x_expr)
  | (apply x_augN)
  | (apply x_augA)
  | (apply x_for)
  | (apply x_while)
  | (apply x_asgS)
  | (apply x_asgI)
  | (apply x_try)
  | (exact x_ret0)
  | (exact x_pass))
local macro_rules | `(tactic| walk_at "mini e") => `(tactic| with_reducible first
  | (apply r_name)
  | (exact r_int)
  | (apply r_attr)
  | (apply r_bin)
  | (apply r_meth)
  | (apply r_call)
  | (exact r_none)
  | (exact r_bool)
  | (exact r_str)
  | (exact r_bytes)
  | (apply r_neg)
  | (apply r_not)
  | (apply r_ifx)
  | (apply r_and)
  | (apply r_or)
  | (apply r_cmp)
  | (apply r_list)
  | (apply r_tup)
  | (apply r_slice)
  | (apply r_sub)
  | (apply r_comp))
local macro_rules | `(tactic| walk_at "mini ts") => `(tactic| with_reducible first
  | (apply q_cmp)
  | (apply q_name)
  | (apply q_not)
  | (apply q_ops)
  | (apply q_attr)
  | (apply q_call)
  | (apply q_sub)
  | (apply q_bin))
local macro_rules | `(tactic| walk_at "mini i") => `(tactic| first
  | (with_reducible exact i_add)
  | (with_reducible exact i_sub)
  | ((with_reducible apply i_modp); first | omega | decide)
  | ((with_reducible apply i_shrp); first | omega | decide)
  | ((with_reducible apply i_divp); (first | omega | decide); (first | omega | decide))
  | ((with_reducible apply i_shl); first | omega | decide)
  | ((with_reducible apply i_mul))
  | ((with_reducible apply i_pow); first | omega | decide)
  | (with_reducible exact i_and)
  | (with_reducible exact i_or)
  | (with_reducible exact i_xor))
local macro_rules | `(tactic| walk_at "mini b") => `(tactic| first
  | (with_reducible exact b_int)
  | (with_reducible apply b_type)
  | ((with_reducible apply b_len_barr); (walk_at "mini h"))
  | ((with_reducible apply b_len_bytes))
  | ((with_reducible apply b_len_str))
  | ((with_reducible apply b_len_list); (walk_at "mini h"))
  | ((with_reducible apply b_bytes_b); (walk_at "mini h"))
  | ((with_reducible apply b_barr_b))
  | ((with_reducible apply b_bytes_1); (omega); (omega))
  | ((with_reducible apply b_bytes_n); (omega))
  | ((with_reducible apply b_barr_n); (omega))
  | ((with_reducible apply b_append); (walk_at "mini h"))
  | ((with_reducible apply b_index); (with_reducible assumption))
  | ((with_reducible apply b_bytes_l); (walk_at "mini h"); (with_reducible assumption))
  | ((with_reducible apply b_ord); (with_reducible assumption))
  | ((with_reducible apply range_up); (omega); (omega))
  | ((with_reducible apply range_ab); (omega); (omega); (omega); (omega))
  | ((with_reducible apply range_by); (first | omega | decide); (first | omega | decide); (omega); (omega))
  | ((with_reducible apply range_down); (omega); (omega); (omega); (omega)))
local macro_rules | `(tactic| walk_at "mini") => `(tactic| first
  | ((with_reducible change ev _ _ _ _ _ _ _ = _); walk_at "mini e")
  | ((with_reducible change nameV _ _ _ _ = _); first
    | ((with_reducible apply name_loc); (decide +kernel); (walk_at "mini v"); (decide +kernel))
    | ((with_reducible apply name_glob); (decide +kernel); (walk_at "mini m"); (decide +kernel))
    | ((with_reducible apply name_cell); (decide +kernel); (walk_at "mini v"); (decide +kernel)))
  | ((with_reducible change ex _ _ _ _ _ _ _ = _); walk_at "mini x")
  | ((with_reducible change exs _ _ _ _ _ _ _ = _); walk_at "mini xs")
  | ((with_reducible change SR.andThen _ _ = _); first | (with_reducible apply at_next) | (with_reducible exact at_ret))
  | ((with_reducible change ts _ _ _ _ _ _ _ = _); walk_at "mini ts")
  | ((with_reducible change tsL _ _ _ _ _ _ _ _ = _); with_reducible first | (apply q_and) | (apply q_or) | (exact q_nil))
  | ((with_reducible change evL _ _ _ = _); with_reducible first | (exact r_nil) | (apply r_cons))
  | ((with_reducible change getA _ _ _ _ = _); walk_at "mini g")
  | ((with_reducible change setA _ _ _ _ _ = _); walk_at "mini g")
  | ((with_reducible change getM _ _ _ _ = _); walk_at "mini m")
  | ((with_reducible change callable _ _ = _); first | (walk_at "mini m") | rfl)
  | ((with_reducible change binop _ _ _ _ = _); first
    | (with_reducible apply i_bin)
    | ((with_reducible apply b_cat); (walk_at "mini h"); (walk_at "mini h"))
    | ((with_reducible apply b_rep); (walk_at "mini h"); (with_reducible assumption))
    | (with_reducible apply b_cats)
    | ((with_reducible apply b_smul); with_reducible assumption))
  | ((with_reducible change intOp _ _ _ = _); walk_at "mini i")
  | ((with_reducible change cmpop _ _ _ _ = _); first | rfl | ((with_reducible apply c_eq_lists); (walk_at "mini h"); (walk_at "mini h")) | ((with_reducible apply c_ne_lists); (walk_at "mini h"); (walk_at "mini h")))
  | ((with_reducible change truthO _ _ _ = _); rfl)
  | ((with_reducible change callV _ _ _ _ _ = _); first | (with_reducible apply callV_type) | (with_reducible apply callV_blt) | (with_reducible apply callV_meth) | (walk_at "mini call"))
  | ((with_reducible change bcall _ _ _ _ = _); walk_at "mini b")
  | ((with_reducible change (ite _ _ _) = _); first
    | ((with_reducible apply ite_t); (walk_at "mini c"))
    | ((with_reducible apply ite_f); (walk_at "mini c")))
  | (with_reducible exact okR)
  | (with_reducible exact okS)
  | (with_reducible exact an_ret)
  | (with_reducible exact an_next)
  | (with_reducible exact okP)
  | (with_reducible exact okH)
  | ((with_reducible change callF _ _ _ _ _ = _); with_reducible assumption)
  | ((with_reducible change partO _ = _); rfl)
  | ((with_reducible change localIn _ _ = _); decide +kernel)
  | ((with_reducible change isListComp _ = _); rfl)
  | ((with_reducible change plainIter _ = _); rfl)
  | ((with_reducible change isCallE _ = _); rfl)
  | ((with_reducible change behindInMarks _ _ = _); rfl)
  | ((with_reducible change List.any _ isStarredE = _); rfl)
  | ((with_reducible change (isCallE _ || _ || _ || _) = _); rfl)
  | ((with_reducible change ∀ _ _ _ _, _); intros; intro hq; cases hq)
  | ((with_reducible change evO _ _ _ _ _ _ _ = _); with_reducible first | (exact r_evO_none) | (apply r_evO_some))
  | (with_reducible exact app1)
  | (with_reducible exact app0)
  | ((with_reducible change typeOfP _ _ = _); first | (with_reducible exact ty_int) | (with_reducible exact ty_bytes) | ((with_reducible apply ty_barr); walk_at "mini h"))
  | ((with_reducible change powOk _ _ = _); with_reducible assumption)
  | ((with_reducible change mulOk _ _ = _); first | (with_reducible assumption) | ((apply mul_ok); (first | decide | omega)) | ((apply mul_ok'); (first | decide | omega)))
  | ((with_reducible change shlOk _ _ = _); first | assumption | ((apply shl_one); omega))
  | ((with_reducible change (_ : Int) ≤ _); omega)
  | ((with_reducible change (_ : Int) < _); omega)
  | ((with_reducible change sizeOk _ = _); first | (with_reducible assumption) | rfl | (apply sz_ok; first | omega | (simp; omega)))
  | ((with_reducible change subI _ _ _ _ = _); with_reducible assumption)
  | ((with_reducible change subS _ _ _ _ _ _ = _); first
    | ((with_reducible apply s_barr_ex); (walk_at "mini h"); (omega); (omega))
    | ((with_reducible apply s_list_dt); (walk_at "mini h"); (omega); (omega))
    | ((with_reducible apply s_list_hi); (walk_at "mini h"); (omega))
    | ((with_reducible apply s_scr_hi); (omega))
    | ((with_reducible apply s_bytes_hi); (omega))
    | ((with_reducible apply s_bytes_lo); (omega)))
  | ((with_reducible change sameObj _ _ = _); first | rfl | (exact beq_eq_false_iff_ne.mpr (by walk_at "mini ne")))
  | ((with_reducible change setI _ _ _ _ = _); (with_reducible apply st_barr_i); (walk_at "mini h"); (with_reducible assumption))
  | ((with_reducible change setS _ _ _ _ _ = _); (with_reducible apply st_barr_s); (walk_at "mini h"))
  | ((with_reducible change octetsOf _ _ = _); first | (with_reducible exact oc_bytes) | ((with_reducible apply oc_barr); (walk_at "mini h"))))
local macro_rules | `(tactic| walk_at "mini s") => `(tactic| first
  | ((apply ok_step); (· ((repeat (walk_at "mini")); done)))
  | ((with_reducible apply ok_nilB))
  | ((with_reducible apply ok_beh))
  | ((with_reducible apply ok_nil)))
local macro_rules | `(tactic| walk_at "mini r") => `(tactic| first
  | ((apply ok_retB); (· ((repeat (walk_at "mini")); done)))
  | ((apply ok_ret); (· ((repeat (walk_at "mini")); done))))

local macro_rules | `(tactic| walk_at "mini g") => `(tactic| with_reducible first
  | (apply g_io; walk_at "mini h") | (apply g_bl; walk_at "mini h") | (apply g_bits; walk_at "mini h") | (apply g_le; walk_at "mini h") | (apply g_wm; walk_at "mini h") | (apply g_sz; walk_at "mini h")
  | (apply g_buf; walk_at "mini h") | (apply g_pos; walk_at "mini h")
  | (apply p_bl; walk_at "mini h") | (apply p_bits; walk_at "mini h") | (apply p_le; walk_at "mini h") | (apply p_wm; walk_at "mini h") | (apply p_sz; walk_at "mini h") | (apply p_pos; walk_at "mini h"))

local macro_rules | `(tactic| walk_at "mini fn") => `(tactic| with_reducible first
  | apply callV_fn fn__whence
  | apply callV_fn fn__index
  | apply callV_fn fn_IOBase___new__
  | apply callV_fn fn_BytesIO___init__
  | apply callV_fn fn_BytesIO___check
  | apply callV_fn fn_BytesIO_seekable
  | apply callV_fn fn_BytesIO_tell
  | apply callV_fn fn_BytesIO_seek
  | apply callV_fn fn_BytesIO_read
  | apply callV_fn fn_BytesIO_write
  | apply callV_fn fn_KaitaiStruct___init__
  | apply callV_fn fn_KaitaiStruct_from_bytes
  | apply callV_fn fn_KaitaiStream___init__
  | apply callV_fn fn_KaitaiStream_is_eof
  | apply callV_fn fn_KaitaiStream_seek
  | apply callV_fn fn_KaitaiStream_pos
  | apply callV_fn fn_KaitaiStream_size
  | apply callV_fn fn_KaitaiStream_align_to_byte
  | apply callV_fn fn_KaitaiStream_read_bits_int_be
  | apply callV_fn fn_KaitaiStream__read_bytes_not_aligned
  | apply callV_fn fn_KaitaiStream_read_bytes_full
  | apply callV_fn fn_KaitaiStream__ensure_bytes_left_to_write
  | apply callV_fn fn_KaitaiStream_write_align_to_byte
  | apply callV_fn fn_KaitaiStream_write_bits_int_be
  | apply callV_fn fn_KaitaiStream__write_bytes_not_aligned
  | apply callV_fn fn_KaitaiStream_byte_from_int
  | apply callV_fn fn_KaitaiStream_to_byte_array
  | apply callV_fn fn_KaitaiStructError___init__
  | apply callV_fn fn_InvalidArgumentError___init__
  | apply callV_fn fn_EndOfStreamError___init__
  | apply callV_fn fn__law_vectors
  | apply callV_fn fn__law_plain_groups
  | apply callV_fn fn__law_text
  | apply callV_fn fn__law_read
  | apply callV_fn fn__law_sextets
  | apply callV_fn fn__law_write
  | apply callV_fn fn__law_round
  | apply callV_fn fn_law)
local macro_rules | `(tactic| walk_at "mini m") => `(tactic| with_reducible first
  | exact gv_AttributeError
  | exact gv_BytesIO
  | exact gv_EndOfStreamError
  | exact gv_InvalidArgumentError
  | exact gv_KaitaiStream
  | exact gv_KaitaiStruct
  | exact gv_KaitaiStructError
  | exact gv_OSError
  | exact gv_PY2
  | exact gv_SEEK_END
  | exact gv_ValueError
  | exact gv__index
  | exact gv__law_plain_groups
  | exact gv__law_read
  | exact gv__law_round
  | exact gv__law_sextets
  | exact gv__law_text
  | exact gv__law_vectors
  | exact gv__law_write
  | exact gv__whence
  | exact gv_bool
  | exact gv_bytearray
  | exact gv_bytes
  | exact gv_callable
  | exact gv_chr
  | exact gv_getattr
  | exact gv_int
  | exact gv_len
  | exact gv_object
  | exact gv_ord
  | exact gv_range
  | exact gv_str
  | exact gv_super
  | exact gv_type
  | (apply mm_BytesIO__BytesIO__check; walk_at "mini h")
  | (apply mm_BytesIO___init__; walk_at "mini h")
  | (apply mm_BytesIO_read; walk_at "mini h")
  | (apply mm_BytesIO_seek; walk_at "mini h")
  | (apply mm_BytesIO_seekable; walk_at "mini h")
  | (apply mm_BytesIO_tell; walk_at "mini h")
  | (apply mm_BytesIO_write; walk_at "mini h")
  | (apply mm_KaitaiStruct___init__; walk_at "mini h")
  | exact getM_cls cm_KaitaiStruct_from_bytes
  | exact cm2_KaitaiStruct_from_bytes
  | (apply mm_KaitaiStream___init__; walk_at "mini h")
  | (apply mm_KaitaiStream__ensure_bytes_left_to_write; walk_at "mini h")
  | (apply mm_KaitaiStream__read_bytes_not_aligned; walk_at "mini h")
  | (apply mm_KaitaiStream__write_bytes_not_aligned; walk_at "mini h")
  | (apply mm_KaitaiStream_align_to_byte; walk_at "mini h")
  | exact getM_cls cm_KaitaiStream_byte_from_int
  | (apply mm_KaitaiStream_is_eof; walk_at "mini h")
  | (apply mm_KaitaiStream_pos; walk_at "mini h")
  | (apply mm_KaitaiStream_read_bits_int_be; walk_at "mini h")
  | (apply mm_KaitaiStream_read_bytes_full; walk_at "mini h")
  | (apply mm_KaitaiStream_seek; walk_at "mini h")
  | (apply mm_KaitaiStream_size; walk_at "mini h")
  | (apply mm_KaitaiStream_to_byte_array; walk_at "mini h")
  | (apply mm_KaitaiStream_write_align_to_byte; walk_at "mini h")
  | (apply mm_KaitaiStream_write_bits_int_be; walk_at "mini h"))

local macro_rules | `(tactic| walk_at "mini call") => `(tactic| ((with_reducible apply callV_fn fn__index); ((with_reducible apply L_index); (omega); (omega))))
local macro_rules | `(tactic| walk_at "mini call") => `(tactic| ((with_reducible apply callV_fn fn__whence); ((with_reducible apply L_whence); (omega); (omega))))
local macro_rules | `(tactic| walk_at "mini call") => `(tactic| ((with_reducible apply callV_fn fn_KaitaiStream_align_to_byte); ((with_reducible apply L_align); (walk_at "mini h"))))
local macro_rules | `(tactic| walk_at "mini call") => `(tactic| ((with_reducible apply callV_fn fn_BytesIO___check); ((with_reducible apply L_check); (walk_at "mini h"))))
local macro_rules | `(tactic| walk_at "mini call") => `(tactic| ((with_reducible apply callV_fn fn_BytesIO_tell); ((with_reducible apply L_tell); (walk_at "mini h"))))

local macro_rules | `(tactic| walk_at "mini call") => `(tactic| ((with_reducible apply callV_fn fn_BytesIO_seek); first | ((with_reducible apply L_seek2); (walk_at "mini h"); (walk_at "mini h"); (omega)) | ((with_reducible apply L_seek); (walk_at "mini h"); (omega); (omega))))
local macro_rules | `(tactic| walk_at "mini call") => `(tactic| ((with_reducible apply callV_fn fn_KaitaiStream_size); ((with_reducible apply L_size); (walk_at "mini h"); (walk_at "mini h"); (walk_at "mini h"); (walk_at "mini ne"); (omega); (omega); (omega))))
local macro_rules | `(tactic| walk_at "mini call") => `(tactic| ((with_reducible apply callV_fn fn_KaitaiStream_pos); first | ((with_reducible apply L_pos_r); (walk_at "mini h"); (walk_at "mini h")) | ((with_reducible apply L_pos_w0); (walk_at "mini h"); (walk_at "mini h"); (omega)) | ((with_reducible apply L_pos_w1); (walk_at "mini h"); (walk_at "mini h"); (omega))))
local macro_rules | `(tactic| walk_at "mini call") => `(tactic| ((with_reducible apply callV_fn fn_BytesIO_read); ((with_reducible apply L_read); (walk_at "mini h"); (walk_at "mini h"); (omega); (omega); (omega); (omega))))

local macro_rules | `(tactic| walk_at "mini call") => `(tactic| ((with_reducible apply callV_fn fn_KaitaiStream__read_bytes_not_aligned); ((with_reducible apply L_rbna); (walk_at "mini h"); (walk_at "mini h"); (walk_at "mini h"); (omega); (omega); (omega); (omega); (omega))))
local macro_rules | `(tactic| walk_at "mini call") => `(tactic| ((with_reducible apply callV_fn fn_KaitaiStream__ensure_bytes_left_to_write); ((with_reducible apply L_ebl); (walk_at "mini h"); (omega))))
local macro_rules | `(tactic| walk_at "mini call") => `(tactic| ((with_reducible apply callV_fn fn_KaitaiStream_byte_from_int); ((with_reducible apply L_bfi); (omega); (omega))))

local macro_rules | `(tactic| walk_at "mini g") => `(tactic| with_reducible first
  | (apply g_kio; walk_at "mini h"))
local macro_rules | `(tactic| walk_at "mini call") => `(tactic| ((with_reducible apply callV_fn fn_KaitaiStream_seek); first | ((with_reducible apply L_seekW); (walk_at "mini h"); (walk_at "mini h"); (omega); (omega); (omega)) | ((with_reducible apply L_seekR); (walk_at "mini h"); (walk_at "mini h"); (walk_at "mini ne"); (omega); (omega))))
local macro_rules | `(tactic| walk_at "mini call") => `(tactic| ((with_reducible apply callV_fn fn_KaitaiStream_read_bytes_full); ((with_reducible apply L_readF); (walk_at "mini h"); (walk_at "mini h"); (walk_at "mini h"); (walk_at "mini ne"); (omega); (omega); (omega))))
theorem splice_one (A Z : List UInt8) (x c : UInt8) : splicedB (A ++ x :: Z).toArray #[c] A.length (A.length + 1) = (A ++ c :: Z).toArray := by
  have h1 : min (A.length : Int).toNat (A ++ x :: Z).toArray.size = A.length := by simp
  have h2 : min ((A.length : Int) + 1).toNat (A ++ x :: Z).toArray.size = A.length + 1 := by simp
  unfold splicedB
  rw [h1, h2, Nat.max_eq_right (Nat.le_succ _)]
  apply Array.ext'
  simp [List.extract_eq_take_drop]
  rw [List.take_of_length_le (by omega)]
def wbuf (R : List UInt8) (j : Nat) : List UInt8 := R.take (wp j) ++ List.replicate (R.length + 1 - wp j) 0
theorem wbuf_len {R : List UInt8} {j : Nat} (h : wp j ≤ R.length) : (wbuf R j).length = R.length + 1 := by unfold wbuf; simp; omega
theorem wbuf_step {R : List UInt8} {j : Nat} (h : wp j < R.length) (hj : wp (j + 1) = wp j + 1) : splicedB (wbuf R j).toArray #[UInt8.ofNat (rb R (wp j))] (wp j) (wp j + 1) = (wbuf R (j + 1)).toArray := by
  have h1 : (R.take (wp j)).length = wp j := by simp; omega
  have h2 := splice_one (R.take (wp j)) (List.replicate (R.length - wp j) 0) 0 (UInt8.ofNat (rb R (wp j)))
  rw [h1] at h2
  have h3 : wbuf R j = R.take (wp j) ++ 0 :: List.replicate (R.length - wp j) 0 := by
    unfold wbuf; rw [show R.length + 1 - wp j = (R.length - wp j) + 1 by omega, List.replicate_succ]
  rw [h3, h2]
  unfold wbuf
  rw [hj, show R.length + 1 - (wp j + 1) = R.length - wp j by omega, List.take_succ_eq_append_getElem h]
  have : UInt8.ofNat (rb R (wp j)) = R[wp j] := by unfold rb; rw [List.getElem?_eq_getElem h]; simp
  rw [this, List.append_assoc]; rfl
theorem wbuf_end (R : List UInt8) : wbuf R (gm R) = R ++ [0] := by
  unfold wbuf; rw [(write_end R).1]; simp
section
variable {P : Params} {ns : List Int} {σ : PH} {α β γ ch ρ τ : Nat} {io : Nat} {bl b sz v p : Int} {le wm lv : Bool} {buf : Array UInt8} {d : Nat}
set_option maxHeartbeats 8000000
theorem L_tba_r (h : σ[α]? = some (strm β 0 b le false ch sz)) (hβ : σ[β]? = some (bio γ p)) (hb : σ[γ]? = some (.barr buf)) (na : α ≠ β) (hp : 0 ≤ p) (hp2 : p ≤ 16777216) (hs : buf.size ≤ 16777216) (hpn : 0 < buf.size) :
    Runs (W0 P ns) (d + 7) 1022 [.obj α] σ (fun v σ' => v = .bytes buf ∧ Keep σ σ' [α, β]) := by
  have n1 := ne_bb hβ hb
  have n2 : α ≠ γ := fun e => by subst e; rw [h] at hb; cases hb
  apply does_def [("self", .obj α)] fn_KaitaiStream_to_byte_array (by rfl) (by rfl)
  repeat (walk_at "mini s")
  walk_at "mini r"
  refine ⟨by simp, ?_⟩
  exact (((((Keep.refl.set (by simp)).set (by simp)).set (by simp)).set (by simp)).app.set (by simp)).set (by simp)
theorem write_ok {R : List UInt8} {j : Nat} {s : PH} (hR : R.length ≤ 1000) (h : j < gm R) (ha : s[α]? = some (strm β (wl j) (wbits R j) le wm ch (wbuf R j).toArray.size)) (hβ : s[β]? = some (bio γ (wp j))) (hb : s[γ]? = some (.barr (wbuf R j).toArray)) (na : α ≠ β) :
    ∃ s1, callF (W0 P ns) (d + 6) 887 [.obj α, .int 6, .int (gv R j : Nat)] s = .ok .none s1 ∧ s1[α]? = some (strm β (wl (j + 1)) (wbits R (j + 1)) false true ch (wbuf R (j + 1)).toArray.size) ∧ s1[β]? = some (bio γ (wp (j + 1))) ∧ s1[γ]? = some (.barr (wbuf R (j + 1)).toArray) ∧ Keep s s1 [α, β, γ] := by
  obtain ⟨e1, e2, e3, e4⟩ := write_step R j
  have hb2 := wbits_lt R j
  have hg := gv_lt R j
  have hw8 : wl j < 8 := by unfold wl; omega
  have hwp : wp (j + 1) ≤ R.length := by unfold wp; unfold gm at h; omega
  have hwp0 : wp j ≤ wp (j + 1) := by omega
  have hl0 := wbuf_len (R := R) (j := j) (by omega)
  have hl1 := wbuf_len (R := R) (j := j + 1) hwp
  have hbi : ((wbits R j : Nat) : Int) < 2 ^ ((wl j : Nat) : Int).toNat := by rw [Int.toNat_natCast]; exact_mod_cast hb2
  have hv : ((gv R j : Nat) : Int) % 2 ^ (6 : Int).toNat = (gv R j : Nat) := Int.emod_eq_of_lt (by omega) (by show ((gv R j : Nat) : Int) < 64; omega)
  by_cases hk : (wl j + 6) / 8 = 0
  · obtain ⟨v, s1, hc, rfl, f1, f2, f3, f4⟩ := L_wb_be0 (P := P) (ns := ns) (d := d + 1) (n := 6) (val := (gv R j : Nat)) ha hβ hb na (by omega) (by simp; omega) (by omega) (by omega) (by omega) hbi (by decide) (by omega) (by simp; omega) (fun _ => by simp; omega)
    have hw : wl (j + 1) = wl j + 6 := by omega
    have hwpe : wp (j + 1) = wp j := by omega
    have hwb : wbuf R (j + 1) = wbuf R j := by unfold wbuf; rw [hwpe]
    refine ⟨s1, hc, ?_, ?_, ?_, f4.mono (by simp)⟩
    · rw [f1, hw, hwb, ← e3, hw, hv]
      have : wbits R j * 2 ^ 6 + gv R j < 2 ^ (wl j + 6) := by
        rw [Nat.pow_add]
        have : wbits R j + 1 ≤ 2 ^ wl j := hb2
        have := Nat.mul_le_mul_right (2 ^ 6) this
        omega
      rw [Nat.mod_eq_of_lt this]
      simp
    · rw [f2, hwpe]
    · rw [f3, hwb]
  · have hk1 : (wl j + 6) / 8 = 1 := by omega
    have hT : ((wbits R j * 2 ^ 6 + gv R j : Nat) : Int) = ((wbits R j : Nat) : Int) * 2 ^ (6 : Int).toNat + ((gv R j : Nat) : Int) % 2 ^ (6 : Int).toNat := by rw [hv]; simp
    obtain ⟨v, s1, hc, rfl, f1, f2, f3, f4⟩ := L_wb_be (P := P) (ns := ns) (d := d) (n := 6) (val := (gv R j : Nat)) ha hβ hb na (by omega) (by simp; omega) (by omega) (by omega) (by omega) hbi (by decide) (by decide) 1 (by omega) (by decide) (by simp; unfold wp wl; unfold gm at h; omega) _ hT
    have hm8 : (((wl j : Nat) : Int) + 6) % 8 = ((wl (j + 1) : Nat) : Int) := by omega
    rw [hm8, Int.toNat_natCast] at f1 f3
    rw [e3] at f1
    rw [e4 (by omega)] at f3
    refine ⟨s1, hc, ?_, ?_, ?_, f4⟩
    · rw [f1]; simp [hl0, hl1]
    · rw [f2]; congr 2; omega
    · rw [f3]
      have ho : (octs (rb R (wp j)) 1).toArray = #[UInt8.ofNat (rb R (wp j))] := by
        have := rb_lt R (wp j)
        simp [octs, List.range_succ, Nat.mod_eq_of_lt this]
      rw [ho, ← wbuf_step (by omega) (by omega)]
      rfl
theorem L_lwrite {R : List UInt8} {g : Nat} (hR : R.length ≤ 1000) (hg : σ[g]? = some (gsO R (gm R))) :
    Runs (W0 P ns) (d + 8) 1157 [.obj g, .int R.length] σ (fun v σ' => v = .bytes (R ++ [0]).toArray ∧ Keep σ σ' []) := by
  have hgm := gm_le hR
  obtain ⟨v, σ1, hc, κ, α, β, γ, ch, rfl, k1, k2, k3, k4, na, l1, l2, l3, kp⟩ := L_from (P := P) (ns := ns) (d := d + 1) (σ := σ) (b := Array.replicate ((R.length : Int) + 1).toNat 0) (by simp; omega)
  have hg1 : σ1[g]? = some (gsO R (gm R)) := kp g _ (by simp) hg
  have hgl := h_lt hg
  apply does_def [("groups", .obj g), ("many", .int R.length)] fn__law_write (by rfl) (by rfl)
  repeat (walk_at "mini s")
  generalize hM : Vars.set _ "written" _ = M
  have v1 : M "stream" = some (.obj α) := by rw [← hM]; walk_at "mini v"
  have v2 : M "groups" = some (.obj g) := by rw [← hM]; walk_at "mini v"
  have v3 : M "written" = some (.int 0) := by rw [← hM]; walk_at "mini v"
  clear hM hc
  have hw0 : (wbuf R 0).toArray = Array.replicate ((R.length : Int) + 1).toNat 0 := by
    rw [show ((R.length : Int) + 1).toNat = R.length + 1 by omega]; unfold wbuf wp; simp
  rw [← hw0] at k2 k4
  apply ok_st
  apply ok_for (S := .lst g ((List.range (gm R)).map fun (j : Nat) => PV.int (gv R j : Nat)).length) (I := fun i m s => m "stream" = some (.obj α) ∧ m "written" = some (.int (6 * i : Nat)) ∧ s[g]? = some (gsO R (gm R)) ∧
    (∃ wm, s[α]? = some (strm β (wl i) (wbits R i) false wm ch (wbuf R i).toArray.size)) ∧ s[β]? = some (bio γ (wp i)) ∧ s[γ]? = some (.barr (wbuf R i).toArray) ∧ Keep σ s [])
  · rfl
  · repeat (walk_at "mini")
  · unfold srcO; dsimp only; rw [hg1]
  · exact ⟨v1, v3, hg1, ⟨false, k2⟩, k3, k4, kp⟩
  · intro m s ⟨_, _, e1, _⟩
    unfold Src.get Src.len; dsimp only; rw [e1]; dsimp only
    rw [List.getElem?_eq_none (Nat.le_refl _)]
  · intro i m s hi ⟨w1, w2, e1, ⟨wm, e2⟩, e3, e4, e5⟩
    have hi : i < gm R := by simpa [Src.len] using hi
    obtain ⟨s1, hr, r1, r2, r3, r4⟩ := write_ok (P := P) (ns := ns) (d := d + 1) hR hi e2 e3 e4 na
    have hs1 : s1[g]? = some (gsO R (gm R)) := r4 g _ (by simp; omega) e1
    have q3 : Keep σ s1 [] := e5.low r4 (by simp [l1, l2, l3])
    refine ⟨.int (gv R i : Nat), _, ?_, tgt_name (by decide +kernel), ?_⟩
    · unfold Src.get; dsimp only; rw [e1]; dsimp only
      rw [List.getElem?_map, List.getElem?_range hi]; rfl
    · have hwl : wl (i + 1) = 6 * (i + 1) % 8 := rfl
      have hwp : wp (i + 1) = 6 * (i + 1) / 8 := rfl
      rcases Nat.eq_zero_or_pos (wl (i + 1)) with hz | hz <;>
      (repeat (walk_at "mini s")
       refine ⟨rfl, by walk_at "mini v", ?_, hs1, ⟨true, r1⟩, r2, r3, q3⟩
       rw [vs_same]; congr 2)
  · intro m s ⟨w1, w2, e1, ⟨wm, e2⟩, e3, e4, e5⟩
    rw [show (Src.lst g ((List.range (gm R)).map fun (j : Nat) => PV.int (gv R j : Nat)).length).len = gm R by simp [Src.len]] at w2 e2 e3 e4
    rw [(write_end R).2, wbuf_end] at e2
    rw [(write_end R).1] at e3
    rw [wbuf_end] at e4
    have n2 : α ≠ γ := fun e => by subst e; rw [e2] at e4; cases e4
    have n1 := ne_bb e3 e4
    have hsz : (R ++ [0]).toArray.size = R.length + 1 := by simp
    have e2' : s[α]? = some (strm β (wl (gm R)) 0 false wm ch (R ++ [0]).toArray.size) := e2
    obtain ⟨s2, p', hwa, z1, z2, z3, z4, z5, z6⟩ : ∃ s2 p', callF (W0 P ns) (d + 7) 880 [.obj α] s = .ok .none s2 ∧ s2[α]? = some (strm β 0 0 false wm ch (R ++ [0]).toArray.size) ∧ s2[β]? = some (bio γ p') ∧ s2[γ]? = some (.barr (R ++ [0]).toArray) ∧ Keep s s2 [α, β, γ] ∧ 0 ≤ p' ∧ p' ≤ 2000 := by
      rcases Nat.eq_zero_or_pos (wl (gm R)) with hz | hz
      · rw [hz] at e2'
        exact ⟨s, _, L_wal0 (P := P) (ns := ns) (d := d + 2) e2' (by decide), e2', e3, e4, Keep.refl, by omega, by omega⟩
      · have hw8 : wl (gm R) < 8 := by unfold wl; omega
        have hwa := L_wal (P := P) (ns := ns) (d := d + 2) e2' e3 e4 na (by omega) (by simp; omega) (by omega) (by omega) (by decide) (Int.pow_pos (by decide)) (by simp)
        have hsp := splice_one R [] 0 (UInt8.ofNat ((0 : Int) * 2 ^ (8 - ((wl (gm R) : Nat) : Int)).toNat).toNat)
        rw [hsp] at hwa
        rw [show UInt8.ofNat ((0 : Int) * 2 ^ (8 - ((wl (gm R) : Nat) : Int)).toNat).toNat = 0 by rw [Int.zero_mul]; rfl] at hwa
        refine ⟨_, _, hwa, by walk_at "mini h", by walk_at "mini h", by walk_at "mini h", ?_, by omega, by omega⟩
        exact ((Keep.refl.set (by simp)).set (by simp)).set (by simp)
    have q3 : Keep σ s2 [] := e5.low z4 (by simp [l1, l2, l3])
    cases wm with
    | true =>
      obtain ⟨v, s3, ht, rfl, _, _, _, kk⟩ := L_tba (P := P) (ns := ns) (d := d) z1 z2 z3 na z5 (by omega) (by simp; omega) (by simp)
      repeat (walk_at "mini s")
      walk_at "mini r"
      exact ⟨rfl, q3.low kk (by simp [l1, l2])⟩
    | false =>
      obtain ⟨v, s3, ht, rfl, kk⟩ := L_tba_r (P := P) (ns := ns) (d := d) z1 z2 z3 na z5 (by omega) (by simp; omega) (by simp)
      repeat (walk_at "mini s")
      walk_at "mini r"
      exact ⟨rfl, q3.low kk (by simp [l1, l2])⟩
end

end Mine
end
/-! part L9_br5014_04 -/
section
open PySem PySem.W PySem.Calls PyProof.Rows
namespace Mine
local macro_rules | `(tactic| walk_at "mini ne") => `(tactic| first
  | assumption
  | exact Ne.symm (by assumption)
  | ((with_reducible apply h_fresh); walk_at "mini h")
  | ((with_reducible apply h_fresh'); walk_at "mini h")
  | omega)
local macro_rules | `(tactic| walk_at "mini h") => `(tactic| first
  | assumption
  | (with_reducible exact h_new)
  | ((with_reducible apply h_set); walk_at "mini h")
  | ((with_reducible apply h_app); walk_at "mini h")
  | ((with_reducible apply h_ne); (walk_at "mini ne"); walk_at "mini h"))
local macro_rules | `(tactic| walk_at "mini v") => `(tactic| first
  | (with_reducible exact vs_same)
  | (with_reducible assumption)
  | ((with_reducible apply vs_ne); (decide +kernel); walk_at "mini v")
  | rfl)
local macro_rules | `(tactic| walk_at "mini c") => `(tactic| first
  | rfl
  | assumption
  | (simp only [decide_eq_true_eq, decide_eq_false_iff_not, beq_iff_eq, bne_iff_ne, bne_eq_false_iff_eq, Bool.not_eq_true', Bool.not_eq_false', ne_eq, beq_eq_false_iff_ne, not_true_eq_false, not_false_eq_true] <;> first | omega | assumption)
  | (simp; done))
local macro_rules | `(tactic| walk_at "mini g") => `(tactic| fail "mini g")
local macro_rules | `(tactic| walk_at "mini m") => `(tactic| ((with_reducible apply getM_app); walk_at "mini h"))
local macro_rules | `(tactic| walk_at "mini call") => `(tactic| first | (with_reducible assumption) | ((walk_at "mini fn"); with_reducible assumption))
local macro_rules | `(tactic| walk_at "mini xs") => `(tactic| first
  | (with_reducible exact xs_nil)
  | (apply xs_step))
local macro_rules | `(tactic| walk_at "mini x") => `(tactic| with_reducible first
  | (apply x_asgN)
  | (apply x_if)
  | (apply x_ret)
  | (apply x_asgA)
  | (apply x_expr)
  | (apply x_augN)
  | (apply x_augA)
  | (apply x_for)
  | (apply x_while)
  | (apply x_asgS)
  | (apply x_asgI)
  | (apply x_try)
  | (exact x_ret0)
  | (exact x_pass))
local macro_rules | `(tactic| walk_at "mini e") => `(tactic| with_reducible first
  | (apply r_name)
  | (exact r_int)
  | (apply r_attr)
  | (apply r_bin)
  | (apply r_meth)
  | (apply r_call)
  | (exact r_none)
  | (exact r_bool)
  | (exact r_str)
  | (exact r_bytes)
  | (apply r_neg)
  | (apply r_not)
  | (apply r_ifx)
  | (apply r_and)
  | (apply r_or)
  | (apply r_cmp)
  | (apply r_list)
  | (apply r_tup)
  | (apply r_slice)
  | (apply r_sub)
  | (apply r_comp))
local macro_rules | `(tactic| walk_at "mini ts") => `(tactic| with_reducible first
  | (apply q_cmp)
  | (apply q_name)
  | (apply q_not)
  | (apply q_ops)
  | (apply q_attr)
  | (apply q_call)
  | (apply q_sub)
  | (apply q_bin))
local macro_rules | `(tactic| walk_at "mini i") => `(tactic| first
  | (with_reducible exact i_add)
  | (with_reducible exact i_sub)
  | ((with_reducible apply i_modp); first | omega | decide)
  | ((with_reducible apply i_shrp); first | omega | decide)
  | ((with_reducible apply i_divp); (first | omega | decide); (first | omega | decide))
  | ((with_reducible apply i_shl); first | omega | decide)
  | ((with_reducible apply i_mul))
  | ((with_reducible apply i_pow); first | omega | decide)
  | (with_reducible exact i_and)
  | (with_reducible exact i_or)
  | (with_reducible exact i_xor))
local macro_rules | `(tactic| walk_at "mini b") => `(tactic| first
  | (with_reducible exact b_int)
  | (with_reducible apply b_type)
  | ((with_reducible apply b_len_barr); (walk_at "mini h"))
  | ((with_reducible apply b_len_bytes))
  | ((with_reducible apply b_len_str))
  | ((with_reducible apply b_len_list); (walk_at "mini h"))
  | ((with_reducible apply b_bytes_b); (walk_at "mini h"))
  | ((with_reducible apply b_barr_b))
  | ((with_reducible apply b_bytes_1); (omega); (omega))
  | ((with_reducible apply b_bytes_n); (omega))
  | ((with_reducible apply b_barr_n); (omega))
  | ((with_reducible apply b_append); (walk_at "mini h"))
  | ((with_reducible apply b_index); (with_reducible assumption))
  | ((with_reducible apply b_bytes_l); (walk_at "mini h"); (with_reducible assumption))
  | ((with_reducible apply b_ord); (with_reducible assumption))
  | ((with_reducible apply range_up); (omega); (omega))
  | ((with_reducible apply range_ab); (omega); (omega); (omega); (omega))
  | ((with_reducible apply range_by); (first | omega | decide); (first | omega | decide); (omega); (omega))
  | ((with_reducible apply range_down); (omega); (omega); (omega); (omega)))
local macro_rules | `(tactic| walk_at "mini") => `(tactic| first
  | ((with_reducible change ev _ _ _ _ _ _ _ = _); walk_at "mini e")
  | ((with_reducible change nameV _ _ _ _ = _); first
    | ((with_reducible apply name_loc); (decide +kernel); (walk_at "mini v"); (decide +kernel))
    | ((with_reducible apply name_glob); (decide +kernel); (walk_at "mini m"); (decide +kernel))
    | ((with_reducible apply name_cell); (decide +kernel); (walk_at "mini v"); (decide +kernel)))
  | ((with_reducible change ex _ _ _ _ _ _ _ = _); walk_at "mini x")
  | ((with_reducible change exs _ _ _ _ _ _ _ = _); walk_at "mini xs")
  | ((with_reducible change SR.andThen _ _ = _); first | (with_reducible apply at_next) | (with_reducible exact at_ret))
  | ((with_reducible change ts _ _ _ _ _ _ _ = _); walk_at "mini ts")
  | ((with_reducible change tsL _ _ _ _ _ _ _ _ = _); with_reducible first | (apply q_and) | (apply q_or) | (exact q_nil))
  | ((with_reducible change evL _ _ _ = _); with_reducible first | (exact r_nil) | (apply r_cons))
  | ((with_reducible change getA _ _ _ _ = _); walk_at "mini g")
  | ((with_reducible change setA _ _ _ _ _ = _); walk_at "mini g")
  | ((with_reducible change getM _ _ _ _ = _); walk_at "mini m")
  | ((with_reducible change callable _ _ = _); first | (walk_at "mini m") | rfl)
  | ((with_reducible change binop _ _ _ _ = _); first
    | (with_reducible apply i_bin)
    | ((with_reducible apply b_cat); (walk_at "mini h"); (walk_at "mini h"))
    | ((with_reducible apply b_rep); (walk_at "mini h"); (with_reducible assumption))
    | (with_reducible apply b_cats)
    | ((with_reducible apply b_smul); with_reducible assumption))
  | ((with_reducible change intOp _ _ _ = _); walk_at "mini i")
  | ((with_reducible change cmpop _ _ _ _ = _); first | rfl | ((with_reducible apply c_eq_lists); (walk_at "mini h"); (walk_at "mini h")) | ((with_reducible apply c_ne_lists); (walk_at "mini h"); (walk_at "mini h")))
  | ((with_reducible change truthO _ _ _ = _); rfl)
  | ((with_reducible change callV _ _ _ _ _ = _); first | (with_reducible apply callV_type) | (with_reducible apply callV_blt) | (with_reducible apply callV_meth) | (walk_at "mini call"))
  | ((with_reducible change bcall _ _ _ _ = _); walk_at "mini b")
  | ((with_reducible change (ite _ _ _) = _); first
    | ((with_reducible apply ite_t); (walk_at "mini c"))
    | ((with_reducible apply ite_f); (walk_at "mini c")))
  | (with_reducible exact okR)
  | (with_reducible exact okS)
  | (with_reducible exact an_ret)
  | (with_reducible exact an_next)
  | (with_reducible exact okP)
  | (with_reducible exact okH)
  | ((with_reducible change callF _ _ _ _ _ = _); with_reducible assumption)
  | ((with_reducible change intsO _ = _); first | (with_reducible assumption) | rfl)
  | ((with_reducible change (compOk _ _ _ _ && _) = _); rfl)
  | ((with_reducible change partO _ = _); rfl)
  | ((with_reducible change localIn _ _ = _); decide +kernel)
  | ((with_reducible change isListComp _ = _); rfl)
  | ((with_reducible change plainIter _ = _); rfl)
  | ((with_reducible change isCallE _ = _); rfl)
  | ((with_reducible change behindInMarks _ _ = _); rfl)
  | ((with_reducible change List.any _ isStarredE = _); rfl)
  | ((with_reducible change (isCallE _ || _ || _ || _) = _); rfl)
  | ((with_reducible change ∀ _ _ _ _, _); intros; intro hq; cases hq)
  | ((with_reducible change evO _ _ _ _ _ _ _ = _); with_reducible first | (exact r_evO_none) | (apply r_evO_some))
  | (with_reducible exact app1)
  | (with_reducible exact app0)
  | ((with_reducible change typeOfP _ _ = _); first | (with_reducible exact ty_int) | (with_reducible exact ty_bytes) | ((with_reducible apply ty_barr); walk_at "mini h"))
  | ((with_reducible change powOk _ _ = _); with_reducible assumption)
  | ((with_reducible change mulOk _ _ = _); first | (with_reducible assumption) | ((apply mul_ok); (first | decide | omega)) | ((apply mul_ok'); (first | decide | omega)))
  | ((with_reducible change shlOk _ _ = _); first | assumption | ((apply shl_one); omega))
  | ((with_reducible change (_ : Int) ≤ _); omega)
  | ((with_reducible change (_ : Int) < _); omega)
  | ((with_reducible change sizeOk _ = _); first | (with_reducible assumption) | rfl | (apply sz_ok; first | omega | (simp; omega)))
  | ((with_reducible change subI _ _ _ _ = _); with_reducible assumption)
  | ((with_reducible change subS _ _ _ _ _ _ = _); first
    | ((with_reducible apply s_barr_ex); (walk_at "mini h"); (omega); (omega))
    | ((with_reducible apply s_list_dt); (walk_at "mini h"); (omega); (omega))
    | ((with_reducible apply s_list_hi); (walk_at "mini h"); (omega))
    | ((with_reducible apply s_scr_hi); (omega))
    | ((with_reducible apply s_bytes_hi); (omega))
    | ((with_reducible apply s_bytes_lo); (omega)))
  | ((with_reducible change sameObj _ _ = _); first | rfl | (exact beq_eq_false_iff_ne.mpr (by walk_at "mini ne")))
  | ((with_reducible change setI _ _ _ _ = _); (with_reducible apply st_barr_i); (walk_at "mini h"); (with_reducible assumption))
  | ((with_reducible change setS _ _ _ _ _ = _); (with_reducible apply st_barr_s); (walk_at "mini h"))
  | ((with_reducible change octetsOf _ _ = _); first | (with_reducible exact oc_bytes) | ((with_reducible apply oc_barr); (walk_at "mini h"))))
local macro_rules | `(tactic| walk_at "mini s") => `(tactic| first
  | ((apply ok_step); (· ((repeat (walk_at "mini")); done)))
  | ((with_reducible apply ok_nilB))
  | ((with_reducible apply ok_beh))
  | ((with_reducible apply ok_nil)))
local macro_rules | `(tactic| walk_at "mini r") => `(tactic| first
  | ((apply ok_retB); (· ((repeat (walk_at "mini")); done)))
  | ((apply ok_ret); (· ((repeat (walk_at "mini")); done))))

local macro_rules | `(tactic| walk_at "mini g") => `(tactic| with_reducible first
  | (apply g_io; walk_at "mini h") | (apply g_bl; walk_at "mini h") | (apply g_bits; walk_at "mini h") | (apply g_le; walk_at "mini h") | (apply g_wm; walk_at "mini h") | (apply g_sz; walk_at "mini h")
  | (apply g_buf; walk_at "mini h") | (apply g_pos; walk_at "mini h")
  | (apply p_bl; walk_at "mini h") | (apply p_bits; walk_at "mini h") | (apply p_le; walk_at "mini h") | (apply p_wm; walk_at "mini h") | (apply p_sz; walk_at "mini h") | (apply p_pos; walk_at "mini h"))

local macro_rules | `(tactic| walk_at "mini fn") => `(tactic| with_reducible first
  | apply callV_fn fn__whence
  | apply callV_fn fn__index
  | apply callV_fn fn_IOBase___new__
  | apply callV_fn fn_BytesIO___init__
  | apply callV_fn fn_BytesIO___check
  | apply callV_fn fn_BytesIO_seekable
  | apply callV_fn fn_BytesIO_tell
  | apply callV_fn fn_BytesIO_seek
  | apply callV_fn fn_BytesIO_read
  | apply callV_fn fn_BytesIO_write
  | apply callV_fn fn_KaitaiStruct___init__
  | apply callV_fn fn_KaitaiStruct_from_bytes
  | apply callV_fn fn_KaitaiStream___init__
  | apply callV_fn fn_KaitaiStream_is_eof
  | apply callV_fn fn_KaitaiStream_seek
  | apply callV_fn fn_KaitaiStream_pos
  | apply callV_fn fn_KaitaiStream_size
  | apply callV_fn fn_KaitaiStream_align_to_byte
  | apply callV_fn fn_KaitaiStream_read_bits_int_be
  | apply callV_fn fn_KaitaiStream__read_bytes_not_aligned
  | apply callV_fn fn_KaitaiStream_read_bytes_full
  | apply callV_fn fn_KaitaiStream__ensure_bytes_left_to_write
  | apply callV_fn fn_KaitaiStream_write_align_to_byte
  | apply callV_fn fn_KaitaiStream_write_bits_int_be
  | apply callV_fn fn_KaitaiStream__write_bytes_not_aligned
  | apply callV_fn fn_KaitaiStream_byte_from_int
  | apply callV_fn fn_KaitaiStream_to_byte_array
  | apply callV_fn fn_KaitaiStructError___init__
  | apply callV_fn fn_InvalidArgumentError___init__
  | apply callV_fn fn_EndOfStreamError___init__
  | apply callV_fn fn__law_vectors
  | apply callV_fn fn__law_plain_groups
  | apply callV_fn fn__law_text
  | apply callV_fn fn__law_read
  | apply callV_fn fn__law_sextets
  | apply callV_fn fn__law_write
  | apply callV_fn fn__law_round
  | apply callV_fn fn_law)
local macro_rules | `(tactic| walk_at "mini m") => `(tactic| with_reducible first
  | exact gv_AttributeError
  | exact gv_BytesIO
  | exact gv_EndOfStreamError
  | exact gv_InvalidArgumentError
  | exact gv_KaitaiStream
  | exact gv_KaitaiStruct
  | exact gv_KaitaiStructError
  | exact gv_OSError
  | exact gv_PY2
  | exact gv_SEEK_END
  | exact gv_ValueError
  | exact gv__index
  | exact gv__law_plain_groups
  | exact gv__law_read
  | exact gv__law_round
  | exact gv__law_sextets
  | exact gv__law_text
  | exact gv__law_vectors
  | exact gv__law_write
  | exact gv__whence
  | exact gv_bool
  | exact gv_bytearray
  | exact gv_bytes
  | exact gv_callable
  | exact gv_chr
  | exact gv_getattr
  | exact gv_int
  | exact gv_len
  | exact gv_object
  | exact gv_ord
  | exact gv_range
  | exact gv_str
  | exact gv_super
  | exact gv_type
  | (apply mm_BytesIO__BytesIO__check; walk_at "mini h")
  | (apply mm_BytesIO___init__; walk_at "mini h")
  | (apply mm_BytesIO_read; walk_at "mini h")
  | (apply mm_BytesIO_seek; walk_at "mini h")
  | (apply mm_BytesIO_seekable; walk_at "mini h")
  | (apply mm_BytesIO_tell; walk_at "mini h")
  | (apply mm_BytesIO_write; walk_at "mini h")
  | (apply mm_KaitaiStruct___init__; walk_at "mini h")
  | exact getM_cls cm_KaitaiStruct_from_bytes
  | exact cm2_KaitaiStruct_from_bytes
  | (apply mm_KaitaiStream___init__; walk_at "mini h")
  | (apply mm_KaitaiStream__ensure_bytes_left_to_write; walk_at "mini h")
  | (apply mm_KaitaiStream__read_bytes_not_aligned; walk_at "mini h")
  | (apply mm_KaitaiStream__write_bytes_not_aligned; walk_at "mini h")
  | (apply mm_KaitaiStream_align_to_byte; walk_at "mini h")
  | exact getM_cls cm_KaitaiStream_byte_from_int
  | (apply mm_KaitaiStream_is_eof; walk_at "mini h")
  | (apply mm_KaitaiStream_pos; walk_at "mini h")
  | (apply mm_KaitaiStream_read_bits_int_be; walk_at "mini h")
  | (apply mm_KaitaiStream_read_bytes_full; walk_at "mini h")
  | (apply mm_KaitaiStream_seek; walk_at "mini h")
  | (apply mm_KaitaiStream_size; walk_at "mini h")
  | (apply mm_KaitaiStream_to_byte_array; walk_at "mini h")
  | (apply mm_KaitaiStream_write_align_to_byte; walk_at "mini h")
  | (apply mm_KaitaiStream_write_bits_int_be; walk_at "mini h"))

local macro_rules | `(tactic| walk_at "mini call") => `(tactic| ((with_reducible apply callV_fn fn__index); ((with_reducible apply L_index); (omega); (omega))))
local macro_rules | `(tactic| walk_at "mini call") => `(tactic| ((with_reducible apply callV_fn fn__whence); ((with_reducible apply L_whence); (omega); (omega))))
local macro_rules | `(tactic| walk_at "mini call") => `(tactic| ((with_reducible apply callV_fn fn_KaitaiStream_align_to_byte); ((with_reducible apply L_align); (walk_at "mini h"))))
local macro_rules | `(tactic| walk_at "mini call") => `(tactic| ((with_reducible apply callV_fn fn_BytesIO___check); ((with_reducible apply L_check); (walk_at "mini h"))))
local macro_rules | `(tactic| walk_at "mini call") => `(tactic| ((with_reducible apply callV_fn fn_BytesIO_tell); ((with_reducible apply L_tell); (walk_at "mini h"))))

local macro_rules | `(tactic| walk_at "mini call") => `(tactic| ((with_reducible apply callV_fn fn_BytesIO_seek); first | ((with_reducible apply L_seek2); (walk_at "mini h"); (walk_at "mini h"); (omega)) | ((with_reducible apply L_seek); (walk_at "mini h"); (omega); (omega))))
local macro_rules | `(tactic| walk_at "mini call") => `(tactic| ((with_reducible apply callV_fn fn_KaitaiStream_size); ((with_reducible apply L_size); (walk_at "mini h"); (walk_at "mini h"); (walk_at "mini h"); (walk_at "mini ne"); (omega); (omega); (omega))))
local macro_rules | `(tactic| walk_at "mini call") => `(tactic| ((with_reducible apply callV_fn fn_KaitaiStream_pos); first | ((with_reducible apply L_pos_r); (walk_at "mini h"); (walk_at "mini h")) | ((with_reducible apply L_pos_w0); (walk_at "mini h"); (walk_at "mini h"); (omega)) | ((with_reducible apply L_pos_w1); (walk_at "mini h"); (walk_at "mini h"); (omega))))
local macro_rules | `(tactic| walk_at "mini call") => `(tactic| ((with_reducible apply callV_fn fn_BytesIO_read); ((with_reducible apply L_read); (walk_at "mini h"); (walk_at "mini h"); (omega); (omega); (omega); (omega))))

local macro_rules | `(tactic| walk_at "mini call") => `(tactic| ((with_reducible apply callV_fn fn_KaitaiStream__read_bytes_not_aligned); ((with_reducible apply L_rbna); (walk_at "mini h"); (walk_at "mini h"); (walk_at "mini h"); (omega); (omega); (omega); (omega); (omega))))
local macro_rules | `(tactic| walk_at "mini call") => `(tactic| ((with_reducible apply callV_fn fn_KaitaiStream__ensure_bytes_left_to_write); ((with_reducible apply L_ebl); (walk_at "mini h"); (omega))))
local macro_rules | `(tactic| walk_at "mini call") => `(tactic| ((with_reducible apply callV_fn fn_KaitaiStream_byte_from_int); ((with_reducible apply L_bfi); (omega); (omega))))

section
variable {P : Params} {ns : List Int} {σ : PH} {α β γ ch ρ τ : Nat} {io : Nat} {bl b sz v p : Int} {le wm lv : Bool} {buf : Array UInt8} {d : Nat}
set_option maxHeartbeats 8000000
theorem ints_gs (R : List UInt8) (j : Nat) : intsO ((List.range j).map fun (j : Nat) => PV.int (gv R j : Nat)) = some ((List.range j).map fun (j : Nat) => ((gv R j : Nat) : Int)) := by
  generalize List.range j = l
  induction l with
  | nil => rfl
  | cons a l ih => rw [List.map_cons]; unfold intsO; rw [ih]; rfl
theorem L_round {R : List UInt8} (hR : R.length ≤ 1000) (hρ : σ[ρ]? = some (rowO R)) :
    Runs (W0 P ns) (d + 9) 1162 [.obj ρ] σ (fun v σ' => v = .bool true ∧ Keep σ σ' []) := by
  obtain ⟨v, s1, h1, τ, rfl, t1, _, k1⟩ := L_lread (P := P) (ns := ns) (d := d) hR hρ
  obtain ⟨v, s2, h2, τ2, rfl, t2, k2⟩ := L_plain (P := P) (ns := ns) (d := d) hR (k1 ρ _ (by simp) hρ)
  have t1' := k2 τ _ (by simp) t1
  obtain ⟨v, s2', h3, rfl, rfl⟩ := L_text (P := P) (ns := ns) (d := d + 7) hR t1'
  obtain ⟨v, s3, h4, rfl, t3, k3⟩ := L_sext (P := P) (ns := ns) (d := d + 7) (σ := s2') hR
  obtain ⟨v, s4, h5, rfl, k4⟩ := L_lwrite (P := P) (ns := ns) (d := d) hR t3
  have kk := ((k1.trans k2).trans k3).trans k4
  have hi := ints_gs R (gm R)
  have hρ4 := kk ρ _ (by simp) hρ
  have hρ2 := (k1.trans k2) ρ _ (by simp) hρ
  have hlm : (R.map fun c => PV.int (c.toNat : Nat)).length = R.length := List.length_map ..
  have hoct := octets_row R
  have hx : ((R ++ [0]).toArray.extract 0 (R.length : Int).toNat == R.toArray) = true := by rw [Int.toNat_natCast]; simp
  have hla : (R ++ [0]).toArray.extract (R.length : Int).toNat (R ++ [0]).toArray.size = #[0] := by rw [Int.toNat_natCast]; apply Array.ext'; simp [List.extract_eq_take_drop]
  apply does_def [("row", .obj ρ)] fn__law_round (by rfl) (by rfl)
  repeat (walk_at "mini s")
  rw [hlm]
  repeat (walk_at "mini s")
  apply ok_ret
  · apply x_ret
    apply r_and
    · repeat (walk_at "mini")
    · rfl
    apply ite_t
    · exact hx
    apply r_cmp
    · apply r_comp
      · rfl
      · repeat (walk_at "mini")
      · rw [hla]
        apply compW_fix (is := [.int 0]) (ws := [.int 0])
        · rfl
        · rfl
        · rfl
        · intro j v w h1 h2
          have h3 : v = w := by rw [h1] at h2; exact Option.some.inj h2
          subst h3
          repeat (walk_at "mini")
    · repeat (walk_at "mini")
    · repeat (walk_at "mini")
    · rfl
  exact ⟨rfl, kk.app.app⟩
end

end Mine
end
/-! part L10_br5014_04 -/
section
open PySem PySem.W PySem.Calls PyProof.Rows
namespace Mine
local macro_rules | `(tactic| walk_at "mini ne") => `(tactic| first
  | assumption
  | exact Ne.symm (by assumption)
  | ((with_reducible apply h_fresh); walk_at "mini h")
  | ((with_reducible apply h_fresh'); walk_at "mini h")
  | omega)
local macro_rules | `(tactic| walk_at "mini h") => `(tactic| first
  | assumption
  | (with_reducible exact h_new)
  | ((with_reducible apply h_set); walk_at "mini h")
  | ((with_reducible apply h_app); walk_at "mini h")
  | ((with_reducible apply h_ne); (walk_at "mini ne"); walk_at "mini h"))
local macro_rules | `(tactic| walk_at "mini v") => `(tactic| first
  | (with_reducible exact vs_same)
  | (with_reducible assumption)
  | ((with_reducible apply vs_ne); (decide +kernel); walk_at "mini v")
  | rfl)
local macro_rules | `(tactic| walk_at "mini c") => `(tactic| first
  | rfl
  | assumption
  | (simp only [decide_eq_true_eq, decide_eq_false_iff_not, beq_iff_eq, bne_iff_ne, bne_eq_false_iff_eq, Bool.not_eq_true', Bool.not_eq_false', ne_eq, beq_eq_false_iff_ne, not_true_eq_false, not_false_eq_true] <;> first | omega | assumption)
  | (simp; done))
local macro_rules | `(tactic| walk_at "mini g") => `(tactic| fail "mini g")
local macro_rules | `(tactic| walk_at "mini m") => `(tactic| ((with_reducible apply getM_app); walk_at "mini h"))
local macro_rules | `(tactic| walk_at "mini call") => `(tactic| first | (with_reducible assumption) | ((walk_at "mini fn"); with_reducible assumption))
local macro_rules | `(tactic| walk_at "mini xs") => `(tactic| first
  | (with_reducible exact xs_nil)
  | (apply xs_step))
local macro_rules | `(tactic| walk_at "mini x") => `(tactic| with_reducible first
  | (apply x_asgN)
  | (apply x_if)
  | (apply x_ret)
  | (apply x_asgA)
  | (apply x_expr)
  | (apply x_augN)
  | (apply x_augA)
  | (apply x_for)
  | (apply x_while)
  | (apply x_asgS)
  | (apply x_asgI)
  | (apply x_try)
  | (exact x_ret0)
  | (exact x_pass))
local macro_rules | `(tactic| walk_at "mini e") => `(tactic| with_reducible first
  | (apply r_name)
  | (exact r_int)
  | (apply r_attr)
  | (apply r_bin)
  | (apply r_meth)
  | (apply r_call)
  | (exact r_none)
  | (exact r_bool)
  | (exact r_str)
  | (exact r_bytes)
  | (apply r_neg)
  | (apply r_not)
  | (apply r_ifx)
  | (apply r_and)
  | (apply r_or)
  | (apply r_cmp)
  | (apply r_list)
  | (apply r_tup)
  | (apply r_slice)
  | (apply r_sub)
  | (apply r_comp))
local macro_rules | `(tactic| walk_at "mini ts") => `(tactic| with_reducible first
  | (apply q_cmp)
  | (apply q_name)
  | (apply q_not)
  | (apply q_ops)
  | (apply q_attr)
  | (apply q_call)
  | (apply q_sub)
  | (apply q_bin))
local macro_rules | `(tactic| walk_at "mini i") => `(tactic| first
  | (with_reducible exact i_add)
  | (with_reducible exact i_sub)
  | ((with_reducible apply i_modp); first | omega | decide)
  | ((with_reducible apply i_shrp); first | omega | decide)
  | ((with_reducible apply i_divp); (first | omega | decide); (first | omega | decide))
  | ((with_reducible apply i_shl); first | omega | decide)
  | ((with_reducible apply i_mul))
  | ((with_reducible apply i_pow); first | omega | decide)
  | (with_reducible exact i_and)
  | (with_reducible exact i_or)
  | (with_reducible exact i_xor))
local macro_rules | `(tactic| walk_at "mini b") => `(tactic| first
  | (with_reducible exact b_int)
  | (with_reducible apply b_type)
  | ((with_reducible apply b_len_barr); (walk_at "mini h"))
  | ((with_reducible apply b_len_bytes))
  | ((with_reducible apply b_len_str))
  | ((with_reducible apply b_len_list); (walk_at "mini h"))
  | ((with_reducible apply b_bytes_b); (walk_at "mini h"))
  | ((with_reducible apply b_barr_b))
  | ((with_reducible apply b_bytes_1); (omega); (omega))
  | ((with_reducible apply b_bytes_n); (omega))
  | ((with_reducible apply b_barr_n); (omega))
  | ((with_reducible apply b_append); (walk_at "mini h"))
  | ((with_reducible apply b_index); (with_reducible assumption))
  | ((with_reducible apply b_bytes_l); (walk_at "mini h"); (with_reducible assumption))
  | ((with_reducible apply b_ord); (with_reducible assumption))
  | ((with_reducible apply range_up); (omega); (omega))
  | ((with_reducible apply range_ab); (omega); (omega); (omega); (omega))
  | ((with_reducible apply range_by); (first | omega | decide); (first | omega | decide); (omega); (omega))
  | ((with_reducible apply range_down); (omega); (omega); (omega); (omega)))
local macro_rules | `(tactic| walk_at "mini") => `(tactic| first
  | ((with_reducible change ev _ _ _ _ _ _ _ = _); walk_at "mini e")
  | ((with_reducible change nameV _ _ _ _ = _); first
    | ((with_reducible apply name_loc); (decide +kernel); (walk_at "mini v"); (decide +kernel))
    | ((with_reducible apply name_glob); (decide +kernel); (walk_at "mini m"); (decide +kernel))
    | ((with_reducible apply name_cell); (decide +kernel); (walk_at "mini v"); (decide +kernel)))
  | ((with_reducible change ex _ _ _ _ _ _ _ = _); walk_at "mini x")
  | ((with_reducible change exs _ _ _ _ _ _ _ = _); walk_at "mini xs")
  | ((with_reducible change SR.andThen _ _ = _); first | (with_reducible apply at_next) | (with_reducible exact at_ret))
  | ((with_reducible change ts _ _ _ _ _ _ _ = _); walk_at "mini ts")
  | ((with_reducible change tsL _ _ _ _ _ _ _ _ = _); with_reducible first | (apply q_and) | (apply q_or) | (exact q_nil))
  | ((with_reducible change evL _ _ _ = _); with_reducible first | (exact r_nil) | (apply r_cons))
  | ((with_reducible change getA _ _ _ _ = _); walk_at "mini g")
  | ((with_reducible change setA _ _ _ _ _ = _); walk_at "mini g")
  | ((with_reducible change getM _ _ _ _ = _); walk_at "mini m")
  | ((with_reducible change callable _ _ = _); first | (walk_at "mini m") | rfl)
  | ((with_reducible change binop _ _ _ _ = _); first
    | (with_reducible apply i_bin)
    | ((with_reducible apply b_cat); (walk_at "mini h"); (walk_at "mini h"))
    | ((with_reducible apply b_rep); (walk_at "mini h"); (with_reducible assumption))
    | (with_reducible apply b_cats)
    | ((with_reducible apply b_smul); with_reducible assumption))
  | ((with_reducible change intOp _ _ _ = _); walk_at "mini i")
  | ((with_reducible change cmpop _ _ _ _ = _); first | rfl | ((with_reducible apply c_eq_lists); (walk_at "mini h"); (walk_at "mini h")) | ((with_reducible apply c_ne_lists); (walk_at "mini h"); (walk_at "mini h")))
  | ((with_reducible change truthO _ _ _ = _); rfl)
  | ((with_reducible change callV _ _ _ _ _ = _); first | (with_reducible apply callV_type) | (with_reducible apply callV_blt) | (with_reducible apply callV_meth) | (walk_at "mini call"))
  | ((with_reducible change bcall _ _ _ _ = _); walk_at "mini b")
  | ((with_reducible change (ite _ _ _) = _); first
    | ((with_reducible apply ite_t); (walk_at "mini c"))
    | ((with_reducible apply ite_f); (walk_at "mini c")))
  | (with_reducible exact okR)
  | (with_reducible exact okS)
  | (with_reducible exact an_ret)
  | (with_reducible exact an_next)
  | (with_reducible exact okP)
  | (with_reducible exact okH)
  | ((with_reducible change callF _ _ _ _ _ = _); with_reducible assumption)
  | ((with_reducible change intsO _ = _); first | (with_reducible assumption) | rfl)
  | ((with_reducible change (compOk _ _ _ _ && _) = _); rfl)
  | ((with_reducible change partO _ = _); rfl)
  | ((with_reducible change localIn _ _ = _); decide +kernel)
  | ((with_reducible change isListComp _ = _); rfl)
  | ((with_reducible change plainIter _ = _); rfl)
  | ((with_reducible change isCallE _ = _); rfl)
  | ((with_reducible change behindInMarks _ _ = _); rfl)
  | ((with_reducible change List.any _ isStarredE = _); rfl)
  | ((with_reducible change (isCallE _ || _ || _ || _) = _); rfl)
  | ((with_reducible change ∀ _ _ _ _, _); intros; intro hq; cases hq)
  | ((with_reducible change evO _ _ _ _ _ _ _ = _); with_reducible first | (exact r_evO_none) | (apply r_evO_some))
  | (with_reducible exact app1)
  | (with_reducible exact app0)
  | ((with_reducible change typeOfP _ _ = _); first | (with_reducible exact ty_int) | (with_reducible exact ty_bytes) | ((with_reducible apply ty_barr); walk_at "mini h"))
  | ((with_reducible change powOk _ _ = _); with_reducible assumption)
  | ((with_reducible change mulOk _ _ = _); first | (with_reducible assumption) | ((apply mul_ok); (first | decide | omega)) | ((apply mul_ok'); (first | decide | omega)))
  | ((with_reducible change shlOk _ _ = _); first | assumption | ((apply shl_one); omega))
  | ((with_reducible change (_ : Int) ≤ _); omega)
  | ((with_reducible change (_ : Int) < _); omega)
  | ((with_reducible change sizeOk _ = _); first | (with_reducible assumption) | rfl | (apply sz_ok; first | omega | (simp; omega)))
  | ((with_reducible change subI _ _ _ _ = _); with_reducible assumption)
  | ((with_reducible change subS _ _ _ _ _ _ = _); first
    | ((with_reducible apply s_barr_ex); (walk_at "mini h"); (omega); (omega))
    | ((with_reducible apply s_list_dt); (walk_at "mini h"); (omega); (omega))
    | ((with_reducible apply s_list_hi); (walk_at "mini h"); (omega))
    | ((with_reducible apply s_scr_hi); (omega))
    | ((with_reducible apply s_bytes_hi); (omega))
    | ((with_reducible apply s_bytes_lo); (omega)))
  | ((with_reducible change sameObj _ _ = _); first | rfl | (exact beq_eq_false_iff_ne.mpr (by walk_at "mini ne")))
  | ((with_reducible change setI _ _ _ _ = _); (with_reducible apply st_barr_i); (walk_at "mini h"); (with_reducible assumption))
  | ((with_reducible change setS _ _ _ _ _ = _); (with_reducible apply st_barr_s); (walk_at "mini h"))
  | ((with_reducible change octetsOf _ _ = _); first | (with_reducible exact oc_bytes) | ((with_reducible apply oc_barr); (walk_at "mini h"))))
local macro_rules | `(tactic| walk_at "mini s") => `(tactic| first
  | ((apply ok_step); (· ((repeat (walk_at "mini")); done)))
  | ((with_reducible apply ok_nilB))
  | ((with_reducible apply ok_beh))
  | ((with_reducible apply ok_nil)))
local macro_rules | `(tactic| walk_at "mini r") => `(tactic| first
  | ((apply ok_retB); (· ((repeat (walk_at "mini")); done)))
  | ((apply ok_ret); (· ((repeat (walk_at "mini")); done))))

local macro_rules | `(tactic| walk_at "mini g") => `(tactic| with_reducible first
  | (apply g_io; walk_at "mini h") | (apply g_bl; walk_at "mini h") | (apply g_bits; walk_at "mini h") | (apply g_le; walk_at "mini h") | (apply g_wm; walk_at "mini h") | (apply g_sz; walk_at "mini h")
  | (apply g_buf; walk_at "mini h") | (apply g_pos; walk_at "mini h")
  | (apply p_bl; walk_at "mini h") | (apply p_bits; walk_at "mini h") | (apply p_le; walk_at "mini h") | (apply p_wm; walk_at "mini h") | (apply p_sz; walk_at "mini h") | (apply p_pos; walk_at "mini h"))

local macro_rules | `(tactic| walk_at "mini fn") => `(tactic| with_reducible first
  | apply callV_fn fn__whence
  | apply callV_fn fn__index
  | apply callV_fn fn_IOBase___new__
  | apply callV_fn fn_BytesIO___init__
  | apply callV_fn fn_BytesIO___check
  | apply callV_fn fn_BytesIO_seekable
  | apply callV_fn fn_BytesIO_tell
  | apply callV_fn fn_BytesIO_seek
  | apply callV_fn fn_BytesIO_read
  | apply callV_fn fn_BytesIO_write
  | apply callV_fn fn_KaitaiStruct___init__
  | apply callV_fn fn_KaitaiStruct_from_bytes
  | apply callV_fn fn_KaitaiStream___init__
  | apply callV_fn fn_KaitaiStream_is_eof
  | apply callV_fn fn_KaitaiStream_seek
  | apply callV_fn fn_KaitaiStream_pos
  | apply callV_fn fn_KaitaiStream_size
  | apply callV_fn fn_KaitaiStream_align_to_byte
  | apply callV_fn fn_KaitaiStream_read_bits_int_be
  | apply callV_fn fn_KaitaiStream__read_bytes_not_aligned
  | apply callV_fn fn_KaitaiStream_read_bytes_full
  | apply callV_fn fn_KaitaiStream__ensure_bytes_left_to_write
  | apply callV_fn fn_KaitaiStream_write_align_to_byte
  | apply callV_fn fn_KaitaiStream_write_bits_int_be
  | apply callV_fn fn_KaitaiStream__write_bytes_not_aligned
  | apply callV_fn fn_KaitaiStream_byte_from_int
  | apply callV_fn fn_KaitaiStream_to_byte_array
  | apply callV_fn fn_KaitaiStructError___init__
  | apply callV_fn fn_InvalidArgumentError___init__
  | apply callV_fn fn_EndOfStreamError___init__
  | apply callV_fn fn__law_vectors
  | apply callV_fn fn__law_plain_groups
  | apply callV_fn fn__law_text
  | apply callV_fn fn__law_read
  | apply callV_fn fn__law_sextets
  | apply callV_fn fn__law_write
  | apply callV_fn fn__law_round
  | apply callV_fn fn_law)
local macro_rules | `(tactic| walk_at "mini m") => `(tactic| with_reducible first
  | exact gv_AttributeError
  | exact gv_BytesIO
  | exact gv_EndOfStreamError
  | exact gv_InvalidArgumentError
  | exact gv_KaitaiStream
  | exact gv_KaitaiStruct
  | exact gv_KaitaiStructError
  | exact gv_OSError
  | exact gv_PY2
  | exact gv_SEEK_END
  | exact gv_ValueError
  | exact gv__index
  | exact gv__law_plain_groups
  | exact gv__law_read
  | exact gv__law_round
  | exact gv__law_sextets
  | exact gv__law_text
  | exact gv__law_vectors
  | exact gv__law_write
  | exact gv__whence
  | exact gv_bool
  | exact gv_bytearray
  | exact gv_bytes
  | exact gv_callable
  | exact gv_chr
  | exact gv_getattr
  | exact gv_int
  | exact gv_len
  | exact gv_object
  | exact gv_ord
  | exact gv_range
  | exact gv_str
  | exact gv_super
  | exact gv_type
  | (apply mm_BytesIO__BytesIO__check; walk_at "mini h")
  | (apply mm_BytesIO___init__; walk_at "mini h")
  | (apply mm_BytesIO_read; walk_at "mini h")
  | (apply mm_BytesIO_seek; walk_at "mini h")
  | (apply mm_BytesIO_seekable; walk_at "mini h")
  | (apply mm_BytesIO_tell; walk_at "mini h")
  | (apply mm_BytesIO_write; walk_at "mini h")
  | (apply mm_KaitaiStruct___init__; walk_at "mini h")
  | exact getM_cls cm_KaitaiStruct_from_bytes
  | exact cm2_KaitaiStruct_from_bytes
  | (apply mm_KaitaiStream___init__; walk_at "mini h")
  | (apply mm_KaitaiStream__ensure_bytes_left_to_write; walk_at "mini h")
  | (apply mm_KaitaiStream__read_bytes_not_aligned; walk_at "mini h")
  | (apply mm_KaitaiStream__write_bytes_not_aligned; walk_at "mini h")
  | (apply mm_KaitaiStream_align_to_byte; walk_at "mini h")
  | exact getM_cls cm_KaitaiStream_byte_from_int
  | (apply mm_KaitaiStream_is_eof; walk_at "mini h")
  | (apply mm_KaitaiStream_pos; walk_at "mini h")
  | (apply mm_KaitaiStream_read_bits_int_be; walk_at "mini h")
  | (apply mm_KaitaiStream_read_bytes_full; walk_at "mini h")
  | (apply mm_KaitaiStream_seek; walk_at "mini h")
  | (apply mm_KaitaiStream_size; walk_at "mini h")
  | (apply mm_KaitaiStream_to_byte_array; walk_at "mini h")
  | (apply mm_KaitaiStream_write_align_to_byte; walk_at "mini h")
  | (apply mm_KaitaiStream_write_bits_int_be; walk_at "mini h"))

local macro_rules | `(tactic| walk_at "mini call") => `(tactic| ((with_reducible apply callV_fn fn__index); ((with_reducible apply L_index); (omega); (omega))))
local macro_rules | `(tactic| walk_at "mini call") => `(tactic| ((with_reducible apply callV_fn fn__whence); ((with_reducible apply L_whence); (omega); (omega))))
local macro_rules | `(tactic| walk_at "mini call") => `(tactic| ((with_reducible apply callV_fn fn_KaitaiStream_align_to_byte); ((with_reducible apply L_align); (walk_at "mini h"))))
local macro_rules | `(tactic| walk_at "mini call") => `(tactic| ((with_reducible apply callV_fn fn_BytesIO___check); ((with_reducible apply L_check); (walk_at "mini h"))))
local macro_rules | `(tactic| walk_at "mini call") => `(tactic| ((with_reducible apply callV_fn fn_BytesIO_tell); ((with_reducible apply L_tell); (walk_at "mini h"))))

local macro_rules | `(tactic| walk_at "mini call") => `(tactic| ((with_reducible apply callV_fn fn_BytesIO_seek); first | ((with_reducible apply L_seek2); (walk_at "mini h"); (walk_at "mini h"); (omega)) | ((with_reducible apply L_seek); (walk_at "mini h"); (omega); (omega))))
local macro_rules | `(tactic| walk_at "mini call") => `(tactic| ((with_reducible apply callV_fn fn_KaitaiStream_size); ((with_reducible apply L_size); (walk_at "mini h"); (walk_at "mini h"); (walk_at "mini h"); (walk_at "mini ne"); (omega); (omega); (omega))))
local macro_rules | `(tactic| walk_at "mini call") => `(tactic| ((with_reducible apply callV_fn fn_KaitaiStream_pos); first | ((with_reducible apply L_pos_r); (walk_at "mini h"); (walk_at "mini h")) | ((with_reducible apply L_pos_w0); (walk_at "mini h"); (walk_at "mini h"); (omega)) | ((with_reducible apply L_pos_w1); (walk_at "mini h"); (walk_at "mini h"); (omega))))
local macro_rules | `(tactic| walk_at "mini call") => `(tactic| ((with_reducible apply callV_fn fn_BytesIO_read); ((with_reducible apply L_read); (walk_at "mini h"); (walk_at "mini h"); (omega); (omega); (omega); (omega))))

local macro_rules | `(tactic| walk_at "mini call") => `(tactic| ((with_reducible apply callV_fn fn_KaitaiStream__read_bytes_not_aligned); ((with_reducible apply L_rbna); (walk_at "mini h"); (walk_at "mini h"); (walk_at "mini h"); (omega); (omega); (omega); (omega); (omega))))
local macro_rules | `(tactic| walk_at "mini call") => `(tactic| ((with_reducible apply callV_fn fn_KaitaiStream__ensure_bytes_left_to_write); ((with_reducible apply L_ebl); (walk_at "mini h"); (omega))))
local macro_rules | `(tactic| walk_at "mini call") => `(tactic| ((with_reducible apply callV_fn fn_KaitaiStream_byte_from_int); ((with_reducible apply L_bfi); (omega); (omega))))

def pS (R : List UInt8) : Str := strOf (R.map (·.toNat))
def vecs : List (List UInt8) := [[], [102], [102, 111], [102, 111, 111], [102, 111, 111, 98], [102, 111, 111, 98, 97], [102, 111, 111, 98, 97, 114]]
def vecL : List PV := vecs.map fun R => .tup [.str (pS R), .str (tx R)]
theorem tgt_two {sc : Str → Option NameKind} {x y : Str} {px py pt : Pos} {k : Nat} {m : Vars} {v w : PV} (h1 : localIn sc x = true) (h2 : localIn sc y = true) (h3 : decide (x = y) = false) :
    tgt sc (.Tuple [.Name x px, .Name y py] k pt) m (.tup [v, w]) = some ((m.set x v).set y w) := by
  unfold tgt; dsimp only; rw [if_pos (by rw [h1, h2]; simpa using h3)]
section
variable {P : Params} {ns : List Int} {σ : PH} {α β γ ch ρ τ : Nat} {io : Nat} {bl b sz v p : Int} {le wm lv : Bool} {buf : Array UInt8} {d : Nat}
set_option maxHeartbeats 8000000
theorem L_vec : callF (W0 P ns) (d + 1) 1122 [] σ = .ok (.obj σ.length) (σ ++ [.list vecL]) := by
  apply callF_to [] fn__law_vectors (by rfl) (by rfl)
  repeat (walk_at "mini")
  have : vecL = _ := rfl
  congr 2
theorem vec_ok : ∀ R ∈ vecs, R.length ≤ 6 := by decide
theorem L_law (hn : ns.length ≤ 63) : Runs (W0 P ns) (d + 10) 1167 [.scr] [] (fun v σ' => v = .bool true) := by
  have hV := L_vec (P := P) (ns := ns) (d := d + 8) (σ := [])
  apply does_def [("script", .scr)] fn_law (by rfl) (by rfl)
  apply ok_st
  apply ok_for (S := .lst 0 7) (I := fun i m s => m "script" = some .scr ∧ s[0]? = some (.list vecL))
  · rfl
  · repeat (walk_at "mini")
  · rfl
  · exact ⟨by walk_at "mini v", rfl⟩
  · intro m s ⟨_, e1⟩
    unfold Src.get Src.len; dsimp only; rw [e1]; rfl
  · intro i m s hi ⟨w1, e1⟩
    have hi : i < vecs.length := hi
    obtain ⟨R, hR⟩ : ∃ R, vecs[i]? = some R := ⟨_, List.getElem?_eq_getElem hi⟩
    have h6 := vec_ok R (List.mem_of_getElem? hR)
    refine ⟨.tup [.str (pS R), .str (tx R)], _, ?_, tgt_two (by decide +kernel) (by decide +kernel) (by decide +kernel), ?_⟩
    · unfold Src.get; dsimp only; rw [e1]; dsimp only
      unfold vecL
      rw [List.getElem?_map, hR]; rfl
    · apply ok_step
      · apply x_asgN
        · decide +kernel
        apply r_comp
        · rfl
        · repeat (walk_at "mini")
        · apply compW_fix (is := (R.map (·.toNat)).map fun c => .str ⟨#[c]⟩) (ws := R.map fun c => .int (c.toNat : Nat))
          · rfl
          · exact sz_ok (by simp; omega)
          · simp
          · intro j v w h1 h2
            rw [List.getElem?_map, List.getElem?_map] at h1
            rw [List.getElem?_map] at h2
            cases hj : R[j]? with
            | none => rw [hj] at h1; cases h1
            | some c =>
              rw [hj] at h1 h2
              cases h1; cases h2
              repeat (walk_at "mini")
              exact b_ord (x := ⟨#[c.toNat]⟩) rfl
      have hlm : (R.map fun c => PV.int (c.toNat : Nat)).length = R.length := List.length_map ..
      obtain ⟨v, s1, c1, τ, rfl, t1, _, k1⟩ := L_lread (P := P) (ns := ns) (d := d + 1) (R := R) (by omega) (h_new (σ := s) (o := rowO R))
      have hρ1 := k1 _ _ (by simp) (h_new (σ := s) (o := rowO R))
      obtain ⟨v, s1', c2, rfl, rfl⟩ := L_text (P := P) (ns := ns) (d := d + 8) (R := R) (by omega) t1
      rw [← hlm] at c2
      obtain ⟨v, s2, c3, rfl, k2⟩ := L_round (P := P) (ns := ns) (d := d) (R := R) (by omega) hρ1
      repeat (walk_at "mini s")
      exact ⟨rfl, by walk_at "mini v", k2 _ _ (by simp) (k1 _ _ (by simp) (h_app e1))⟩
  · intro m s ⟨w1, e1⟩
    have hn' : (W0 P ns).ns.length ≤ 63 := hn
    have el : ∀ (n : Int), (((UInt8.ofNat (n % 256).toNat).toNat : Nat) : Int) = n % 256 := fun n => by
      have h1 := Int.emod_nonneg n (show (256 : Int) ≠ 0 by decide)
      have h2 := Int.emod_lt_of_pos n (show (0 : Int) < 256 by decide)
      rw [UInt8.toNat_ofNat', Nat.mod_eq_of_lt (by omega)]; omega
    apply ok_beh
    apply ok_step
    · apply x_asgN
      · decide +kernel
      apply r_comp
      · rfl
      · repeat (walk_at "mini")
      · apply compW_lst (is := (ns.take 20).map .int) (ws := ((ns.take 20).map fun n => UInt8.ofNat (n % 256).toNat).map fun c => .int (c.toNat : Nat))
        · exact h_new
        · exact sz_ok (by simp; omega)
        · simp
        · intro j v w h1 h2
          rw [List.getElem?_map] at h1
          rw [List.getElem?_map, List.getElem?_map] at h2
          cases hj : (ns.take 20)[j]? with
          | none => rw [hj] at h1; cases h1
          | some c =>
            rw [hj] at h1 h2
            cases h1; cases h2
            show ev _ _ _ _ _ _ _ = R.ok (PV.int (((UInt8.ofNat (c % 256).toNat).toNat : Nat) : Int)) _
            rw [el]
            repeat (walk_at "mini")
    generalize hs1 : s ++ [PO.list (List.map PV.int (List.take (Int.toNat 20) (W0 P ns).ns))] = s1
    generalize hR1 : (ns.take 20).map (fun n => UInt8.ofNat (n % 256).toNat) = R1
    have l1 : R1.length ≤ 100 := by rw [← hR1]; simp; omega
    have e2 : (s1 ++ [rowO R1])[s1.length]? = some (rowO R1) := h_new
    obtain ⟨v, s2, c1, rfl, k1⟩ := L_round (P := P) (ns := ns) (d := d) (R := R1) (by omega) e2
    have e3 := k1 _ _ (by simp) e2
    walk_at "mini s"
    apply ok_step
    · apply x_asgN
      · decide +kernel
      apply r_comp
      · rfl
      · repeat (walk_at "mini")
      · apply compW_lst (is := (ns.take 10).map .int) (ws := ((ns.take 10).map fun n => UInt8.ofNat (n / 256 % 256).toNat).map fun c => .int (c.toNat : Nat))
        · exact h_new
        · exact sz_ok (by simp; omega)
        · simp
        · intro j v w h1 h2
          rw [List.getElem?_map] at h1
          rw [List.getElem?_map, List.getElem?_map] at h2
          cases hj : (ns.take 10)[j]? with
          | none => rw [hj] at h1; cases h1
          | some c =>
            rw [hj] at h1 h2
            cases h1; cases h2
            show ev _ _ _ _ _ _ _ = R.ok (PV.int (((UInt8.ofNat (c / 256 % 256).toNat).toNat : Nat) : Int)) _
            rw [el]
            repeat (walk_at "mini")
    generalize hs3 : s2 ++ [PO.list (List.map PV.int (List.take (Int.toNat 10) (W0 P ns).ns))] = s3
    generalize hR2 : (ns.take 10).map (fun n => UInt8.ofNat (n / 256 % 256).toNat) = R2
    have l2 : R2.length ≤ 100 := by rw [← hR2]; simp; omega
    have e4 : (s3 ++ [rowO R2])[s3.length]? = some (rowO R2) := h_new
    have e5 : (s3 ++ [rowO R2])[s1.length]? = some (rowO R1) := by rw [← hs3]; exact h_app (h_app e3)
    obtain ⟨v, s4, c2, rfl, k2⟩ := L_round (P := P) (ns := ns) (d := d) (R := R2) (by omega) e4
    have e6 := k2 _ _ (by simp) e4
    have e7 := k2 _ _ (by simp) e5
    have e8 : (s4 ++ [PO.list (R1.map (fun c => PV.int (c.toNat : Nat)) ++ R2.map (fun c => PV.int (c.toNat : Nat)))])[s4.length]? = some (rowO (R1 ++ R2)) := by rw [h_new, ← List.map_append]
    obtain ⟨v, s5, c3, rfl, k3⟩ := L_round (P := P) (ns := ns) (d := d) (R := R1 ++ R2) (by simp; omega) e8
    have hz : sizeOk ((R1.map (fun c => PV.int (c.toNat : Nat))).length + (R2.map (fun c => PV.int (c.toNat : Nat))).length) = true := sz_ok (by simp; omega)
    walk_at "mini r"
    rfl
end

end Mine
end
/-! part W4_br5014_04 -/
section
open PySem PySem.W PySem.Calls PyProof.Rows
namespace Mine
theorem walk_law {q : Program} {loose : List Str} {XP : (Str → Option Value) → Heap → Prop} {YP : World → Heap → Prop} {dd : DefRec} {kwd : List (Str × Expr)} (hYP : ∀ w h, YP w h → (kap w.params).In h) (hd : dd.name = Str.ofString "law") :
    WalkG q loose XP YP PySem.Challenge.rw_br5014_04.row.toRowW dd kwd := by
  refine law_walk (K := kap) (own := [322]) (fL := 1167) (D := 9) rfl hYP (fun P => ?_) (fun P C hC M h X => ?_) (fun P oc od fd sl hl => ?_) (fun P ns hn => ?_) (by decide)
  · rw [hd]; kernel_rfl
  · obtain rfl := List.mem_singleton.mp hC
    exact Looks.of_peek X (by kernel_rfl)
  · obtain ⟨oc', od', sl', e⟩ := (fn_law (P := P) (ns := [])).at_
    have e' : (kap P).lookup 1167 = some ⟨oc', od', .func f_law, sl'⟩ := e
    rw [e'] at hl
    cases hl
    exact ⟨by kernel_rfl, by kernel_rfl⟩
  · obtain ⟨v, σ', h, rfl⟩ := L_law (P := P) (ns := ns) (d := 0) hn
    exact ⟨σ', h⟩

end Mine
end
section
open PySem PySem.W PySem.Calls PyProof.Rows
namespace Mine
def fin04.tw1973968697149480050 := ()
def fin04.tw5942467292414857508 := ()
def fin04.tw775340359740293124 := ()
def fin04.tw2599395550111683600 := ()
def fin04.tw12276274309431956205 := ()
def fin04.tw2000430076346302441 := ()
def fin04.tw6102322322012848109 := ()
def fin04.tw6997546443904095192 := ()
def fin04.tw8711313039364674567 := ()
def fin04.tw11375576331037973318 := ()
def fin04.tw4523957349899868808 := ()
def fin04.tw707454655291958086 := ()
def fin04.tw17333006061948910267 := ()
def fin04.tw12705320699104319289 := ()
def fin04.tw8639510345559217046 := ()
def fin04.tw8652102301963331883 := ()
def fin04.tw17231518767837678385 := ()
def fin04.tw14906132066238959333 := ()
def fin04.tw10864279842101292271 := ()
def fin04.tw5983865873418358746 := ()
def fin04.tw12528792023854961621 := ()
def fin04.tw13721678276614160903 := ()
def fin04.tw3582794757697023361 := ()
def fin04.tw5706831814321504803 := ()
def fin04.tw14338991594519163328 := ()
set_option Elab.async true in
set_option maxHeartbeats 0 in
theorem fin04 : PySem.Challenge.rw_br5014_04.Holds := by
  w_on; o_law; o_head (kHook kap kas (fun _ => by kernel_rfl)); (case hw => w_witness2)
  exact walk_law (fun _ _ y => y) rfl
end Mine
end
theorem PySem.Challenge.cw_br5014_04_holds : PySem.Challenge.rw_br5014_04.Holds := by
  exact Mine.fin04
