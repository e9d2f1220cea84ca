import PyProof.Rows.All
import Wide.All
import OpenK.AllK
import Wide.FinOn
import KE.KIntText
import KE.KDictSum
import KE.KItemsList
import KE.KEqDict
import PySem.Challenge.RW_dn0264_12
set_option Elab.async false
set_option linter.all false

section
open PySem
set_option Elab.async false
namespace Mine

/-! The abstract semantics. -/

inductive V where
  | dat (d : PyData)
  | obj (i : Nat)
  | rng (lo hi : Int)
  | emp

inductive AObj where
  | lst (ds : List PyData)
  | frz (ds : List PyData)
  | inst (l : Option Nat)
  | dctS (kvs : List (Str × PyData))
  | dctI (kvs : List (Int × PyData))

structure St where
  loc : Str → Option V
  heap : List AObj

noncomputable def M (α : Type) : Type := St → Option (α × St)

noncomputable def mpure {α : Type} (a : α) : M α := fun σ => some (a, σ)
noncomputable def mbind {α β : Type} (m : M α) (f : α → M β) : M β := fun σ => match m σ with
  | none => none
  | some (a, σ') => f a σ'
noncomputable instance : Monad M where
  pure := mpure
  bind := mbind

noncomputable def mfail {α : Type} : M α := fun _ => none
noncomputable def mopt {α : Type} (o : Option α) : M α := fun σ => o.map (·, σ)
noncomputable def mguard (b : Bool) : M Unit := fun σ => if b then some ((), σ) else none

noncomputable def upd (l : Str → Option V) (x : Str) (v : V) : Str → Option V := fun y => if y = x then some v else l y

noncomputable def getLoc (x : Str) : M V := fun σ => (σ.loc x).map (·, σ)
noncomputable def setLoc (x : Str) (v : V) : M Unit := fun σ => some ((), ⟨upd σ.loc x v, σ.heap⟩)
noncomputable def setObj (i : Nat) (o : AObj) : M Unit := fun σ => if i < σ.heap.length then some ((), ⟨σ.loc, σ.heap.set i o⟩) else none
noncomputable def newObj (o : AObj) : M V := fun σ => some (.obj σ.heap.length, ⟨σ.loc, σ.heap ++ [o]⟩)

inductive Fl where
  | next | brk | cont
  | ret (v : V)

/-- an object's reading as data -/
noncomputable def readD : V → M PyData
  | .dat d => mpure d
  | .obj i => fun σ => match σ.heap[i]? with
    | some (.lst ds) => some (.list ds, σ)
    | some (.frz ds) => some (.list ds, σ)
    | _ => none
  | .rng _ _ => mfail
  | .emp => mfail

noncomputable def asDat : V → M PyData
  | .dat d => mpure d
  | _ => mfail

noncomputable def allDat : List V → Option (List PyData)
  | [] => some []
  | .dat d :: r => (allDat r).map (d :: ·)
  | _ :: _ => none

/-- printable signs -/
noncomputable def pc (c : Nat) : Bool := 32 ≤ c && c < 127
noncomputable def asc (x : Str) : Bool := x.cps.toList.all pc

noncomputable def lowC (c : Nat) : Nat := if 65 ≤ c && c ≤ 90 then c + 32 else c
noncomputable def upC (c : Nat) : Nat := if 97 ≤ c && c ≤ 122 then c - 32 else c
noncomputable def swC (c : Nat) : Nat := if 65 ≤ c && c ≤ 90 then c + 32 else if 97 ≤ c && c ≤ 122 then c - 32 else c
noncomputable def mapS (f : Nat → Nat) (x : Str) : Str := ⟨(x.cps.toList.map f).toArray⟩
noncomputable def low (x : Str) : Str := mapS lowC x
noncomputable def up (x : Str) : Str := mapS upC x
noncomputable def sw (x : Str) : Str := mapS swC x

noncomputable def big : Nat := 1000000

noncomputable def truthD : PyData → Option Bool
  | .none => some false
  | .bool b => some b
  | .int i => some (i != 0)
  | .str x => if x.length ≤ big then some (x.length != 0) else none
  | .list ds => if ds.length ≤ big then some (ds.length != 0) else none
  | _ => none

noncomputable def truthS (v : V) : M Bool := do
  let d ← readD v
  mopt (truthD d)

noncomputable def addD : PyData → PyData → Option PyData
  | .int i, .int j => some (.int (i + j))
  | .str x, .str y => if x.length + y.length ≤ big then some (.str (x ++ y)) else none
  | _, _ => none
noncomputable def intD (f : Int → Int → Option Int) : PyData → PyData → Option PyData
  | .int i, .int j => (f i j).map .int
  | _, _ => none
noncomputable def mulI (i j : Int) : Option Int := if i.natAbs < 2 ^ 31 ∧ j.natAbs < 2 ^ 31 then some (i * j) else none
noncomputable def fdivI (i j : Int) : Option Int := if j ≠ 0 ∧ j.natAbs < 2 ^ 30 then some (i.fdiv j) else none
noncomputable def modI (i j : Int) : Option Int := if j ≠ 0 then some (i.fmod j) else none
noncomputable def binD (op : Operator) (a b : PyData) : Option PyData := match op with
  | .Add => addD a b
  | .Sub => intD (fun i j => some (i - j)) a b
  | .Mult => intD mulI a b
  | .FloorDiv => intD fdivI a b
  | .Mod => intD modI a b
  | _ => none

/-- what is a new list -/
noncomputable def binL : Operator → PyData → PyData → Option (List PyData)
  | .Add, .list xs, .list ys => if xs.length + ys.length ≤ big then some (xs ++ ys) else none
  | _, _, _ => none

noncomputable def binS (op : Operator) (a b : V) : M V := do
  let x ← readD a
  let y ← readD b
  match binD op x y with
  | some d => pure (.dat d)
  | none => do
    let ds ← mopt (binL op x y)
    pure (.dat (.list ds))

noncomputable def eqD (a b : PyData) : Option Bool := if min a.depth b.depth ≤ 50 then some (PyData.eqv a b) else none
noncomputable def neD (a b : PyData) : Option Bool := if min a.depth b.depth ≤ 50 then some (!PyData.eqv a b) else none
noncomputable def ltD : PyData → PyData → Option Bool
  | .int i, .int j => some (decide (i < j))
  | .str x, .str y => some (decide (x.cps.toList < y.cps.toList))
  | _, _ => none
noncomputable def leD : PyData → PyData → Option Bool
  | .int i, .int j => some (decide (i ≤ j))
  | .str x, .str y => some (!decide (y.cps.toList < x.cps.toList))
  | _, _ => none
noncomputable def gtD : PyData → PyData → Option Bool
  | .int i, .int j => some (decide (j < i))
  | .str x, .str y => some (decide (y.cps.toList < x.cps.toList))
  | _, _ => none
noncomputable def geD : PyData → PyData → Option Bool
  | .int i, .int j => some (decide (j ≤ i))
  | .str x, .str y => some (!decide (x.cps.toList < y.cps.toList))
  | _, _ => none
noncomputable def inStr (x y : Str) (f : Bool → Bool) : Option Bool := match x.cps.toList with
  | [c] => some (f (decide (c ∈ y.cps.toList)))
  | _ => none
noncomputable def inLst (a : PyData) (ds : List PyData) (f : Bool → Bool) : Option Bool := if a.depth ≤ 50 then some (f (ds.any fun d => PyData.eqv d a)) else none
noncomputable def inD (f : Bool → Bool) : PyData → PyData → Option Bool
  | .str x, .str y => inStr x y f
  | a, .list ds => inLst a ds f
  | _, _ => none
noncomputable def noneD : PyData → Bool
  | .none => true
  | _ => false
noncomputable def isD (f : Bool → Bool) (a : PyData) : PyData → Option Bool
  | .none => some (f (noneD a))
  | _ => none
noncomputable def cmpD (op : CmpOp) (a b : PyData) : Option Bool := match op with
  | .Eq => eqD a b
  | .NotEq => neD a b
  | .Lt => ltD a b
  | .LtE => leD a b
  | .Gt => gtD a b
  | .GtE => geD a b
  | .In => inD id a b
  | .NotIn => inD not a b
  | .Is => isD id a b
  | .IsNot => isD not a b

/-! scopes -/
noncomputable def okV (n : Nat) : V → Bool
  | .obj i => decide (i < n)
  | _ => true
noncomputable def okO (n : Nat) : AObj → Bool
  | .inst (some l) => decide (l < n)
  | _ => true
noncomputable def cutM (n : Nat) (σ : St) : Option St :=
  if (σ.heap.take n).all (okO n) then some ⟨fun x => (σ.loc x).filter (okV n), σ.heap.take n⟩ else none
noncomputable def okF (n : Nat) : Fl → Bool
  | .ret v => okV n v
  | _ => true

noncomputable def scopeM (m : M Fl) : M Fl := fun σ => match m σ with
  | none => none
  | some (f, σ') => if okF σ.heap.length f then (cutM σ.heap.length σ').map (f, ·) else none

noncomputable def forS (bind : V → M Unit) (body : M Fl) : List V → M Fl
  | [] => mpure .next
  | v :: vs => fun σ => match scopeM (do bind v; body) σ with
    | none => none
    | some (.brk, σ') => some (.next, σ')
    | some (.ret r, σ') => some (.ret r, σ')
    | some (_, σ') => forS bind body vs σ'

noncomputable def vis (sc : Scope) (l : Str → Option V) : Str → Option V := fun x => if sc.names.lookup x = some .free then l x else none

noncomputable def allS : List (M Bool) → M Bool
  | [] => mpure true
  | t :: r => do
    let b ← t
    if b then allS r else mpure false

noncomputable def compGo (bind : V → M Unit) (tests : List (M Bool)) (elt : M V) : List V → M (List PyData)
  | [] => mpure []
  | v :: vs => fun σ => match (do
        bind v
        let ok ← allS tests
        if ok then (do let x ← elt; let d ← asDat x; mpure (some d)) else mpure none : M (Option PyData)) σ with
    | none => none
    | some (r, σ') => match cutM σ.heap.length σ' with
      | none => none
      | some σ₁ => match compGo bind tests elt vs σ₁ with
        | none => none
        | some (ds, σ₂) => some (r.toList ++ ds, σ₂)

noncomputable def compS (sc : Scope) (bind : V → M Unit) (tests : List (M Bool)) (elt : M V) (items : List V) : M (List PyData) := fun σ =>
  match compGo bind tests elt items ⟨vis sc σ.loc, σ.heap⟩ with
  | none => none
  | some (ds, σ') => if ds.length ≤ big then some (ds, ⟨σ.loc, σ'.heap⟩) else none

noncomputable def bindP (ps : List Str) (vs : List V) : Str → Option V := fun x => (ps.zip vs).lookup x

noncomputable def retV : Fl → V
  | .ret v => v
  | _ => .dat .none

noncomputable def callB (ps : List Str) (body : M Fl) (vs : List V) : M V := fun σ =>
  if ps.length = vs.length then match body ⟨bindP ps vs, σ.heap⟩ with
    | none => none
    | some (f, σ') => match (if okV σ.heap.length (retV f) then cutM σ.heap.length σ' else none) with
      | some σ₁ => some (retV f, ⟨σ.loc, σ₁.heap⟩)
      | none => some (retV f, ⟨σ.loc, σ'.heap⟩)
  else none

/-- a loop over an object's list: it is frozen meanwhile -/
noncomputable def frozenG {α : Type} (i : Nat) (m : List PyData → M α) : M α := fun σ => match σ.heap[i]? with
  | some (.lst ds) => (match m ds ⟨σ.loc, σ.heap.set i (.frz ds)⟩ with
    | none => none
    | some (f, σ') => some (f, ⟨σ'.loc, σ'.heap.set i (.lst ds)⟩))
  | some (.frz ds) => m ds σ
  | _ => none

noncomputable def smallR (lo hi : Int) : Bool := decide (lo.natAbs ≤ 2 ^ 40 ∧ hi.natAbs ≤ 2 ^ 40 ∧ (hi - lo).toNat ≤ big)
noncomputable def chars (x : Str) : List PyData := x.cps.toList.map fun c => .str ⟨#[c]⟩
noncomputable def intsD (lo hi : Int) : List PyData := (List.range (hi - lo).toNat).map fun (k : Nat) => .int (lo + (k : Int))

/-- what a loop takes from data -/
noncomputable def itemsD : PyData → Option (List PyData)
  | .list ds => some ds
  | .tuple ds => some ds
  | .str x => some (chars x)
  | _ => none

noncomputable def walkV {α : Type} (m : List V → M α) : V → M α
  | .dat d => match itemsD d with
    | some ds => m (ds.map .dat)
    | none => mfail
  | .rng lo hi => if smallR lo hi = true then m ((intsD lo hi).map .dat) else mfail
  | .emp => mfail
  | .obj i => frozenG i fun ds => m (ds.map .dat)

noncomputable def forV (bind : V → M Unit) (body : M Fl) : V → M Fl := walkV (forS bind body)
noncomputable def compV (sc : Scope) (bind : V → M Unit) (tests : List (M Bool)) (elt : M V) : V → M (List PyData) := walkV (compS sc bind tests elt)

/-! calls -/
structure Prm where
  fn : Str → List V → M V
  mt : Str → V → List V → List (Str × V) → M V
  make : List V → M V
  fuel : Nat

noncomputable def constS : Const → M V
  | .none => mpure (.dat .none)
  | .bool b => mpure (.dat (.bool b))
  | .int i => mpure (.dat (.int i))
  | .str x => if asc x then mpure (.dat (.str x)) else mfail
  | _ => mfail

noncomputable def dbg : Str := Str.ofString "__debug__"
noncomputable def nameS (x : Str) : M V := if x = dbg then mpure (.dat (.bool true)) else getLoc x

noncomputable def seqS : List (M V) → M (List V)
  | [] => mpure []
  | m :: r => do
    let v ← m
    let vs ← seqS r
    mpure (v :: vs)

noncomputable def boolS (op : BoolOp) : List (M V) → M V
  | [] => mfail
  | [m] => m
  | m :: r => do
    let v ← m
    let t ← truthS v
    match op, t with
    | .And, false => mpure v
    | .Or, true => mpure v
    | _, _ => boolS op r

noncomputable def isInst (v : V) (σ : St) : Bool := match v with
  | .obj i => (match σ.heap[i]? with | some (.inst _) => true | _ => false)
  | _ => false

noncomputable def cmpS (P : Prm) (op : CmpOp) (a b : V) : M V := fun σ =>
  if isInst b σ then (match op with
    | .In => (do
        let r ← P.mt (Str.ofString "__contains__") b [a] []
        let t ← truthS r
        mpure (.dat (.bool t)) : M V) σ
    | _ => none)
  else (do
    let x ← readD a
    let y ← readD b
    let r ← mopt (cmpD op x y)
    mpure (.dat (.bool r)) : M V) σ

noncomputable def itemD : PyData → PyData → Option PyData
  | .str x, .int i => ((seqIndex? i x.length).bind (x.cps[·]?)).map fun c => .str ⟨#[c]⟩
  | .list ds, .int i => (seqIndex? i ds.length).bind (ds[·]?)
  | .tuple ds, .int i => (seqIndex? i ds.length).bind (ds[·]?)
  | _, _ => none

noncomputable def smallI : PyData → Bool
  | .int i => decide (-(2 ^ 40) ≤ i ∧ i ≤ 2 ^ 40)
  | _ => false

noncomputable def itemS (P : Prm) (o i : V) : M V := fun σ =>
  if isInst o σ then P.mt (Str.ofString "__getitem__") o [i] [] σ
  else (do
    let x ← readD o
    let y ← asDat i
    mguard (smallI y)
    let d ← mopt (itemD x y)
    mpure (.dat d) : M V) σ


/-- a text's method without arguments -/
noncomputable def strF (f : Str → Str) : V → M V
  | .dat (.str x) => if x.length ≤ big then mpure (.dat (.str (f x))) else mfail
  | _ => mfail

noncomputable def isLst (v : V) (σ : St) : Bool := match v with
  | .obj i => (match σ.heap[i]? with | some (.lst _) => true | _ => false)
  | _ => false
noncomputable def lstG (v : V) : M Unit := fun σ => if isLst v σ then some ((), σ) else none
noncomputable def instG (v : V) : M Unit := fun σ => if isInst v σ then some ((), σ) else none

/-- a list's method: the answer and the list behind it -/
noncomputable def lstF (F : List PyData → List V → Option (PyData × List PyData)) (v : V) (vs : List V) : M V := fun σ => match v with
  | .obj i => (match σ.heap[i]? with
    | some (.lst ds) => if ds.length ≤ big then (F ds vs).map fun r => (.dat r.1, ⟨σ.loc, σ.heap.set i (.lst r.2)⟩) else none
    | _ => none)
  | _ => none
noncomputable def appF (ds : List PyData) : List V → Option (PyData × List PyData)
  | [.dat d] => some (.none, ds ++ [d])
  | _ => none
noncomputable def lenD : PyData → Option Nat
  | .str x => some x.length
  | .list ds => some ds.length
  | .tuple ds => some ds.length
  | _ => none

noncomputable def lenS (P : Prm) (v : V) : M V := fun σ =>
  if isInst v σ then (do
    let r ← P.mt (Str.ofString "__len__") v [] []
    match r with
    | .dat (.int n) => if 0 ≤ n ∧ n ≤ big then mpure (.dat (.int n)) else mfail
    | _ => mfail : M V) σ
  else (do
    let d ← readD v
    let n ← mopt (lenD d)
    mguard (decide (n ≤ big))
    mpure (.dat (.int n)) : M V) σ

noncomputable def strI (i : Int) : Str := Str.ofString (toString i)

/-- built-in functions -/
noncomputable def lenB (P : Prm) : List V → M V
  | [v] => lenS P v
  | _ => mfail
noncomputable def strB : List V → M V
  | [.dat (.int i)] => if i.natAbs < 10 ^ 100 then mpure (.dat (.str (strI i))) else mfail
  | _ => mfail
noncomputable def rangeB : List V → M V
  | [.dat (.int n)] => if n.natAbs < 2 ^ 40 then mpure (.rng 0 n) else mfail
  | [.dat (.int m), .dat (.int n)] => if m.natAbs < 2 ^ 40 ∧ n.natAbs < 2 ^ 40 then mpure (.rng m n) else mfail
  | _ => mfail

noncomputable def typeN : V → M Str
  | .dat (.str _) => mpure (Str.ofString "str")
  | .dat (.list _) => mpure (Str.ofString "list")
  | .dat (.int _) => mpure (Str.ofString "int")
  | .dat .none => mpure (Str.ofString "NoneType")
  | .obj i => fun σ => match σ.heap[i]? with
    | some (.lst _) => some (Str.ofString "list", σ)
    | some (.frz _) => some (Str.ofString "list", σ)
    | _ => none
  | _ => mfail

noncomputable def clampI (k : Int) (n : Nat) : Nat := if k < 0 then (k + n).toNat else min k.toNat n

/-- a slice by ones; none for a missing end -/
noncomputable def loN (lo : Option Int) (n : Nat) : Nat := match lo with | none => 0 | some k => clampI k n
noncomputable def hiN (hi : Option Int) (n : Nat) : Nat := match hi with | none => n | some k => clampI k n
noncomputable def cutD (lo hi : Option Int) : PyData → Option PyData
  | .list ds => if ds.length ≤ big then some (.list ((ds.take (hiN hi ds.length)).drop (loN lo ds.length))) else none
  | .str x => if x.length ≤ big then some (.str ⟨((x.cps.toList.take (hiN hi x.length)).drop (loN lo x.length)).toArray⟩) else none
  | _ => none

noncomputable def boundS : Option V → Option (Option Int)
  | none => some none
  | some (.dat (.int i)) => if -(2 ^ 40) ≤ i ∧ i ≤ 2 ^ 40 then some (some i) else none
  | _ => none

noncomputable def listS (_ : Prm) (ms : List (M V)) : M (List PyData) := do
  let vs ← seqS ms
  let ds ← mopt (allDat vs)
  mguard (decide (ds.length ≤ big))
  mpure ds

noncomputable def kwS : List (Str × M V) → M (List (Str × V))
  | [] => mpure []
  | (n, m) :: r => do
    let v ← m
    let vs ← kwS r
    mpure ((n, v) :: vs)

noncomputable def optS : Option (M V) → M (Option V)
  | none => mpure none
  | some m => do
    let v ← m
    mpure (some v)

noncomputable def allTS (op : BoolOp) : List (M Bool) → M Bool
  | [] => mpure (op == .And)
  | m :: r => do
    let b ← m
    match op, b with
    | .And, false => mpure false
    | .Or, true => mpure true
    | _, _ => allTS op r

noncomputable def attrS (o : V) (name : Str) : M V := fun σ => match o with
  | .obj i => (match σ.heap[i]? with
    | some (.inst (some l)) => if name = Str.ofString "_headers" then some (.obj l, σ) else none
    | _ => none)
  | _ => none

noncomputable def sliceS (o : V) (lo hi : Option V) : M V := do
  let d ← readD o
  let a ← mopt (boundS lo)
  let b ← mopt (boundS hi)
  let r ← mopt (cutD a b d)
  mpure (.dat r)

noncomputable def setAttrS (o : V) (name : Str) (v : V) : M Unit := fun σ => match o, v with
  | .obj i, .obj l => (match σ.heap[i]?, σ.heap[l]? with
    | some (.inst none), some (.lst _) => if name = Str.ofString "_headers" then some ((), ⟨σ.loc, σ.heap.set i (.inst (some l))⟩) else none
    | _, _ => none)
  | _, _ => none

noncomputable def setItemS (P : Prm) (o i v : V) : M Unit := fun σ =>
  if isInst o σ then (do
    let _ ← P.mt (Str.ofString "__setitem__") o [i, v] []
    mpure () : M Unit) σ
  else match o, i, v with
    | .obj l, .dat (.int k), .dat d => (match σ.heap[l]? with
      | some (.lst ds) => if 0 ≤ k ∧ k < ds.length ∧ ds.length ≤ big then some ((), ⟨σ.loc, σ.heap.set l (.lst (ds.set k.toNat d))⟩) else none
      | _ => none)
    | _, _, _ => none

/-- xs[:] = ys -/
noncomputable def setAllS (o v : V) : M Unit := fun σ => match o with
  | .obj l => (match σ.heap[l]?, v with
    | some (.lst ds), .dat (.list es) => if ds.length + es.length ≤ big then some ((), ⟨σ.loc, σ.heap.set l (.lst es)⟩) else none
    | _, _ => none)
  | _ => none

noncomputable def delItemS (P : Prm) (o i : V) : M Unit := fun σ =>
  if isInst o σ then (do
    let _ ← P.mt (Str.ofString "__delitem__") o [i] []
    mpure () : M Unit) σ
  else none

end Mine
end

section
open PySem
set_option Elab.async false
namespace Mine

structure Cx where
  prog : Program
  w : World
  base : Heap
  C : Addr
  K : W.Frag
  mg : Str → Option Value
  mb : Str → Option Value

mutual
noncomputable def DR (h : Heap) (ok : Addr → Prop) : PyData → Value → Prop
  | .none, v => v = .none
  | .bool b, v => v = .bool b
  | .int i, v => ∃ t, v = .int i t
  | .str x, v => asc x = true ∧ ∃ t, v = .str x t
  | .list xs, v => ∃ a o vs n, v = .ref a ∧ ok a ∧ h.get? a = some o ∧ o.cls = .type "list" ∧ o.data = .seq vs n ∧ DRs h ok xs vs.toList
  | .tuple xs, v => ∃ a o vs n, v = .ref a ∧ ok a ∧ h.get? a = some o ∧ o.cls = .type "tuple" ∧ o.data = .seq vs n ∧ DRs h ok xs vs.toList
  | .dict _, _ => False
noncomputable def DRs (h : Heap) (ok : Addr → Prop) : List PyData → List Value → Prop
  | [], vs => vs = []
  | x :: xs, vs => ∃ v r, vs = v :: r ∧ DR h ok x v ∧ DRs h ok xs r
end

mutual
theorem DR.mono {h h' : Heap} {ok ok' : Addr → Prop} (k : ∀ a o, ok a → h.get? a = some o → h'.get? a = some o ∧ ok' a) :
    ∀ {d : PyData} {v : Value}, DR h ok d v → DR h' ok' d v
  | .none, _, e => by simp only [DR] at e ⊢; exact e
  | .bool _, _, e => by simp only [DR] at e ⊢; exact e
  | .int _, _, e => by simp only [DR] at e ⊢; exact e
  | .str _, _, e => by simp only [DR] at e ⊢; exact e
  | .list _, _, e => by
    simp only [DR] at e ⊢
    obtain ⟨a, o, vs, n, rfl, h1, h2, h3, h4, h5⟩ := e
    exact ⟨a, o, vs, n, rfl, (k a o h1 h2).2, (k a o h1 h2).1, h3, h4, DRs.mono k h5⟩
  | .tuple _, _, e => by
    simp only [DR] at e ⊢
    obtain ⟨a, o, vs, n, rfl, h1, h2, h3, h4, h5⟩ := e
    exact ⟨a, o, vs, n, rfl, (k a o h1 h2).2, (k a o h1 h2).1, h3, h4, DRs.mono k h5⟩
  | .dict _, _, e => by simp only [DR] at e
theorem DRs.mono {h h' : Heap} {ok ok' : Addr → Prop} (k : ∀ a o, ok a → h.get? a = some o → h'.get? a = some o ∧ ok' a) :
    ∀ {ds : List PyData} {vs : List Value}, DRs h ok ds vs → DRs h' ok' ds vs
  | [], _, e => by simp only [DRs] at e ⊢; exact e
  | _ :: _, _, e => by
    simp only [DRs] at e ⊢
    obtain ⟨v, r, rfl, h1, h2⟩ := e
    exact ⟨v, r, rfl, DR.mono k h1, DRs.mono k h2⟩
end

/-- the plain reading, for the library's rules -/
theorem strOk_of_asc {x : Str} (h : asc x = true) : PyData.strOk x = true := by
  unfold asc at h
  unfold PyData.strOk
  rw [← Array.all_toList]
  rw [List.all_eq_true] at h ⊢
  intro c hc
  have := h c hc
  unfold pc at this
  simp only [Bool.and_eq_true, decide_eq_true_eq] at this ⊢
  omega

mutual
theorem DR.reads {h : Heap} {ok : Addr → Prop} : ∀ {d : PyData} {v : Value}, DR h ok d v → (∃ as, Reads h v d as) ∧ d.canLay0 = true
  | .none, _, e => by simp only [DR] at e; subst e; exact ⟨⟨_, .none⟩, by simp [PyData.canLay0]⟩
  | .bool _, _, e => by simp only [DR] at e; subst e; exact ⟨⟨_, .bool _⟩, by simp [PyData.canLay0]⟩
  | .int _, _, e => by simp only [DR] at e; obtain ⟨t, rfl⟩ := e; exact ⟨⟨_, .int _ _⟩, by simp [PyData.canLay0]⟩
  | .str _, _, e => by simp only [DR] at e; obtain ⟨q, t, rfl⟩ := e; exact ⟨⟨_, .str _ _⟩, by simp only [PyData.canLay0]; exact strOk_of_asc q⟩
  | .list _, _, e => by
    simp only [DR] at e
    obtain ⟨a, o, vs, n, rfl, _, h2, h3, h4, h5⟩ := e
    obtain ⟨⟨as, r⟩, c⟩ := DRs.reads h5
    exact ⟨⟨_, .list h2 h3 h4 r⟩, by simp only [PyData.canLay0]; exact c⟩
  | .tuple _, _, e => by
    simp only [DR] at e
    obtain ⟨a, o, vs, n, rfl, _, h2, h3, h4, h5⟩ := e
    obtain ⟨⟨as, r⟩, c⟩ := DRs.reads h5
    exact ⟨⟨_, .tuple h2 h3 h4 r⟩, by simp only [PyData.canLay0]; exact c⟩
  | .dict _, _, e => by simp only [DR] at e
theorem DRs.reads {h : Heap} {ok : Addr → Prop} : ∀ {ds : List PyData} {vs : List Value}, DRs h ok ds vs → (∃ as, ReadsAll h vs ds as) ∧ PyData.canLayAll0 ds = true
  | [], _, e => by simp only [DRs] at e; subst e; exact ⟨⟨_, .nil⟩, by simp [PyData.canLayAll0]⟩
  | _ :: _, _, e => by
    simp only [DRs] at e
    obtain ⟨v, r, rfl, h1, h2⟩ := e
    obtain ⟨⟨as, r1⟩, c1⟩ := DR.reads h1
    obtain ⟨⟨bs, r2⟩, c2⟩ := DRs.reads h2
    exact ⟨⟨_, .cons r1 r2⟩, by simp only [PyData.canLayAll0, c1, c2, Bool.and_self]⟩
end

theorem DRs.length {h : Heap} {ok : Addr → Prop} : ∀ {ds : List PyData} {vs : List Value}, DRs h ok ds vs → vs.length = ds.length
  | [], _, e => by simp only [DRs] at e; subst e; rfl
  | _ :: _, _, e => by
    simp only [DRs] at e
    obtain ⟨v, r, rfl, _, h2⟩ := e
    simp only [List.length_cons, h2.length]

theorem DRs.append {h : Heap} {ok : Addr → Prop} : ∀ {ds es : List PyData} {vs ws : List Value}, DRs h ok ds vs → DRs h ok es ws → DRs h ok (ds ++ es) (vs ++ ws)
  | [], _, _, _, e, k => by simp only [DRs] at e; subst e; exact k
  | _ :: _, _, _, _, e, k => by
    simp only [DRs] at e
    obtain ⟨v, r, rfl, h1, h2⟩ := e
    simp only [List.cons_append, DRs]
    exact ⟨v, r ++ _, rfl, h1, h2.append k⟩

theorem DRs.one {h : Heap} {ok : Addr → Prop} {d : PyData} {v : Value} (e : DR h ok d v) : DRs h ok [d] [v] := by
  simp only [DRs]; exact ⟨v, [], rfl, e, rfl⟩

theorem DRs.get {h : Heap} {ok : Addr → Prop} : ∀ {ds : List PyData} {vs : List Value} {k : Nat} {d : PyData}, DRs h ok ds vs → ds[k]? = some d → ∃ v, vs[k]? = some v ∧ DR h ok d v
  | [], _, _, _, _, e => by simp at e
  | _ :: _, _, 0, _, e, q => by
    simp only [DRs] at e
    obtain ⟨v, r, rfl, h1, h2⟩ := e
    simp at q; subst q
    exact ⟨v, rfl, h1⟩
  | _ :: _, _, k + 1, _, e, q => by
    simp only [DRs] at e
    obtain ⟨v, r, rfl, h1, h2⟩ := e
    simp at q
    obtain ⟨u, hu, hd⟩ := h2.get q
    exact ⟨u, by simpa using hu, hd⟩

theorem DRs.getV {h : Heap} {ok : Addr → Prop} : ∀ {ds : List PyData} {vs : List Value} {k : Nat} {v : Value}, DRs h ok ds vs → vs[k]? = some v → ∃ d, ds[k]? = some d ∧ DR h ok d v := by
  intro ds vs k v e q
  have hl := e.length
  have hk : k < ds.length := by rw [← hl]; exact (List.getElem?_eq_some_iff.mp q).1
  obtain ⟨u, hu, hd⟩ := e.get (List.getElem?_eq_getElem hk)
  rw [q] at hu; cases hu
  exact ⟨_, List.getElem?_eq_getElem hk, hd⟩

theorem DRs.take {h : Heap} {ok : Addr → Prop} : ∀ {ds : List PyData} {vs : List Value} (k : Nat), DRs h ok ds vs → DRs h ok (ds.take k) (vs.take k)
  | [], _, _, e => by simp only [DRs] at e; subst e; simp [DRs]
  | _ :: _, _, 0, e => by simp [DRs]
  | _ :: _, _, k + 1, e => by
    simp only [DRs] at e
    obtain ⟨v, r, rfl, h1, h2⟩ := e
    simp only [List.take_succ_cons, DRs]
    exact ⟨v, _, rfl, h1, h2.take k⟩
theorem DRs.drop {h : Heap} {ok : Addr → Prop} : ∀ {ds : List PyData} {vs : List Value} (k : Nat), DRs h ok ds vs → DRs h ok (ds.drop k) (vs.drop k)
  | [], _, _, e => by simp only [DRs] at e; subst e; simp [DRs]
  | _ :: _, _, 0, e => by simpa using e
  | _ :: _, _, k + 1, e => by
    simp only [DRs] at e
    obtain ⟨v, r, rfl, h1, h2⟩ := e
    simpa using h2.drop k

/-! frames -/

noncomputable def own (env : Env) : List Addr := env.locals :: env.cells.map (·.2)
/-- what may be written: cells in a def alone -/
noncomputable def wrt (env : Env) : List Addr := env.locals :: (if env.func.isSome then env.cells.map (·.2) else [])
theorem wrt_own {env : Env} {a : Addr} (h : a ∈ wrt env) : a ∈ own env := by
  unfold wrt at h
  split at h
  · exact h
  · simp at h; subst h; exact .head _

structure FrameR (env : Env) (h : Heap) (m cm : Str → Option Value) : Prop where
  kind : env.scope.kind = .function
  globals : env.globals = mainGlobals
  builtins : env.builtins = builtinsNs
  ns : h.Ns env.locals m
  cell : ∀ n c, env.cells.lookup n = some c → h.IsCell c (cm n)
  cells : ∀ n c, (n, c) ∈ env.cells → ∃ v, h.IsCell c v
  apart : env.cells.Pairwise fun x y => x.2 ≠ y.2

noncomputable def valOf (env : Env) (m cm : Str → Option Value) (x : Str) : Option Value := match env.kindOf x with
  | some .local => m x
  | some .cell => if (env.cells.lookup x).isSome then cm x else none
  | _ => none

noncomputable abbrev Mu := List (Addr × List Addr)
noncomputable def root (μ : Mu) (i : Nat) : Option Addr := (μ[i]?).map (·.1)
noncomputable def foot (μ : Mu) : List Addr := μ.flatMap (·.2)

noncomputable def VR (h : Heap) (ok : Addr → Prop) (μ : Mu) : V → Value → Prop
  | .dat d, x => DR h ok d x
  | .obj i, x => ∃ a, root μ i = some a ∧ x = .ref a
  | .rng lo hi, x => ∃ r t u v, x = .ref r ∧ ok r ∧ IsRange h r lo hi 1 t u v
  | .emp, x => ∃ a n, x = .ref a ∧ 1 < a ∧ ok a ∧ h.get? a = some { cls := .type "dict", data := .dict #[] n }

noncomputable abbrev hdrKey : Str := Str.ofString "_headers"

noncomputable def instDict (P : Params) (t : Tok) (n : Nat) (al : Addr) : Obj := { cls := .type "dict", data := .dict #[⟨PyData.keyHash P hdrKey, .str hdrKey t, .ref al⟩] n }

noncomputable def DctR {K : Type} [DecidableEq K] {prog : Program} {w : World} (knd : KeyKind prog w K) (h : Heap) (ok : Addr → Prop) (kvs : List (K × PyData)) (a : Addr) (fp : List Addr) : Prop :=
  fp = [a] ∧ (a == sysModules) = false ∧ ∃ kws : List (K × Value), h.DictOf knd a kws ∧ kws.map (·.1) = kvs.map (·.1) ∧ DRs h ok (kvs.map (·.2)) (kws.map (·.2))

noncomputable def OR (X : Cx) (h : Heap) (ok : Addr → Prop) (μ : Mu) : AObj → Addr → List Addr → Prop
  | .lst ds, a, fp => ∃ vs n, fp = [a] ∧ h.get? a = some { cls := .type "list", data := .seq vs n } ∧ DRs h ok ds vs.toList
  | .frz ds, a, fp => ∃ vs n, fp = [] ∧ h.get? a = some { cls := .type "list", data := .seq vs n } ∧ DRs h ok ds vs.toList
  | .inst l, a, fp => ∃ d, fp = [a, d] ∧ h.get? a = some (W.instObj X.C d) ∧ match l with
    | none => h.get? d = some W.emptyDict
    | some k => ∃ al t n, root μ k = some al ∧ h.get? d = some (instDict X.w.params t n al)
  | .dctS kvs, a, fp => DctR (strKind X.prog X.w) h ok kvs a fp
  | .dctI kvs, a, fp => DctR (intKind X.prog X.w) h ok kvs a fp

noncomputable def okOf (ρ : List Addr) (μ : Mu) (a : Addr) : Prop := a ∉ ρ ∧ a ∉ foot μ

structure Rel (X : Cx) (ρ : List Addr) (μ : Mu) (env : Env) (σ : St) (h : Heap) : Prop where
  base : ∀ b o, X.base.get? b = some o → h.get? b = some o
  freshR : ∀ a ∈ ρ, X.base.get? a = none
  freshM : ∀ a ∈ foot μ, X.base.get? a = none
  liveR : ∀ a ∈ ρ, ∃ o, h.get? a = some o
  liveM : ∀ a ∈ foot μ, ∃ o, h.get? a = some o
  nod : (foot μ).Nodup
  dis : ∀ a ∈ ρ, a ∉ foot μ
  own : ∀ a ∈ own env, a ∈ ρ
  above : X.base.objs.size ≤ env.locals
  frame : ∃ m cm, FrameR env h m cm ∧ ∀ x v, σ.loc x = some v → ∃ val, valOf env m cm x = some val ∧ VR h (okOf ρ μ) μ v val
  len : μ.length = σ.heap.length
  inj : ∀ i j a, root μ i = some a → root μ j = some a → i = j
  objs : ∀ (i : Nat) o, σ.heap[i]? = some o → ∃ p, μ[i]? = some p ∧ OR X h (okOf ρ μ) μ o p.1 p.2
  frz : ∀ (i : Nat) ds, σ.heap[i]? = some (.frz ds) → ∀ a, root μ i = some a → a ∈ ρ

structure Step (ow : List Addr) (μ μ' : Mu) (s s' : Shared) : Prop where
  same : ∃ h tk, s' = { s with heap := h, toks := tk }
  keep : ∀ b o, s.heap.get? b = some o → b ∉ foot μ → b ∉ ow → s'.heap.get? b = some o
  live : ∀ b o, s.heap.get? b = some o → ∃ o', s'.heap.get? b = some o'
  pre : μ <+: μ'
  new : ∀ b ∈ foot μ', b ∈ foot μ ∨ s.heap.get? b = none

theorem foot_append (μ ν : Mu) : foot (μ ++ ν) = foot μ ++ foot ν := List.flatMap_append
theorem foot_prefix {μ μ' : Mu} (h : μ <+: μ') {a : Addr} (ha : a ∈ foot μ) : a ∈ foot μ' := by
  obtain ⟨r, rfl⟩ := h
  rw [foot_append]
  exact List.mem_append_left _ ha

theorem Step.refl (ow : List Addr) (μ : Mu) (s : Shared) : Step ow μ μ s s :=
  ⟨⟨s.heap, s.toks, rfl⟩, fun _ _ e _ _ => e, fun _ o e => ⟨o, e⟩, List.prefix_refl _, fun _ h => .inl h⟩

theorem Step.trans {ow : List Addr} {μ μ₁ μ₂ : Mu} {s s₁ s₂ : Shared} (a : Step ow μ μ₁ s s₁) (b : Step ow μ₁ μ₂ s₁ s₂) : Step ow μ μ₂ s s₂ := by
  obtain ⟨h1, t1, e1⟩ := a.same
  obtain ⟨h2, t2, e2⟩ := b.same
  refine ⟨⟨h2, t2, by rw [e2, e1]⟩, fun x o e hm ho => ?_, fun x o e => ?_, a.pre.trans b.pre, fun x hx => ?_⟩
  · refine b.keep x o (a.keep x o e hm ho) (fun hm' => ?_) ho
    rcases a.new x hm' with h | h
    · exact hm h
    · rw [e] at h; cases h
  · obtain ⟨o1, q⟩ := a.live x o e
    exact b.live x o1 q
  · rcases b.new x hx with h | h
    · exact a.new x h
    · right
      cases q : s.heap.get? x with
      | none => rfl
      | some o =>
        obtain ⟨o1, q1⟩ := a.live x o q
        rw [h] at q1; cases q1

theorem root_prefix {μ μ' : Mu} (h : μ <+: μ') {i : Nat} {a : Addr} (e : root μ i = some a) : root μ' i = some a := by
  unfold root at e ⊢
  obtain ⟨fp, h1, h2⟩ := Option.map_eq_some_iff.mp e
  obtain ⟨r, rfl⟩ := h
  rw [List.getElem?_append_left (List.getElem?_eq_some_iff.mp h1).1, h1]
  exact congrArg some h2

/-- what is not excluded stays what it is, and stays not excluded -/
theorem Step.ok {ow ρ : List Addr} {μ μ' : Mu} {s s' : Shared} (a : Step ow μ μ' s s') (how : ∀ x ∈ ow, x ∈ ρ) :
    ∀ b o, okOf ρ μ b → s.heap.get? b = some o → s'.heap.get? b = some o ∧ okOf ρ μ' b := fun b o k e =>
  ⟨a.keep b o e k.2 fun h => k.1 (how b h), k.1, fun h => by
    rcases a.new b h with h | h
    · exact k.2 h
    · rw [e] at h; cases h⟩

theorem VR.mono {h h' : Heap} {ok ok' : Addr → Prop} {μ μ' : Mu} (p : ∀ i a, root μ i = some a → root μ' i = some a) (k : ∀ a o, ok a → h.get? a = some o → h'.get? a = some o ∧ ok' a)
    {v : V} {x : Value} (e : VR h ok μ v x) : VR h' ok' μ' v x := by
  cases v with
  | dat d => exact DR.mono k e
  | obj i => obtain ⟨a, h1, h2⟩ := e; exact ⟨a, p _ _ h1, h2⟩
  | rng lo hi =>
    obtain ⟨r, t, u, v, h1, h2, h3⟩ := e
    exact ⟨r, t, u, v, h1, (k r _ h2 h3).2, (k r _ h2 h3).1⟩
  | emp =>
    obtain ⟨a, n, h1, h0, h2, h3⟩ := e
    exact ⟨a, n, h1, h0, (k a _ h2 h3).2, (k a _ h2 h3).1⟩

theorem VR.step {X : Cx} {ρ : List Addr} {μ μ' : Mu} {env : Env} {σ : St} {s s' : Shared} (R : Rel X ρ μ env σ s.heap) (a : Step (wrt env) μ μ' s s')
    {v : V} {x : Value} (e : VR s.heap (okOf ρ μ) μ v x) : VR s'.heap (okOf ρ μ') μ' v x := e.mono (fun _ _ => root_prefix a.pre) (a.ok fun x hx => R.own x (wrt_own hx))

end Mine
end

section
open PySem
set_option Elab.async false
namespace Mine
theorem all1 {P : Addr → Prop} {a : Addr} (h : P a) : ∀ b ∈ [a], P b := fun b hb => by rw [List.mem_singleton.mp hb]; exact h
theorem all3 {P : Addr → Prop} {a b c : Addr} (h : P a) (k : P b) (j : P c) : ∀ x ∈ [a, b, c], P x := fun x hx => by
  rcases List.mem_cons.mp hx with e | hx
  · rw [e]; exact h
  rcases List.mem_cons.mp hx with e | hx
  · rw [e]; exact k
  · exact all1 j x hx
theorem in3a {a b c : Addr} : a ∈ [a, b, c] := .head _
theorem in3b {a b c : Addr} : b ∈ [a, b, c] := .tail _ (.head _)
theorem in3c {a b c : Addr} : c ∈ [a, b, c] := .tail _ (.tail _ (.head _))
theorem up3a {a b c x : Addr} {ρ : List Addr} (h : x ∈ [a] ++ ρ) : x ∈ [a, b, c] ++ ρ := by
  rcases List.mem_append.mp h with h | h
  · exact List.mem_append_left _ (all1 in3a x h)
  · exact List.mem_append_right _ h
theorem off1 {a c : Addr} {ρ : List Addr} (h : a ≠ c) (k : a ∉ ρ) : a ∉ [c] ++ ρ := fun hm => by
  rcases List.mem_append.mp hm with hm | hm
  · exact h (List.mem_singleton.mp hm)
  · exact k hm
theorem perm3 {a b c x : Addr} {ρ : List Addr} : x ∈ [a, b, c] ++ ρ ↔ x ∈ [c] ++ ([b] ++ ([a] ++ ρ)) := by
  simp only [List.mem_append, List.mem_cons, List.not_mem_nil, or_false]
  constructor
  · rintro ((h | h | h) | h)
    · exact .inr (.inr (.inl h))
    · exact .inr (.inl h)
    · exact .inl h
    · exact .inr (.inr (.inr h))
  · rintro (h | h | h | h)
    · exact .inl (.inr (.inr h))
    · exact .inl (.inr (.inl h))
    · exact .inl (.inl h)
    · exact .inr h
theorem ne_of_mem {a b : Addr} (h : b ∉ [a]) : b ≠ a := fun e => h (e ▸ .head _)
theorem notMem1 {a b : Addr} (h : b ≠ a) : b ∉ [a] := fun e => h (List.mem_singleton.mp e)
theorem sameBut1 {a : Addr} {h h' : Heap} (hs : Heap.SameBut a h h') : ∀ b ob, b ∉ [a] → h.get? b = some ob → h'.get? b = some ob := fun b ob hb e => (hs.2 b (ne_of_mem hb)).trans e
theorem wrap {P : Prop} (h : ∀ G : Prop, (P → G) → G) : P := h P id

noncomputable abbrev RVt (α β : Type) := Heap → (Addr → Prop) → Mu → β → α → Prop

noncomputable def VRr : RVt Value V := fun h ok μ v x => VR h ok μ v x
noncomputable def EqR {α : Type} : RVt α α := fun _ _ _ b x => x = b

noncomputable def Post {α β : Type} (X : Cx) (ρ : List Addr) (μ : Mu) (env : Env) (s : Shared) (RV : RVt α β) (b : β) (σ' : St) : α → Shared → Prop :=
  fun x s' => ∃ μ', Step (wrt env) μ μ' s s' ∧ Rel X ρ μ' env σ' s'.heap ∧ RV s'.heap (okOf ρ μ') μ' b x

theorem post_elim {α β : Type} {X : Cx} {ρ : List Addr} {μ : Mu} {env : Env} {s : Shared} {RV : RVt α β} {b : β} {σ' : St} {x : α} {s' : Shared} {C : Prop} (z : Post X ρ μ env s RV b σ' x s') (k : ∀ μ', Step (wrt env) μ μ' s s' → Rel X ρ μ' env σ' s'.heap → RV s'.heap (okOf ρ μ') μ' b x → C) : C := by
  obtain ⟨a, h1, h2, h3⟩ := (z : ∃ μ', _)
  exact k a h1 h2 h3

noncomputable def W {α β : Type} (X : Cx) (A : Around) (ρ : List Addr) (μ : Mu) (env : Env) (s : Shared) (RV : RVt α β) (t : Sem α) (r : Option (β × St)) : Prop :=
  ∀ b σ', r = some (b, σ') → wpAny (model X.prog X.w) A t (Post X ρ μ env s RV b σ') (fun _ _ => False) s

structure Ga (n : Nat) (A : Around) : Prop where
  handled : A.handled = none
  depth : A.depth + 4 * n ≤ 900
  units : A.units + 40 * n ≤ 9000

theorem Ga.in1 {n : Nat} {A : Around} (h : Ga (n + 1) A) : Ga n A.in1 := ⟨h.handled, by have := h.depth; show A.depth + 4 * n ≤ 900; omega, by have := h.units; show A.units + 1 + 40 * n ≤ 9000; omega⟩
theorem Ga.deeper {n : Nat} {A : Around} {env : Env} (h : Ga (n + 1) A) : Ga n (A.deeper env) := ⟨h.handled, by have := h.depth; show A.depth + 1 + 4 * n ≤ 900; omega, by have := h.units; show A.units + 3 + 40 * n ≤ 9000; omega⟩
theorem Ga.less {n m : Nat} {A : Around} (h : Ga n A) (k : m ≤ n) : Ga m A := ⟨h.handled, by have := h.depth; omega, by have := h.units; omega⟩
theorem Ga.room {n : Nat} {A : Around} (h : Ga n A) : A.depth < recursionLimit := by have := h.depth; show A.depth < 1000; omega
theorem Ga.c {n : Nat} {A : Around} (h : Ga n A) : A.units + 100 < cLine := by have := h.units; show A.units + 100 < 9900; omega

section
variable {α β γ δ : Type} {X : Cx} {A : Around} {ρ : List Addr} {μ : Mu} {env : Env} {s : Shared} {σ : St}

theorem bind_eq {m : M β} {g : β → M δ} : (m >>= g) = mbind m g := rfl
theorem pure_eq {b : β} : (pure b : M β) = mpure b := rfl

theorem W_bind {RV₁ : RVt α β} {RV₂ : RVt γ δ} {t : Sem α} {f : α → Sem γ} {m : M β} {g : β → M δ} (h1 : W X A ρ μ env s RV₁ t (m σ))
    (h2 : ∀ μ' s' b σ' x, Step (wrt env) μ μ' s s' → Rel X ρ μ' env σ' s'.heap → RV₁ s'.heap (okOf ρ μ') μ' b x → W X A ρ μ' env s' RV₂ (f x) (g b σ')) :
    W X A ρ μ env s RV₂ (t >>= f) ((m >>= g) σ) := by
  intro d σ₂ e
  rw [bind_eq] at e
  unfold mbind at e
  cases q : m σ with
  | none => rw [q] at e; cases e
  | some p =>
    obtain ⟨b, σ₁⟩ := p
    rw [q] at e
    refine wpAny_bind (wpAny_mono (h1 b σ₁ q) (fun x s' z => ?_) fun _ _ z => z.elim)
    first | refine post_elim z fun μ' st R rv => ?_ | obtain ⟨μ', st, R, rv⟩ := z
    refine wpAny_mono (h2 μ' s' b σ₁ x st R rv d σ₂ e) (fun y s'' z => ?_) fun _ _ z => z
    first | refine post_elim z fun μ'' st' R' rv' => ?_ | obtain ⟨μ'', st', R', rv'⟩ := z
    exact ⟨μ'', st.trans st', R', rv'⟩

theorem W_pure {RV : RVt α β} {a : α} {b : β} (R : Rel X ρ μ env σ s.heap) (h : RV s.heap (okOf ρ μ) μ b a) : W X A ρ μ env s RV (pure a) ((pure b : M β) σ) := by
  intro b' σ' e
  rw [pure_eq] at e
  unfold mpure at e
  cases e
  exact wpAny_pure ⟨μ, .refl _ _ _, R, h⟩

theorem W_fail {RV : RVt α β} {t : Sem α} : W X A ρ μ env s RV t none := fun _ _ e => nomatch e

theorem W_conc {RV : RVt α β} {t t' : Sem α} {r : Option (β × St)} (h : W X A ρ μ env s RV t' r)
    (k : ∀ Q, wpAny (model X.prog X.w) A t' Q (fun _ _ => False) s → wpAny (model X.prog X.w) A t Q (fun _ _ => False) s) : W X A ρ μ env s RV t r :=
  fun b σ' e => k _ (h b σ' e)

theorem W_holding {RV : RVt α β} {vs : List Value} {t : Sem α} {r : Option (β × St)} (h : W X A ρ μ env s RV t r) : W X A ρ μ env s RV (holding vs t) r :=
  fun b σ' e => wpAny_holding (h b σ' e)
theorem W_standAt {RV : RVt α β} {pos : Pos} {t : Sem α} {r : Option (β × St)} (h : W X A ρ μ env s RV t r) : W X A ρ μ env s RV (standAt pos >>= fun _ => t) r :=
  fun b σ' e => wpAny_bind (wpAny_standAt (h b σ' e))
theorem W_operate {RV : RVt Value β} {vs : List Value} {t : Sem Value} {r : Option (β × St)} (h : W X A ρ μ env s RV t r) : W X A ρ μ env s RV (operate vs t) r :=
  fun b σ' e => wpAny_operateT (h b σ' e)
end

/-! Rel under growth -/

theorem FrameR.at {env : Env} {h h' : Heap} {m cm : Str → Option Value} (F : FrameR env h m cm) (k : ∀ b ∈ own env, ∀ o, h.get? b = some o → h'.get? b = some o) : FrameR env h' m cm where
  kind := F.kind
  globals := F.globals
  builtins := F.builtins
  ns := F.ns.at' fun o e => k _ (.head _) o e
  cell := fun n c e => by
    obtain ⟨o, h1, h2⟩ := F.cell n c e
    exact ⟨o, k c (.tail _ (List.mem_map.mpr ⟨_, mem_of_lookup e, rfl⟩)) o h1, h2⟩
  cells := fun n c e => by
    obtain ⟨v, o, h1, h2⟩ := F.cells n c e
    exact ⟨v, o, k c (.tail _ (List.mem_map.mpr ⟨_, e, rfl⟩)) o h1, h2⟩
  apart := F.apart

theorem DctR.mono {K : Type} [DecidableEq K] {prog : Program} {w : World} {knd : KeyKind prog w K} {h h' : Heap} {ok ok' : Addr → Prop} {kvs : List (K × PyData)} {a : Addr} {fp : List Addr} (k : ∀ a o, ok a → h.get? a = some o → h'.get? a = some o ∧ ok' a) (q : ∀ o, h.get? a = some o → h'.get? a = some o) (e : DctR knd h ok kvs a fp) : DctR knd h' ok' kvs a fp := by
  obtain ⟨h1, h2, vs, ⟨o, es, ep, g1, g2⟩, h3, h4⟩ := e
  exact ⟨h1, h2, vs, ⟨o, es, ep, q _ g1, g2⟩, h3, DRs.mono k h4⟩
theorem DctR.live {K : Type} [DecidableEq K] {prog : Program} {w : World} {knd : KeyKind prog w K} {h : Heap} {ok : Addr → Prop} {kvs : List (K × PyData)} {a : Addr} {fp : List Addr} (e : DctR knd h ok kvs a fp) : ∃ o es ep, h.get? a = some o ∧ o.cls = .type "dict" ∧ o.data = .dict es ep := by
  obtain ⟨_, _, vs, ⟨o, es, ep, g1, g2, g3, _⟩, _⟩ := e
  exact ⟨o, es, ep, g1, g2.1, g3⟩

theorem OR.mono {X : Cx} {h h' : Heap} {ok ok' : Addr → Prop} {μ μ' : Mu} (p : ∀ i a, root μ i = some a → root μ' i = some a) (k : ∀ a o, ok a → h.get? a = some o → h'.get? a = some o ∧ ok' a)
    {o : AObj} {a : Addr} {fp : List Addr} (q : ∀ b ∈ a :: fp, ∀ ob, h.get? b = some ob → h'.get? b = some ob) (e : OR X h ok μ o a fp) : OR X h' ok' μ' o a fp := by
  cases o with
  | lst ds =>
    obtain ⟨vs, n, rfl, h1, h2⟩ := e
    exact ⟨vs, n, rfl, q a (by simp) _ h1, DRs.mono k h2⟩
  | frz ds =>
    obtain ⟨vs, n, rfl, h1, h2⟩ := e
    exact ⟨vs, n, rfl, q a (by simp) _ h1, DRs.mono k h2⟩
  | inst l =>
    obtain ⟨d, rfl, h1, h2⟩ := e
    refine ⟨d, rfl, q a (by simp) _ h1, ?_⟩
    cases l with
    | none => exact q d (by simp) _ h2
    | some i =>
      obtain ⟨al, t, n, h3, h4⟩ := h2
      exact ⟨al, t, n, p _ _ h3, q d (by simp) _ h4⟩
  | dctS kvs => exact DctR.mono k (fun o => q a (.head _) o) e
  | dctI kvs => exact DctR.mono k (fun o => q a (.head _) o) e

/-- an object's root is its own, or reserved -/
theorem OR.root_mem {X : Cx} {h : Heap} {ok : Addr → Prop} {μ : Mu} {o : AObj} {a : Addr} {fp : List Addr} (e : OR X h ok μ o a fp) : a ∈ fp ∨ ∃ ds, o = .frz ds := by
  cases o with
  | lst ds => obtain ⟨vs, n, rfl, _⟩ := e; exact .inl (by simp)
  | frz ds => exact .inr ⟨ds, rfl⟩
  | inst l => obtain ⟨d, rfl, _⟩ := e; exact .inl (by simp)
  | dctS kvs => obtain ⟨rfl, _⟩ := e; exact .inl (.head _)
  | dctI kvs => obtain ⟨rfl, _⟩ := e; exact .inl (.head _)

section
variable {X : Cx} {ρ : List Addr} {μ : Mu} {env : Env} {σ : St} {h h' : Heap}

theorem foot_get {i : Nat} {p : Addr × List Addr} (e : μ[i]? = some p) {a : Addr} (ha : a ∈ p.2) : a ∈ foot μ := List.mem_flatMap.mpr ⟨p, List.mem_of_getElem? e, ha⟩

theorem Rel.okNew (R : Rel X ρ μ env σ h) {a : Addr} (ha : h.get? a = none) : okOf ρ μ a :=
  ⟨fun hm => (by obtain ⟨o, e⟩ := R.liveR a hm; rw [ha] at e; cases e), fun hm => (by obtain ⟨o, e⟩ := R.liveM a hm; rw [ha] at e; cases e)⟩
theorem Rel.notBase (R : Rel X ρ μ env σ h) {a : Addr} (ha : h.get? a = none) : X.base.get? a = none := by
  cases e : X.base.get? a with
  | none => rfl
  | some o => have := R.base a o e; rw [ha] at this; cases this

/-- a frozen list's address is none of the frame's own -/
theorem Rel.frzOff (R : Rel X ρ μ env σ h) {a : Addr} {vs : Array Value} {n : Nat} (e : h.get? a = some { cls := .type "list", data := .seq vs n }) : a ∉ Mine.own env := by
  obtain ⟨m, cm, F, _⟩ := R.frame
  intro hm
  rcases List.mem_cons.mp hm with rfl | hm
  · obtain ⟨o, es, ep, h1, h2, _⟩ := F.ns
    rw [e] at h1; cases h1; cases h2
  · obtain ⟨⟨n', c⟩, h1, rfl⟩ := List.mem_map.mp hm
    obtain ⟨v, o, h2, h3⟩ := F.cells n' c h1
    rw [e] at h2; cases h2; cases h3

/-- the general change: some reserved addresses and some of one object's turn; all else stays -/
theorem Rel.ext (R : Rel X ρ μ env σ h) (k : ∀ b o, h.get? b = some o → h'.get? b = some o) : Rel X ρ μ env σ h' where
  base := fun b o e => k _ _ (R.base b o e)
  freshR := R.freshR
  freshM := R.freshM
  liveR := fun a ha => let ⟨o, e⟩ := R.liveR a ha; ⟨o, k _ _ e⟩
  liveM := fun a ha => let ⟨o, e⟩ := R.liveM a ha; ⟨o, k _ _ e⟩
  nod := R.nod
  dis := R.dis
  own := R.own
  above := R.above
  frame := by
    obtain ⟨m, cm, F, l⟩ := R.frame
    refine ⟨m, cm, F.at fun b _ => k b, fun x v e => ?_⟩
    obtain ⟨val, h1, h2⟩ := l x v e
    exact ⟨val, h1, h2.mono (fun _ _ e => e) fun a o ok e => ⟨k _ _ e, ok⟩⟩
  len := R.len
  inj := R.inj
  objs := fun i o e => by
    obtain ⟨p, h1, h2⟩ := R.objs i o e
    exact ⟨p, h1, h2.mono (fun _ _ e => e) (fun a o ok e => ⟨k _ _ e, ok⟩) fun a _ ob e => k _ _ e⟩
  frz := R.frz

theorem root_some {i : Nat} {p : Addr × List Addr} (e : μ[i]? = some p) : root μ i = some p.1 := by unfold root; rw [e]; rfl

/-- what an object is made of is not another's, nor reserved unless it is frozen -/
theorem Rel.apart (R : Rel X ρ μ env σ h) {i j : Nat} {p q : Addr × List Addr} (hi : μ[i]? = some p) (hj : μ[j]? = some q) (hne : i ≠ j) {a : Addr} (ha : a ∈ p.2) : a ∉ q.2 := by
  intro hb
  have hn := R.nod
  unfold foot at hn
  obtain ⟨hi', rfl⟩ := List.getElem?_eq_some_iff.mp hi
  obtain ⟨hj', rfl⟩ := List.getElem?_eq_some_iff.mp hj
  have hp := (List.pairwise_flatMap.mp hn).2
  rcases Nat.lt_or_gt_of_ne hne with hlt | hlt
  · exact List.pairwise_iff_getElem.mp hp i j hi' hj' hlt a ha a hb rfl
  · exact List.pairwise_iff_getElem.mp hp j i hj' hi' hlt a hb a ha rfl

/-- one object turns -/
theorem Rel.setObj (R : Rel X ρ μ env σ h) {i : Nat} {p : Addr × List Addr} {o' : AObj} (hi : μ[i]? = some p) (hz' : ∀ ds, o' ≠ .frz ds)
    (k : ∀ b ob, b ∉ p.2 → h.get? b = some ob → h'.get? b = some ob) (hl : ∀ b ∈ p.2, ∃ ob, h'.get? b = some ob) (hO : OR X h' (okOf ρ μ) μ o' p.1 p.2) :
    Rel X ρ μ env ⟨σ.loc, σ.heap.set i o'⟩ h' := by
  have kf : ∀ b ob, b ∉ foot μ → h.get? b = some ob → h'.get? b = some ob := fun b ob hb e => k b ob (fun hm => hb (foot_get hi hm)) e
  have kok : ∀ a ob, okOf ρ μ a → h.get? a = some ob → h'.get? a = some ob ∧ okOf ρ μ a := fun a ob q e => ⟨kf a ob q.2 e, q⟩
  refine ⟨fun b ob e => kf b ob (fun hm => ?_) (R.base b ob e), R.freshR, R.freshM, fun a ha => ?_, fun a ha => ?_, R.nod, R.dis, R.own, R.above, ?_, by simp [R.len], R.inj, ?_, ?_⟩
  · rw [R.freshM b hm] at e; cases e
  · obtain ⟨ob, e⟩ := R.liveR a ha; exact ⟨ob, kf a ob (R.dis a ha) e⟩
  · by_cases hm : a ∈ p.2
    · exact hl a hm
    · obtain ⟨ob, e⟩ := R.liveM a ha; exact ⟨ob, k a ob hm e⟩
  · obtain ⟨m, cm, F, l⟩ := R.frame
    refine ⟨m, cm, F.at fun b hb ob e => kf b ob (R.dis b (R.own b hb)) e, fun x v e => ?_⟩
    obtain ⟨val, h1, h2⟩ := l x v e
    exact ⟨val, h1, h2.mono (fun _ _ e => e) kok⟩
  · intro j oj e
    rw [List.getElem?_set] at e
    split at e
    · rename_i hij
      subst hij
      split at e
      · cases e; exact ⟨p, hi, hO⟩
      · cases e
    · rename_i hij
      obtain ⟨q, h1, h2⟩ := R.objs j oj e
      refine ⟨q, h1, h2.mono (fun _ _ e => e) kok fun b hb ob e' => ?_⟩
      refine k b ob (fun hm => ?_) e'
      rcases List.mem_cons.mp hb with rfl | hb
      · rcases h2.root_mem with h3 | ⟨ds, rfl⟩
        · exact R.apart hi h1 hij hm h3
        · exact R.dis _ (R.frz j ds e _ (root_some h1)) (foot_get hi hm)
      · exact R.apart hi h1 hij hm hb
  · intro j ds e a ha
    rw [List.getElem?_set] at e
    split at e
    · split at e
      · cases e; exact absurd rfl (hz' ds)
      · cases e
    · exact R.frz j ds e a ha

/-- a reserved thing turns that is no part of the frame -/
theorem Rel.setRes (R : Rel X ρ μ env σ h) {wr : List Addr} (hw : ∀ a ∈ wr, a ∈ ρ) (ho : ∀ a ∈ wr, a ∉ Mine.own env) (hl : ∀ a ∈ wr, ∃ o, h'.get? a = some o) (hz : ∀ a ∈ wr, ∀ j, root μ j ≠ some a)
    (k : ∀ b o, b ∉ wr → h.get? b = some o → h'.get? b = some o) : Rel X ρ μ env σ h' := by
  have kok : ∀ a ob, okOf ρ μ a → h.get? a = some ob → h'.get? a = some ob ∧ okOf ρ μ a := fun a ob q e => ⟨k a ob (fun hm => q.1 (hw a hm)) e, q⟩
  refine ⟨fun b ob e => k b ob (fun hm => ?_) (R.base b ob e), R.freshR, R.freshM, fun a ha => ?_, fun a ha => ?_, R.nod, R.dis, R.own, R.above, ?_, R.len, R.inj, ?_, R.frz⟩
  · rw [R.freshR b (hw b hm)] at e; cases e
  · by_cases hm : a ∈ wr
    · exact hl a hm
    · obtain ⟨ob, e⟩ := R.liveR a ha; exact ⟨ob, k a ob hm e⟩
  · obtain ⟨ob, e⟩ := R.liveM a ha
    exact ⟨ob, k a ob (fun hm => R.dis a (hw a hm) ha) e⟩
  · obtain ⟨m, cm, F, l⟩ := R.frame
    refine ⟨m, cm, F.at fun b hb ob e => k b ob (fun hm => ho b hm hb) e, fun x v e => ?_⟩
    obtain ⟨val, h1, h2⟩ := l x v e
    exact ⟨val, h1, h2.mono (fun _ _ e => e) kok⟩
  · intro j oj e
    obtain ⟨q, h1, h2⟩ := R.objs j oj e
    refine ⟨q, h1, h2.mono (fun _ _ e => e) kok fun b hb ob e' => k b ob (fun hm => ?_) e'⟩
    rcases List.mem_cons.mp hb with rfl | hb
    · rcases h2.root_mem with h3 | ⟨ds, rfl⟩
      · exact R.dis _ (hw _ hm) (foot_get h1 h3)
      · exact hz _ hm j (root_some h1)
    · exact R.dis _ (hw _ hm) (foot_get h1 hb)

/-- more is reserved -/
theorem Rel.reserve (R : Rel X ρ μ env σ h) {h₂ : Heap} {wr : List Addr} (hn : ∀ a ∈ wr, h₂.get? a = none) (R₂ : Rel X ρ μ env σ h₂) (k : ∀ b o, h₂.get? b = some o → h.get? b = some o) (hl : ∀ a ∈ wr, ∃ o, h.get? a = some o) : Rel X (wr ++ ρ) μ env σ h := by
  have kok : ∀ a ob, okOf ρ μ a → h₂.get? a = some ob → h.get? a = some ob ∧ okOf (wr ++ ρ) μ a := fun a ob q e => ⟨k a ob e, fun hm => by
    rcases List.mem_append.mp hm with hm | hm
    · rw [hn a hm] at e; cases e
    · exact q.1 hm, q.2⟩
  refine ⟨R.base, fun a ha => ?_, R.freshM, fun a ha => ?_, R.liveM, R.nod, fun a ha hm => ?_, fun a ha => List.mem_append_right _ (R.own a ha), R.above, ?_, R.len, R.inj, ?_, fun i ds e a ha => List.mem_append_right _ (R.frz i ds e a ha)⟩
  · rcases List.mem_append.mp ha with ha | ha
    · exact R₂.notBase (hn a ha)
    · exact R.freshR a ha
  · rcases List.mem_append.mp ha with ha | ha
    · exact hl a ha
    · exact R.liveR a ha
  · rcases List.mem_append.mp ha with ha | ha
    · obtain ⟨o, e⟩ := R₂.liveM a hm; rw [hn a ha] at e; cases e
    · exact R.dis a ha hm
  · obtain ⟨m, cm, F, l⟩ := R₂.frame
    refine ⟨m, cm, F.at fun b _ ob e => k b ob e, fun x v e => ?_⟩
    obtain ⟨val, h1, h2⟩ := l x v e
    exact ⟨val, h1, h2.mono (fun _ _ e => e) kok⟩
  · intro j oj e
    obtain ⟨q, h1, h2⟩ := R₂.objs j oj e
    exact ⟨q, h1, h2.mono (fun _ _ e => e) kok fun b hb ob e' => k b ob e'⟩

theorem Rel.congr {ρ' : List Addr} (R : Rel X ρ μ env σ h) (hh : ∀ a, a ∈ ρ ↔ a ∈ ρ') : Rel X ρ' μ env σ h := by
  have hok : ∀ a o, okOf ρ μ a → h.get? a = some o → h.get? a = some o ∧ okOf ρ' μ a := fun a o q e => ⟨e, fun hm => q.1 ((hh a).mpr hm), q.2⟩
  refine ⟨R.base, fun a ha => R.freshR a ((hh a).mpr ha), R.freshM, fun a ha => R.liveR a ((hh a).mpr ha), R.liveM, R.nod, fun a ha => R.dis a ((hh a).mpr ha), fun a ha => (hh a).mp (R.own a ha), R.above, ?_, R.len, R.inj, ?_, fun i ds e a ha => (hh a).mp (R.frz i ds e a ha)⟩
  · obtain ⟨m, cm, F, l⟩ := R.frame
    refine ⟨m, cm, F, fun x v e => ?_⟩
    obtain ⟨val, h1, h2⟩ := l x v e
    exact ⟨val, h1, h2.mono (fun _ _ e => e) hok⟩
  · intro j oj e
    obtain ⟨q, h1, h2⟩ := R.objs j oj e
    exact ⟨q, h1, h2.mono (fun _ _ e => e) hok fun b hb ob e' => e'⟩

/-- another frame over the same things -/
theorem Rel.reframe {env₂ : Env} {loc : Str → Option V} (R : Rel X ρ μ env σ h) (ho : ∀ a ∈ Mine.own env₂, a ∈ ρ) (hb : X.base.objs.size ≤ env₂.locals)
    (fr : ∃ m cm, FrameR env₂ h m cm ∧ ∀ x v, loc x = some v → ∃ val, valOf env₂ m cm x = some val ∧ VR h (okOf ρ μ) μ v val) : Rel X ρ μ env₂ ⟨loc, σ.heap⟩ h :=
  ⟨R.base, R.freshR, R.freshM, R.liveR, R.liveM, R.nod, R.dis, ho, hb, fr, R.len, R.inj, R.objs, R.frz⟩

theorem Rel.rootLive (R : Rel X ρ μ env σ h) {j : Nat} {a : Addr} (hj : root μ j = some a) : ∃ o, h.get? a = some o := by
  unfold root at hj
  obtain ⟨p, h1, rfl⟩ := Option.map_eq_some_iff.mp hj
  have hlt : j < σ.heap.length := by rw [← R.len]; exact (List.getElem?_eq_some_iff.mp h1).1
  obtain ⟨q, h2, h3⟩ := R.objs j _ (List.getElem?_eq_getElem hlt)
  rw [h1] at h2; cases h2
  generalize σ.heap[j] = o at h3
  cases o with
  | lst ds => obtain ⟨vs, n, _, h4, _⟩ := h3; exact ⟨_, h4⟩
  | frz ds => obtain ⟨vs, n, _, h4, _⟩ := h3; exact ⟨_, h4⟩
  | inst l => obtain ⟨d, _, h4, _⟩ := h3; exact ⟨_, h4⟩
  | dctS kvs => obtain ⟨o, _, _, h4, _⟩ := DctR.live h3; exact ⟨o, h4⟩
  | dctI kvs => obtain ⟨o, _, _, h4, _⟩ := DctR.live h3; exact ⟨o, h4⟩

/-- a new abstract object -/
theorem Rel.newObj (R : Rel X ρ μ env σ h) {a : Addr} {fp : List Addr} {o : AObj} (hf : ∀ b ∈ fp, h.get? b = none) (hnd : fp.Nodup) (hz : ∀ ds, o ≠ .frz ds)
    (k : ∀ b o, h.get? b = some o → h'.get? b = some o) (hl : ∀ b ∈ fp, ∃ ob, h'.get? b = some ob) (hO : OR X h' (okOf ρ (μ ++ [(a, fp)])) (μ ++ [(a, fp)]) o a fp) :
    Rel X ρ (μ ++ [(a, fp)]) env ⟨σ.loc, σ.heap ++ [o]⟩ h' := by
  have hfl : foot (μ ++ [(a, fp)]) = foot μ ++ fp := by rw [foot_append]; simp [foot]
  have R' := R.ext k
  have hok : ∀ b o, okOf ρ μ b → h.get? b = some o → h'.get? b = some o ∧ okOf ρ (μ ++ [(a, fp)]) b := fun b o q e => ⟨k _ _ e, q.1, by
    rw [hfl, List.mem_append]; rintro (hm | hm)
    · exact q.2 hm
    · rw [hf b hm] at e; cases e⟩
  have hpre : ∀ i b, root μ i = some b → root (μ ++ [(a, fp)]) i = some b := fun i b => root_prefix (List.prefix_append _ _)
  refine ⟨R'.base, R.freshR, ?_, R'.liveR, ?_, ?_, ?_, R.own, R.above, ?_, by simp [R.len], ?_, ?_, ?_⟩
  · intro b hm; rw [hfl, List.mem_append] at hm
    rcases hm with hm | hm
    · exact R.freshM b hm
    · exact R.notBase (hf b hm)
  · intro b hm; rw [hfl, List.mem_append] at hm
    rcases hm with hm | hm
    · exact R'.liveM b hm
    · exact hl b hm
  · rw [hfl, List.nodup_append]
    refine ⟨R.nod, hnd, fun x hx y hy => ?_⟩
    rintro rfl
    obtain ⟨o, e⟩ := R.liveM x hx; rw [hf x hy] at e; cases e
  · intro b hm; rw [hfl, List.mem_append]
    rintro (h1 | h1)
    · exact R.dis b hm h1
    · obtain ⟨o, e⟩ := R.liveR b hm; rw [hf b h1] at e; cases e
  · obtain ⟨m, cm, F, l⟩ := R.frame
    refine ⟨m, cm, F.at fun b _ => k b, fun x v e => ?_⟩
    obtain ⟨val, h1, h2⟩ := l x v e
    exact ⟨val, h1, h2.mono hpre hok⟩
  · have hnew : ∀ j, root μ j = some a → False := fun j hj => by
      obtain ⟨o', e'⟩ := R.rootLive hj
      rcases hO.root_mem with h1 | ⟨ds, h1⟩
      · rw [hf a h1] at e'; cases e'
      · exact hz ds h1
    have hcase : ∀ j b, root (μ ++ [(a, fp)]) j = some b → root μ j = some b ∨ (j = μ.length ∧ b = a) := fun j b hj => by
      unfold root at hj ⊢
      rw [List.getElem?_append] at hj
      split at hj
      · exact .inl hj
      · rename_i hlt
        right
        have hj' : j = μ.length := by
          obtain ⟨p, h1, _⟩ := Option.map_eq_some_iff.mp hj
          have := (List.getElem?_eq_some_iff.mp h1).1
          simp at this; omega
        subst hj'
        simp at hj
        exact ⟨rfl, hj.symm⟩
    intro i j b hi hj
    rcases hcase i b hi with h1 | ⟨h1, h2⟩ <;> rcases hcase j b hj with h3 | ⟨h3, h4⟩
    · exact R.inj i j b h1 h3
    · subst h4; exact (hnew i h1).elim
    · subst h2; exact (hnew j h3).elim
    · rw [h1, h3]
  · intro i oi e
    rw [List.getElem?_append] at e
    split at e
    · rename_i hi
      obtain ⟨p, h1, h2⟩ := R.objs i oi e
      exact ⟨p, by rw [List.getElem?_append_left (by rw [R.len]; exact hi)]; exact h1, h2.mono hpre hok fun b _ ob q => k _ _ q⟩
    · rename_i hi
      have hi' : i = σ.heap.length := by
        have := (List.getElem?_eq_some_iff.mp e).1
        simp at this; omega
      subst hi'
      simp at e; subst e
      refine ⟨(a, fp), ?_, hO⟩
      rw [← R.len, List.getElem?_append_right (Nat.le_refl _)]; simp
  · intro i ds e b hb
    rw [List.getElem?_append] at e
    split at e
    · rename_i hi
      refine R.frz i ds e b ?_
      unfold root at hb ⊢
      rwa [List.getElem?_append_left (by rw [R.len]; exact hi)] at hb
    · rename_i hi
      have hi' : i = σ.heap.length := by
        have := (List.getElem?_eq_some_iff.mp e).1
        simp at this; omega
      subst hi'
      simp at e
      exact absurd e (hz ds)

theorem root_last {a : Addr} {fp : List Addr} : root (μ ++ [(a, fp)]) μ.length = some a := by unfold root; simp
end

section
variable {X : Cx} {ρ : List Addr} {μ : Mu} {env : Env} {σ : St} {s : Shared}

theorem Step.grow {ow : List Addr} {h' : Heap} {tk : Nat} (k : ∀ b o, s.heap.get? b = some o → h'.get? b = some o) : Step ow μ μ s { s with heap := h', toks := tk } :=
  ⟨⟨h', tk, rfl⟩, fun b o e _ _ => k b o e, fun b o e => ⟨o, k b o e⟩, List.prefix_refl _, fun _ h => .inl h⟩

/-- an end that only takes tokens -/
theorem post_tok {α β : Type} {RV : RVt α β} {b : β} {x : α} (R : Rel X ρ μ env σ s.heap) (tk : Nat) (h : RV s.heap (okOf ρ μ) μ b x) : Post X ρ μ env s RV b σ x { s with toks := tk } :=
  ⟨μ, .grow (h' := s.heap) (tk := tk) fun _ _ e => e, R, h⟩
theorem post_same {α β : Type} {RV : RVt α β} {b : β} {x : α} (R : Rel X ρ μ env σ s.heap) (h : RV s.heap (okOf ρ μ) μ b x) : Post X ρ μ env s RV b σ x s :=
  ⟨μ, .refl _ _ _, R, h⟩
/-- an end that lays a new thing aside -/
theorem post_new {α β : Type} {RV : RVt α β} {b : β} {x : α} (R : Rel X ρ μ env σ s.heap) {h' : Heap} {tk : Nat} (k : ∀ b o, s.heap.get? b = some o → h'.get? b = some o) (h : RV h' (okOf ρ μ) μ b x) :
    Post X ρ μ env s RV b σ x { s with heap := h', toks := tk } := ⟨μ, .grow k, R.ext k, h⟩

theorem Step.newObj {h' : Heap} {tk : Nat} {a : Addr} {fp ow : List Addr} (hf : ∀ b ∈ fp, s.heap.get? b = none) (k : ∀ b o, s.heap.get? b = some o → h'.get? b = some o) :
    Step ow μ (μ ++ [(a, fp)]) s { s with heap := h', toks := tk } :=
  ⟨⟨h', tk, rfl⟩, fun b o e _ _ => k b o e, fun b o e => ⟨o, k b o e⟩, List.prefix_append _ _, fun b hm => by
    rw [foot_append, List.mem_append] at hm
    rcases hm with hm | hm
    · exact .inl hm
    · simp [foot] at hm; exact .inr (hf b hm)⟩

theorem Step.setObj {h' : Heap} {tk : Nat} {ow : List Addr} {i : Nat} {p : Addr × List Addr} (hi : μ[i]? = some p) (k : ∀ b ob, b ∉ p.2 → s.heap.get? b = some ob → h'.get? b = some ob)
    (hl : ∀ b ∈ p.2, ∃ ob, h'.get? b = some ob) : Step ow μ μ s { s with heap := h', toks := tk } :=
  ⟨⟨h', tk, rfl⟩, fun b o e hm _ => k b o (fun h => hm (foot_get hi h)) e, fun b o e => by
    by_cases h : b ∈ p.2
    · exact hl b h
    · exact ⟨o, k b o h e⟩, List.prefix_refl _, fun _ h => .inl h⟩

/-- a fresh list: it may be told as data, or become an object -/
noncomputable def FreshL (X : Cx) (ρ : List Addr) (μ : Mu) (env : Env) (s : Shared) (ds : List PyData) (σ' : St) : Value → Shared → Prop := fun x s' =>
  ∃ μ' s₁ a vs n h' tk, Step (Mine.wrt env) μ μ' s s₁ ∧ Rel X ρ μ' env σ' s₁.heap ∧ x = .ref a ∧ s₁.heap.get? a = none ∧ s' = { s₁ with heap := h', toks := tk } ∧
    (∀ b o, s₁.heap.get? b = some o → h'.get? b = some o) ∧ h'.get? a = some { cls := .type "list", data := .seq vs n } ∧ DRs s₁.heap (okOf ρ μ') ds vs.toList

theorem FreshL.dat {ds : List PyData} {σ' : St} {x : Value} {s' : Shared} (f : FreshL X ρ μ env s ds σ' x s') : Post X ρ μ env s VRr (.dat (.list ds)) σ' x s' := by
  obtain ⟨μ', s₁, a, vs, n, h', tk, st, R, rfl, hf, rfl, k, ha, hd⟩ := f
  refine ⟨μ', st.trans (.grow k), R.ext k, ?_⟩
  show DR _ _ _ _
  simp only [DR]
  exact ⟨a, _, vs, n, rfl, R.okNew hf, ha, rfl, rfl, DRs.mono (fun a o ok e => ⟨k _ _ e, ok⟩) hd⟩

theorem FreshL.obj {ds : List PyData} {σ' : St} {x : Value} {s' : Shared} (f : FreshL X ρ μ env s ds σ' x s') : Post X ρ μ env s VRr (.obj σ'.heap.length) ⟨σ'.loc, σ'.heap ++ [.lst ds]⟩ x s' := by
  obtain ⟨μ', s₁, a, vs, n, h', tk, st, R, rfl, hf, rfl, k, ha, hd⟩ := f
  have hfs : ∀ b ∈ [a], s₁.heap.get? b = none := fun b hb => by simp at hb; subst hb; exact hf
  refine ⟨μ' ++ [(a, [a])], st.trans (.newObj hfs k), R.newObj hfs (by simp) (fun _ h => nomatch h) k (fun b hb => by simp at hb; subst hb; exact ⟨_, ha⟩) ⟨vs, n, rfl, ha, DRs.mono (fun b o ok e => ⟨k _ _ e, ok.1, ?_⟩) hd⟩, ?_⟩
  · show ∃ b, _ ∧ _
    exact ⟨a, by rw [← R.len]; exact root_last, rfl⟩
  · rw [foot_append, List.mem_append]
    rintro (hm | hm)
    · exact ok.2 hm
    · simp [foot] at hm; subst hm; rw [hf] at e; cases e

theorem FreshL.of (R : Rel X ρ μ env σ s.heap) {ds : List PyData} {a : Addr} {vs : Array Value} {n : Nat} {h' : Heap} {tk : Nat} (hf : s.heap.get? a = none) (k : ∀ b o, s.heap.get? b = some o → h'.get? b = some o)
    (ha : h'.get? a = some { cls := .type "list", data := .seq vs n }) (hd : DRs s.heap (okOf ρ μ) ds vs.toList) : FreshL X ρ μ env s ds σ (.ref a) { s with heap := h', toks := tk } :=
  ⟨μ, s, a, vs, n, h', tk, .refl _ _ _, R, rfl, hf, rfl, k, ha, hd⟩
theorem FreshL.trans {μ₁ : Mu} {s₁ : Shared} {ds : List PyData} {σ' : St} {x : Value} {s' : Shared} (st : Step (Mine.wrt env) μ μ₁ s s₁) (f : FreshL X ρ μ₁ env s₁ ds σ' x s') : FreshL X ρ μ env s ds σ' x s' := by
  obtain ⟨μ', s₂, a, vs, n, h', tk, st', r⟩ := f
  exact ⟨μ', s₂, a, vs, n, h', tk, st.trans st', r⟩

/-- the push at the heap's end -/
theorem FreshL.push (R : Rel X ρ μ env σ s.heap) {ds : List PyData} {vs : Array Value} {tk : Nat} (hd : DRs s.heap (okOf ρ μ) ds vs.toList) :
    FreshL X ρ μ env s ds σ (.ref s.heap.objs.size) { s with heap := s.heap.push { cls := .type "list", data := .seq vs }, toks := tk } :=
  .of R (by
    cases e : s.heap.get? s.heap.objs.size with
    | none => rfl
    | some o => exact absurd (Heap.lt_size e) (Nat.lt_irrefl _)) (fun _ _ e => Heap.get?_push_of_some _ e) (Heap.get?_push_size _ rfl) hd
end

theorem fresh_size (h : Heap) : h.get? h.objs.size = none := by
  cases e : h.get? h.objs.size with
  | none => rfl
  | some o => exact absurd (Heap.lt_size e) (Nat.lt_irrefl _)

theorem Rel.fr {X : Cx} {ρ : List Addr} {μ : Mu} {env : Env} {σ : St} {h : Heap} (R : Rel X ρ μ env σ h) : ∃ m, PyProof.Rows.Fr X.base env.locals h m := by
  obtain ⟨m, cm, F, _⟩ := R.frame
  exact ⟨m, F.ns, R.base, R.above⟩

end Mine
end

section
open PySem
set_option Elab.async false
namespace Mine

/-! values read -/
noncomputable def LR (h : Heap) (ok : Addr → Prop) : PyData → Value → Prop
  | .list xs, x => ∃ a o vs n, x = .ref a ∧ h.get? a = some o ∧ o.cls = .type "list" ∧ o.data = .seq vs n ∧ DRs h ok xs vs.toList
  | d, x => DR h ok d x

theorem DR.lr {h : Heap} {ok : Addr → Prop} {d : PyData} {x : Value} (e : DR h ok d x) : LR h ok d x := by
  cases d <;> first | exact e | skip
  simp only [DR] at e
  obtain ⟨a, o, vs, n, h1, _, h2⟩ := e
  exact ⟨a, o, vs, n, h1, h2⟩

theorem LR.reads {h : Heap} {ok : Addr → Prop} : ∀ {d : PyData} {x : Value}, LR h ok d x → (∃ as, Reads h x d as) ∧ d.canLay0 = true
  | .none, _, e => DR.reads (ok := ok) (d := .none) e
  | .bool _, _, e => DR.reads (ok := ok) (d := .bool _) e
  | .int _, _, e => DR.reads (ok := ok) (d := .int _) e
  | .str _, _, e => DR.reads (ok := ok) (d := .str _) e
  | .tuple _, _, e => DR.reads (ok := ok) (d := .tuple _) e
  | .dict _, _, e => DR.reads (ok := ok) (d := .dict _) e
  | .list _, _, e => by
    obtain ⟨a, o, vs, n, rfl, h2, h3, h4, h5⟩ := e
    obtain ⟨⟨as, r⟩, c⟩ := DRs.reads h5
    exact ⟨⟨_, .list h2 h3 h4 r⟩, by simp only [PyData.canLay0]; exact c⟩

section
variable {X : Cx} {A : Around} {ρ : List Addr} {μ : Mu} {env : Env} {σ : St} {s : Shared}

theorem readD_ok {v : V} {x : Value} {d : PyData} {σ' : St} (R : Rel X ρ μ env σ s.heap) (hv : VR s.heap (okOf ρ μ) μ v x) (e : readD v σ = some (d, σ')) : σ' = σ ∧ LR s.heap (okOf ρ μ) d x := by
  cases v with
  | dat d' => cases e; exact ⟨rfl, DR.lr hv⟩
  | obj i =>
    simp only [readD] at e
    obtain ⟨a, h1, rfl⟩ := hv
    cases q : σ.heap[i]? with
    | none => rw [q] at e; cases e
    | some o =>
      rw [q] at e
      obtain ⟨p, h2, h3⟩ := R.objs i o q
      rw [root_some h2] at h1
      cases o with
      | lst ds =>
        cases e
        obtain ⟨vs, n, _, h4, h5⟩ := h3
        cases h1
        exact ⟨rfl, _, _, vs, n, rfl, h4, rfl, rfl, h5⟩
      | frz ds =>
        cases e
        obtain ⟨vs, n, _, h4, h5⟩ := h3
        cases h1
        exact ⟨rfl, _, _, vs, n, rfl, h4, rfl, rfl, h5⟩
      | _ => cases e
  | rng lo hi => cases e
  | emp => cases e

theorem mbind_some {α β : Type} {m : M α} {f : α → M β} {σ σ' : St} {b : β} (e : (m >>= f) σ = some (b, σ')) : ∃ a σ₁, m σ = some (a, σ₁) ∧ f a σ₁ = some (b, σ') := by
  rw [bind_eq] at e
  unfold mbind at e
  cases q : m σ with
  | none => rw [q] at e; cases e
  | some p => rw [q] at e; exact ⟨p.1, p.2, rfl, e⟩
theorem mbind_elim {α β : Type} {m : M α} {f : α → M β} {σ σ' : St} {b : β} {C : Prop} (e : (m >>= f) σ = some (b, σ')) (k : ∀ a σ₁, m σ = some (a, σ₁) → f a σ₁ = some (b, σ') → C) : C := by
  obtain ⟨a, s, h1, h2⟩ := (mbind_some e)
  exact k a s h1 h2
theorem mopt_some {α : Type} {o : Option α} {σ σ' : St} {a : α} (e : mopt o σ = some (a, σ')) : o = some a ∧ σ' = σ := by
  unfold mopt at e
  cases o with
  | none => cases e
  | some b => cases e; exact ⟨rfl, rfl⟩
theorem mpure_some {α : Type} {a b : α} {σ σ' : St} (e : (pure a : M α) σ = some (b, σ')) : a = b ∧ σ' = σ := by
  rw [pure_eq] at e; unfold mpure at e; cases e; exact ⟨rfl, rfl⟩

theorem big_le : big ≤ sizeLine := by rw [sizeLine_eq]; decide

/-- arithmetic -/
theorem W_addD {a b d : PyData} {x y : Value} (R : Rel X ρ μ env σ s.heap) (ha : LR s.heap (okOf ρ μ) a x) (hb : LR s.heap (okOf ρ μ) b y) (e : addD a b = some d) : wpAny (model X.prog X.w) A (binaryOp .Add x y) (Post X ρ μ env s VRr (.dat d) σ) (fun _ _ => False) s := by
  cases a with
  | int i => cases b with
    | int j =>
      cases e
      simp only [LR, DR] at ha hb; obtain ⟨t, rfl⟩ := ha; obtain ⟨u, rfl⟩ := hb
      exact PyProof.Rows.add_int (post_tok R _ (by show DR _ _ _ _; simp only [DR]; exact ⟨_, rfl⟩))
    | _ => cases e
  | str x' => cases b with
    | str y' =>
      have e' : (if x'.length + y'.length ≤ big then some (PyData.str (x' ++ y')) else none) = some d := e
      split at e'
      · rename_i hl
        cases e'
        simp only [LR, DR] at ha hb; obtain ⟨q1, t, rfl⟩ := ha; obtain ⟨q2, u, rfl⟩ := hb
        refine PyProof.Rows.add_str (fun t' tk => post_tok R _ ?_) (Nat.le_trans hl big_le)
        show DR _ _ _ _
        simp only [DR]
        refine ⟨?_, _, rfl⟩
        unfold asc at *
        show List.all ((x'.cps ++ y'.cps).toList) pc = true
        rw [Array.toList_append, List.all_append, q1, q2]; rfl
      · cases e'
    | _ => cases e
  | _ => cases e
/-- on whole numbers -/
theorem W_intD {op : Operator} {f : Int → Int → Option Int} {a b d : PyData} {x y : Value} (R : Rel X ρ μ env σ s.heap) (ha : LR s.heap (okOf ρ μ) a x) (hb : LR s.heap (okOf ρ μ) b y) (e : intD f a b = some d)
    (hh : ∀ i j k t u, a = .int i → b = .int j → x = .int i t → y = .int j u → f i j = some k → d = .int k → wpAny (model X.prog X.w) A (binaryOp op x y) (Post X ρ μ env s VRr (.dat d) σ) (fun _ _ => False) s) : wpAny (model X.prog X.w) A (binaryOp op x y) (Post X ρ μ env s VRr (.dat d) σ) (fun _ _ => False) s := by
  cases a with
  | int i => cases b with
    | int j =>
      have e' : (f i j).map PyData.int = some d := e
      cases hf : f i j with
      | none => rw [hf] at e'; cases e'
      | some k =>
        rw [hf] at e'
        cases e'
        simp only [LR, DR] at ha hb; obtain ⟨t, rfl⟩ := ha; obtain ⟨u, rfl⟩ := hb
        exact hh i j k t u rfl rfl rfl rfl hf rfl
    | _ => cases e
  | _ => cases e
theorem W_binD {op : Operator} {a b d : PyData} {x y : Value} (R : Rel X ρ μ env σ s.heap) (ha : LR s.heap (okOf ρ μ) a x) (hb : LR s.heap (okOf ρ μ) b y) (e : binD op a b = some d) : wpAny (model X.prog X.w) A (binaryOp op x y) (Post X ρ μ env s VRr (.dat d) σ) (fun _ _ => False) s := by
  cases op with
  | Add => exact W_addD R ha hb e
  | Sub =>
    refine W_intD R ha hb e fun i j k t u _ _ hx hy hf hd => ?_
    subst hx hy hd
    cases hf
    exact PyProof.Rows.sub_int' (post_tok R _ (by show DR _ _ _ _; simp only [DR]; exact ⟨_, rfl⟩))
  | Mult =>
    refine W_intD R ha hb e fun i j k t u _ _ hx hy hf hd => ?_
    subst hx hy hd
    unfold mulI at hf
    split at hf
    · rename_i hl
      cases hf
      exact PyProof.Rows.mul_int (post_tok R _ (by show DR _ _ _ _; simp only [DR]; exact ⟨_, rfl⟩)) (IntMulOk.of_left (intBits_le_64 (by omega) (by omega)))
    · cases hf
  | FloorDiv =>
    refine W_intD R ha hb e fun i j k t u _ _ hx hy hf hd => ?_
    subst hx hy hd
    unfold fdivI at hf
    split at hf
    · rename_i hl
      cases hf
      exact PyProof.Rows.floordiv_int hl.1 (post_tok R _ (by show DR _ _ _ _; simp only [DR]; exact ⟨_, rfl⟩)) (.inl (PyProof.noPylong_small (by omega)))
    · cases hf
  | Mod =>
    refine W_intD R ha hb e fun i j k t u _ _ hx hy hf hd => ?_
    subst hx hy hd
    unfold modI at hf
    split at hf
    · rename_i hl
      cases hf
      exact PyProof.Rows.mod_int' hl (post_tok R _ (by show DR _ _ _ _; simp only [DR]; exact ⟨_, rfl⟩))
    · cases hf
  | _ => cases e

theorem list_of_LR {xs : List PyData} {x : Value} (e : LR s.heap (okOf ρ μ) (.list xs) x) : ∃ a vs, x = .ref a ∧ s.heap.IsList a vs ∧ DRs s.heap (okOf ρ μ) xs vs.toList := by
  obtain ⟨a, o, vs, n, rfl, h2, h3, h4, h5⟩ := e
  exact ⟨a, vs, rfl, ⟨o, h2, h3, n, h4⟩, h5⟩

/-- lists laid together -/
theorem W_binL {op : Operator} {a b : PyData} {ds : List PyData} {x y : Value} (R : Rel X ρ μ env σ s.heap) (ha : LR s.heap (okOf ρ μ) a x) (hb : LR s.heap (okOf ρ μ) b y) (e : binL op a b = some ds) :
    wpAny (model X.prog X.w) A (binaryOp op x y) (FreshL X ρ μ env s ds σ) (fun _ _ => False) s := by
  unfold binL at e
  split at e <;> first | cases e | skip
  · split at e
    · cases e
      rename_i xs ys hl
      obtain ⟨a, vs, rfl, hA, hd⟩ := list_of_LR ha
      obtain ⟨b, ws, rfl, hB, hd2⟩ := list_of_LR hb
      have l1 := hd.length
      have l2 := hd2.length
      obtain ⟨⟨cls, dd, data, sl⟩, ho, hc, n, hdt⟩ := id hA
      obtain ⟨⟨cls2, dd2, data2, sl2⟩, ho2, hc2, n2, hdt2⟩ := id hB
      simp only at hc hdt hc2 hdt2
      subst hc hdt hc2 hdt2
      refine concat_meets ⟨_, ho, rfl⟩ ⟨_, ho2, rfl⟩ noFill_list_add seq_list_add PySem.F.slot_list_add PySem.F.entry_list_add (PySem.F.args_list_add_2 _ _) (PyProof.Rows.list_addW a b vs ws n n2 dd dd2 sl sl2 ?_) ⟨ho, ho2, ?_⟩
      · rw [Array.length_toList] at l1 l2
        rw [l1, l2]; exact Nat.le_trans hl big_le
      · exact FreshL.push R (by rw [Array.toList_append]; exact hd.append hd2)
    · cases e

theorem readD_state {v : V} {d : PyData} {σ σ' : St} (e : readD v σ = some (d, σ')) : σ' = σ := by
  cases v with
  | dat d' => cases e; rfl
  | obj i =>
    simp only [readD] at e
    split at e <;> cases e <;> rfl
  | rng lo hi => cases e
  | emp => cases e

theorem W_binS {op : Operator} {a b : V} {x y : Value} (R : Rel X ρ μ env σ s.heap) (ha : VR s.heap (okOf ρ μ) μ a x) (hb : VR s.heap (okOf ρ μ) μ b y) :
    W X A ρ μ env s VRr (binaryOp op x y) (binS op a b σ) := by
  intro r σ' e
  unfold binS at e
  refine mbind_elim e fun d1 σ1 e1 q => ?_
  have h1 := readD_state e1; subst h1
  refine mbind_elim q fun d2 σ2 e2 q2 => ?_
  have h2 := readD_state e2; subst h2
  have l1 := (readD_ok R ha e1).2
  have l2 := (readD_ok R hb e2).2
  cases hd : binD op d1 d2 with
  | some d =>
    rw [hd] at q2
    obtain ⟨rfl, rfl⟩ := mpure_some q2
    exact W_binD R l1 l2 hd
  | none =>
    rw [hd] at q2
    refine mbind_elim q2 fun ds σ3 e3 q3 => ?_
    obtain ⟨e4, h3⟩ := mopt_some e3
    subst h3
    obtain ⟨rfl, rfl⟩ := mpure_some q3
    exact wpAny_mono (W_binL R l1 l2 e4) (fun _ _ f => f.dat) fun _ _ z => z

theorem LR.isNone {h : Heap} {ok : Addr → Prop} : ∀ {a : PyData} {x : Value}, LR h ok a x → (x == Value.none) = (match a with | .none => true | _ => false)
  | .none, _, e => by simp only [LR, DR] at e; subst e; rfl
  | .bool _, _, e => by simp only [LR, DR] at e; subst e; rfl
  | .int _, _, e => by simp only [LR, DR] at e; obtain ⟨_, rfl⟩ := e; rfl
  | .str _, _, e => by simp only [LR, DR] at e; obtain ⟨_, _, rfl⟩ := e; rfl
  | .list _, _, e => by simp only [LR] at e; obtain ⟨_, _, _, _, rfl, _⟩ := e; rfl
  | .tuple _, _, e => by simp only [LR, DR] at e; obtain ⟨_, _, _, _, rfl, _⟩ := e; rfl
  | .dict _, _, e => by simp only [LR, DR] at e

theorem DRs.mem {h : Heap} {ok : Addr → Prop} {ds : List PyData} {vs : List Value} (e : DRs h ok ds vs) {y : Value} (hy : y ∈ vs) : ∃ d, DR h ok d y ∧ d ∈ ds := by
  obtain ⟨k, hk⟩ := List.getElem?_of_mem hy
  obtain ⟨d, h1, h2⟩ := e.getV hk
  exact ⟨d, h2, List.mem_of_getElem? h1⟩

theorem DR.unique {h : Heap} {ok : Addr → Prop} {d d' : PyData} {x : Value} (a : DR h ok d x) (b : DR h ok d' x) : d = d' := by
  obtain ⟨⟨as, r1⟩, c1⟩ := a.reads
  obtain ⟨⟨bs, r2⟩, c2⟩ := b.reads
  exact PySem.SeqAt.Reads.unique d d' x as bs c1 r1 r2

open Classical in
theorem in_any {a : PyData} {ds : List PyData} {x : Value} {vs : List Value} (hA : A.units + 60 < cLine) (hds : DRs s.heap (okOf ρ μ) ds vs) (ha : LR s.heap (okOf ρ μ) a x) (hdep : a.depth ≤ 50) :
    ∃ ef : Value → Bool, (∀ y ∈ vs, PySem.SeqAt.EqAt A.in1 s y x (ef y)) ∧ vs.any ef = ds.any fun d => PyData.eqv d a := by
  refine ⟨fun y => decide (∃ d, DR s.heap (okOf ρ μ) d y ∧ PyData.eqv d a = true), fun y hy => ?_, ?_⟩
  · obtain ⟨d, h1, _⟩ := hds.mem hy
    have : decide (∃ d, DR s.heap (okOf ρ μ) d y ∧ PyData.eqv d a = true) = PyData.eqv d a := by
      cases q : PyData.eqv d a with
      | true => exact decide_eq_true ⟨d, h1, q⟩
      | false =>
        refine decide_eq_false fun ⟨d', h2, h3⟩ => ?_
        rw [← DR.unique h1 h2, q] at h3; cases h3
    show PySem.SeqAt.EqAt A.in1 s y x (decide (∃ d, DR s.heap (okOf ρ μ) d y ∧ PyData.eqv d a = true))
    rw [this]
    obtain ⟨⟨as, r1⟩, c1⟩ := h1.reads
    obtain ⟨⟨bs, r2⟩, c2⟩ := ha.reads
    refine PySem.SeqAt.eqAt_reads d a A.in1 s y x as bs r1 r2 c1 c2 ?_
    show A.units + 1 + min d.depth a.depth < cLine
    omega
  · clear hdep ha
    induction ds generalizing vs with
    | nil => simp only [DRs] at hds; subst hds; rfl
    | cons d ds ih =>
      simp only [DRs] at hds
      obtain ⟨v, r, rfl, h1, h2⟩ := hds
      simp only [List.any_cons]
      rw [ih h2]
      congr 1
      cases q : PyData.eqv d a with
      | true => exact decide_eq_true ⟨d, h1, q⟩
      | false =>
        refine decide_eq_false fun ⟨d', h2, h3⟩ => ?_
        rw [← DR.unique h1 h2, q] at h3; cases h3

theorem W_eqD {a b : PyData} {r : Bool} {x y : Value} (hA : A.units + 60 < cLine) (R : Rel X ρ μ env σ s.heap) (ha : LR s.heap (okOf ρ μ) a x) (hb : LR s.heap (okOf ρ μ) b y) (e : eqD a b = some r) : wpAny (model X.prog X.w) A (compareOp .Eq x y) (Post X ρ μ env s VRr (.dat (.bool r)) σ) (fun _ _ => False) s := by
  have fin0 : Post X ρ μ env s VRr (.dat (.bool r)) σ (.bool r) s := post_same R (by show DR _ _ _ _; simp only [DR])
  unfold eqD at e
  split at e
  · cases e
    obtain ⟨⟨as, ra⟩, ca⟩ := ha.reads
    obtain ⟨⟨bs, rb⟩, cb⟩ := hb.reads
    exact PySem.SeqAt.compareEq_reads ra rb ca cb (by omega) fin0
  · cases e
theorem W_neD {a b : PyData} {r : Bool} {x y : Value} (hA : A.units + 60 < cLine) (R : Rel X ρ μ env σ s.heap) (ha : LR s.heap (okOf ρ μ) a x) (hb : LR s.heap (okOf ρ μ) b y) (e : neD a b = some r) : wpAny (model X.prog X.w) A (compareOp .NotEq x y) (Post X ρ μ env s VRr (.dat (.bool r)) σ) (fun _ _ => False) s := by
  have fin0 : Post X ρ μ env s VRr (.dat (.bool r)) σ (.bool r) s := post_same R (by show DR _ _ _ _; simp only [DR])
  unfold neD at e
  split at e
  · cases e
    obtain ⟨⟨as, ra⟩, ca⟩ := ha.reads
    obtain ⟨⟨bs, rb⟩, cb⟩ := hb.reads
    exact PySem.SeqAt.compareNe_reads ra rb ca cb (by omega) fin0
  · cases e
theorem W_ltD {a b : PyData} {r : Bool} {x y : Value} (R : Rel X ρ μ env σ s.heap) (ha : LR s.heap (okOf ρ μ) a x) (hb : LR s.heap (okOf ρ μ) b y) (e : ltD a b = some r) : wpAny (model X.prog X.w) A (compareOp .Lt x y) (Post X ρ μ env s VRr (.dat (.bool r)) σ) (fun _ _ => False) s := by
  have fin0 : Post X ρ μ env s VRr (.dat (.bool r)) σ (.bool r) s := post_same R (by show DR _ _ _ _; simp only [DR])
  cases a with
  | int i => cases b with
    | int j => cases e; simp only [LR, DR] at ha hb; obtain ⟨t, rfl⟩ := ha; obtain ⟨u, rfl⟩ := hb; exact PyProof.Rows.lt_int fin0
    | _ => cases e
  | str i => cases b with
    | str j => cases e; simp only [LR, DR] at ha hb; obtain ⟨_, t, rfl⟩ := ha; obtain ⟨_, u, rfl⟩ := hb; exact PyProof.Rows.lt_str fin0
    | _ => cases e
  | _ => cases e
theorem W_leD {a b : PyData} {r : Bool} {x y : Value} (R : Rel X ρ μ env σ s.heap) (ha : LR s.heap (okOf ρ μ) a x) (hb : LR s.heap (okOf ρ μ) b y) (e : leD a b = some r) : wpAny (model X.prog X.w) A (compareOp .LtE x y) (Post X ρ μ env s VRr (.dat (.bool r)) σ) (fun _ _ => False) s := by
  have fin0 : Post X ρ μ env s VRr (.dat (.bool r)) σ (.bool r) s := post_same R (by show DR _ _ _ _; simp only [DR])
  cases a with
  | int i => cases b with
    | int j => cases e; simp only [LR, DR] at ha hb; obtain ⟨t, rfl⟩ := ha; obtain ⟨u, rfl⟩ := hb; exact PyProof.Rows.le_int fin0
    | _ => cases e
  | str i => cases b with
    | str j => cases e; simp only [LR, DR] at ha hb; obtain ⟨_, t, rfl⟩ := ha; obtain ⟨_, u, rfl⟩ := hb; exact PySem.P.le_str fin0
    | _ => cases e
  | _ => cases e
theorem W_gtD {a b : PyData} {r : Bool} {x y : Value} (R : Rel X ρ μ env σ s.heap) (ha : LR s.heap (okOf ρ μ) a x) (hb : LR s.heap (okOf ρ μ) b y) (e : gtD a b = some r) : wpAny (model X.prog X.w) A (compareOp .Gt x y) (Post X ρ μ env s VRr (.dat (.bool r)) σ) (fun _ _ => False) s := by
  have fin0 : Post X ρ μ env s VRr (.dat (.bool r)) σ (.bool r) s := post_same R (by show DR _ _ _ _; simp only [DR])
  cases a with
  | int i => cases b with
    | int j => cases e; simp only [LR, DR] at ha hb; obtain ⟨t, rfl⟩ := ha; obtain ⟨u, rfl⟩ := hb; exact PyProof.Rows.gt_int fin0
    | _ => cases e
  | str i => cases b with
    | str j => cases e; simp only [LR, DR] at ha hb; obtain ⟨_, t, rfl⟩ := ha; obtain ⟨_, u, rfl⟩ := hb; exact PySem.P.gt_str fin0
    | _ => cases e
  | _ => cases e
theorem W_geD {a b : PyData} {r : Bool} {x y : Value} (R : Rel X ρ μ env σ s.heap) (ha : LR s.heap (okOf ρ μ) a x) (hb : LR s.heap (okOf ρ μ) b y) (e : geD a b = some r) : wpAny (model X.prog X.w) A (compareOp .GtE x y) (Post X ρ μ env s VRr (.dat (.bool r)) σ) (fun _ _ => False) s := by
  have fin0 : Post X ρ μ env s VRr (.dat (.bool r)) σ (.bool r) s := post_same R (by show DR _ _ _ _; simp only [DR])
  cases a with
  | int i => cases b with
    | int j => cases e; simp only [LR, DR] at ha hb; obtain ⟨t, rfl⟩ := ha; obtain ⟨u, rfl⟩ := hb; exact PyProof.Rows.ge_int fin0
    | _ => cases e
  | str i => cases b with
    | str j => cases e; simp only [LR, DR] at ha hb; obtain ⟨_, t, rfl⟩ := ha; obtain ⟨_, u, rfl⟩ := hb; exact PySem.P.ge_str fin0
    | _ => cases e
  | _ => cases e
theorem W_inDS {x' y' : Str} {r : Bool} {x y : Value} (R : Rel X ρ μ env σ s.heap) (ha : LR s.heap (okOf ρ μ) (.str x') x) (hb : LR s.heap (okOf ρ μ) (.str y') y) (e : inStr x' y' id = some r) : wpAny (model X.prog X.w) A (compareOp .In x y) (Post X ρ μ env s VRr (.dat (.bool r)) σ) (fun _ _ => False) s := by
  have fin0 : Post X ρ μ env s VRr (.dat (.bool r)) σ (.bool r) s := post_same R (by show DR _ _ _ _; simp only [DR])
  unfold inStr at e
  split at e
  · rename_i c hc
    cases e
    simp only [LR, DR] at ha hb; obtain ⟨_, t, rfl⟩ := ha; obtain ⟨_, u, rfl⟩ := hb
    refine PyProof.Rows.in_str ?_
    have : x' = ⟨#[c]⟩ := by
      cases x' with | mk a => exact congrArg Str.mk (Array.toList_inj.mp (by simpa using hc))
    rw [this, StrLaws.found_one]
    exact fin0
  · cases e
theorem W_inDL {a : PyData} {ds : List PyData} {r : Bool} {x y : Value} (hA : A.units + 60 < cLine) (R : Rel X ρ μ env σ s.heap) (ha : LR s.heap (okOf ρ μ) a x) (hb : LR s.heap (okOf ρ μ) (.list ds) y) (e : inLst a ds id = some r) : wpAny (model X.prog X.w) A (compareOp .In x y) (Post X ρ μ env s VRr (.dat (.bool r)) σ) (fun _ _ => False) s := by
  have fin0 : Post X ρ μ env s VRr (.dat (.bool r)) σ (.bool r) s := post_same R (by show DR _ _ _ _; simp only [DR])
  unfold inLst at e
  split at e
  · rename_i hdep
    cases e
    obtain ⟨l, vs, rfl, hL, hds⟩ := list_of_LR hb
    obtain ⟨ef, h1, h2⟩ := in_any hA hds ha hdep
    refine PySem.SeqAt.in_listAt ef hL (fun y hy => h1 y (Array.mem_toList_iff.mpr hy)) ?_
    rw [← Array.any_toList, h2]; exact fin0
  · cases e
theorem W_inD {a b : PyData} {r : Bool} {x y : Value} (hA : A.units + 60 < cLine) (R : Rel X ρ μ env σ s.heap) (ha : LR s.heap (okOf ρ μ) a x) (hb : LR s.heap (okOf ρ μ) b y) (e : inD id a b = some r) : wpAny (model X.prog X.w) A (compareOp .In x y) (Post X ρ μ env s VRr (.dat (.bool r)) σ) (fun _ _ => False) s := by
  cases b with
  | str y' => cases a with
    | str x' => exact W_inDS R ha hb e
    | _ => cases e
  | list ds => exact W_inDL hA R ha hb (by cases a <;> exact e)
  | _ => cases a <;> cases e
theorem W_notInDS {x' y' : Str} {r : Bool} {x y : Value} (R : Rel X ρ μ env σ s.heap) (ha : LR s.heap (okOf ρ μ) (.str x') x) (hb : LR s.heap (okOf ρ μ) (.str y') y) (e : inStr x' y' not = some r) : wpAny (model X.prog X.w) A (compareOp .NotIn x y) (Post X ρ μ env s VRr (.dat (.bool r)) σ) (fun _ _ => False) s := by
  have fin0 : Post X ρ μ env s VRr (.dat (.bool r)) σ (.bool r) s := post_same R (by show DR _ _ _ _; simp only [DR])
  unfold inStr at e
  split at e
  · rename_i c hc
    cases e
    simp only [LR, DR] at ha hb; obtain ⟨_, t, rfl⟩ := ha; obtain ⟨_, u, rfl⟩ := hb
    refine PyProof.Rows.notIn_str ?_
    have : x' = ⟨#[c]⟩ := by
      cases x' with | mk a => exact congrArg Str.mk (Array.toList_inj.mp (by simpa using hc))
    rw [this, StrLaws.found_one]
    exact fin0
  · cases e
theorem W_notInDL {a : PyData} {ds : List PyData} {r : Bool} {x y : Value} (hA : A.units + 60 < cLine) (R : Rel X ρ μ env σ s.heap) (ha : LR s.heap (okOf ρ μ) a x) (hb : LR s.heap (okOf ρ μ) (.list ds) y) (e : inLst a ds not = some r) : wpAny (model X.prog X.w) A (compareOp .NotIn x y) (Post X ρ μ env s VRr (.dat (.bool r)) σ) (fun _ _ => False) s := by
  have fin0 : Post X ρ μ env s VRr (.dat (.bool r)) σ (.bool r) s := post_same R (by show DR _ _ _ _; simp only [DR])
  unfold inLst at e
  split at e
  · rename_i hdep
    cases e
    obtain ⟨l, vs, rfl, hL, hds⟩ := list_of_LR hb
    obtain ⟨ef, h1, h2⟩ := in_any hA hds ha hdep
    refine PySem.SeqAt.notIn_listAt ef hL (fun y hy => h1 y (Array.mem_toList_iff.mpr hy)) ?_
    rw [← Array.any_toList, h2]; exact fin0
  · cases e
theorem W_notInD {a b : PyData} {r : Bool} {x y : Value} (hA : A.units + 60 < cLine) (R : Rel X ρ μ env σ s.heap) (ha : LR s.heap (okOf ρ μ) a x) (hb : LR s.heap (okOf ρ μ) b y) (e : inD not a b = some r) : wpAny (model X.prog X.w) A (compareOp .NotIn x y) (Post X ρ μ env s VRr (.dat (.bool r)) σ) (fun _ _ => False) s := by
  cases b with
  | str y' => cases a with
    | str x' => exact W_notInDS R ha hb e
    | _ => cases e
  | list ds => exact W_notInDL hA R ha hb (by cases a <;> exact e)
  | _ => cases a <;> cases e
theorem W_isD {a b : PyData} {r : Bool} {x y : Value} (R : Rel X ρ μ env σ s.heap) (ha : LR s.heap (okOf ρ μ) a x) (hb : LR s.heap (okOf ρ μ) b y) (e : isD id a b = some r) : wpAny (model X.prog X.w) A (compareOp .Is x y) (Post X ρ μ env s VRr (.dat (.bool r)) σ) (fun _ _ => False) s := by
  have fin0 : Post X ρ μ env s VRr (.dat (.bool r)) σ (.bool r) s := post_same R (by show DR _ _ _ _; simp only [DR])
  cases b with
  | none =>
    cases e
    simp only [LR, DR] at hb; subst hb
    refine is_none ?_
    rw [ha.isNone]
    cases a <;> exact fin0
  | _ => cases e
theorem W_isNotD {a b : PyData} {r : Bool} {x y : Value} (R : Rel X ρ μ env σ s.heap) (ha : LR s.heap (okOf ρ μ) a x) (hb : LR s.heap (okOf ρ μ) b y) (e : isD not a b = some r) : wpAny (model X.prog X.w) A (compareOp .IsNot x y) (Post X ρ μ env s VRr (.dat (.bool r)) σ) (fun _ _ => False) s := by
  have fin0 : Post X ρ μ env s VRr (.dat (.bool r)) σ (.bool r) s := post_same R (by show DR _ _ _ _; simp only [DR])
  cases b with
  | none =>
    cases e
    simp only [LR, DR] at hb; subst hb
    refine isNot_none ?_
    rw [ha.isNone]
    cases a <;> exact fin0
  | _ => cases e
theorem W_cmpD {op : CmpOp} {a b : PyData} {r : Bool} {x y : Value} (hA : A.units + 60 < cLine) (R : Rel X ρ μ env σ s.heap) (ha : LR s.heap (okOf ρ μ) a x) (hb : LR s.heap (okOf ρ μ) b y) (e : cmpD op a b = some r) : wpAny (model X.prog X.w) A (compareOp op x y) (Post X ρ μ env s VRr (.dat (.bool r)) σ) (fun _ _ => False) s := by
  cases op with
  | Eq => exact W_eqD hA R ha hb e
  | NotEq => exact W_neD hA R ha hb e
  | Lt => exact W_ltD R ha hb e
  | LtE => exact W_leD R ha hb e
  | Gt => exact W_gtD R ha hb e
  | GtE => exact W_geD R ha hb e
  | In => exact W_inD hA R ha hb e
  | NotIn => exact W_notInD hA R ha hb e
  | Is => exact W_isD R ha hb e
  | IsNot => exact W_isNotD R ha hb e

end
end Mine
end

section
open PySem
set_option Elab.async false
namespace Mine

noncomputable def Tr {α β : Type} (X : Cx) (n : Nat) (env : Env) (RV : RVt α β) (t : Sem α) (m : M β) : Prop :=
  ∀ A ρ μ σ s, Ga n A → Rel X ρ μ env σ s.heap → W X A ρ μ env s RV t (m σ)

noncomputable def Ev (X : Cx) (n : Nat) (env : Env) (e : Expr) (m : M V) : Prop := Tr X n env VRr (eval e env) m
noncomputable def Te (X : Cx) (n : Nat) (env : Env) (e : Expr) (m : M Bool) : Prop := Tr X n env EqR (isTrue e env (eval e env)) m

noncomputable def VRl (h : Heap) (ok : Addr → Prop) (μ : Mu) : List V → List Value → Prop
  | [], xs => xs = []
  | v :: vs, xs => ∃ x r, xs = x :: r ∧ VR h ok μ v x ∧ VRl h ok μ vs r
noncomputable def VRs : RVt (List Value) (List V) := fun h ok μ vs xs => VRl h ok μ vs xs

theorem VRl.mono {h h' : Heap} {ok ok' : Addr → Prop} {μ μ' : Mu} (p : ∀ i a, root μ i = some a → root μ' i = some a) (k : ∀ a o, ok a → h.get? a = some o → h'.get? a = some o ∧ ok' a) :
    ∀ {vs : List V} {xs : List Value}, VRl h ok μ vs xs → VRl h' ok' μ' vs xs
  | [], _, e => e
  | _ :: _, _, e => by obtain ⟨x, r, rfl, h1, h2⟩ := e; exact ⟨x, r, rfl, h1.mono p k, h2.mono p k⟩
theorem VRl.dats {h : Heap} {ok : Addr → Prop} {μ : Mu} : ∀ {vs : List V} {xs : List Value} {ds : List PyData}, VRl h ok μ vs xs → allDat vs = some ds → DRs h ok ds xs
  | [], _, _, e, q => by cases q; simp only [DRs]; exact e
  | .dat d :: vs, _, _, e, q => by
    obtain ⟨x, r, rfl, h1, h2⟩ := e
    simp only [allDat] at q
    obtain ⟨ds', q1, rfl⟩ := Option.map_eq_some_iff.mp q
    simp only [DRs]
    exact ⟨x, r, rfl, h1, h2.dats q1⟩
  | .obj _ :: _, _, _, _, q => by cases q
  | .rng _ _ :: _, _, _, _, q => by cases q
  | .emp :: _, _, _, _, q => by cases q
theorem VRl.length {h : Heap} {ok : Addr → Prop} {μ : Mu} : ∀ {vs : List V} {xs : List Value}, VRl h ok μ vs xs → xs.length = vs.length
  | [], _, e => by rw [show _ = [] from e]; rfl
  | _ :: _, _, e => by obtain ⟨x, r, rfl, _, h2⟩ := e; simp [h2.length]

section
variable {X : Cx} {n : Nat} {env : Env}

/-! truth -/
theorem W_truthS {A : Around} {ρ : List Addr} {μ : Mu} {σ : St} {s : Shared} {v : V} {x : Value} (R : Rel X ρ μ env σ s.heap) (hv : VR s.heap (okOf ρ μ) μ v x) :
    W X A ρ μ env s EqR (truthy x) (truthS v σ) := by
  intro b σ' e
  unfold truthS at e
  refine mbind_elim e fun d σ1 e1 q => ?_
  have h1 := readD_state e1; subst h1
  obtain ⟨e2, h2⟩ := mopt_some q
  subst h2
  have l1 := (readD_ok R hv e1).2
  have fin : ∀ tk, Post X ρ μ env s EqR b σ' b { s with toks := tk } := fun tk => post_tok R tk rfl
  have fin0 : Post X ρ μ env s EqR b σ' b s := post_same R rfl
  unfold truthD at e2
  split at e2
  · cases e2; simp only [LR, DR] at l1; subst l1; exact PyProof.Rows.truthy_none fin0
  · cases e2; simp only [LR, DR] at l1; subst l1; exact wpAny_truthy_bool fin0
  · cases e2; simp only [LR, DR] at l1; obtain ⟨t, rfl⟩ := l1; exact PyProof.Rows.truthy_int fin0
  · split at e2
    · rename_i hl
      cases e2; simp only [LR, DR] at l1; obtain ⟨_, t, rfl⟩ := l1
      rename_i y _
      have : ((y.length : Int) != 0) = (y.length != 0) := by
        rw [Bool.eq_iff_iff]; simp only [bne_iff_ne, ne_eq]; omega
      refine PySem.P.truthy_str (by unfold big at hl; omega) ?_
      rw [this]; exact fin _
    · cases e2
  · split at e2
    · rename_i hl
      cases e2
      obtain ⟨a, vs, rfl, hL, hd⟩ := list_of_LR l1
      have ln := hd.length
      rw [Array.length_toList] at ln
      refine wpAny_truthy_list hL (by unfold big at hl; omega) ?_
      rename_i ds
      have : (!vs.isEmpty) = (ds.length != 0) := by
        rw [Bool.eq_iff_iff]; simp only [Array.isEmpty, bne_iff_ne, ne_eq, Bool.not_eq_true', decide_eq_false_iff_not]; omega
      rw [this]; exact fin _
    · cases e2
  · cases e2

/-! nodes -/
theorem Ev_Constant {c : Const} {k : Nat} {pos : Pos} : Ev X n env (.Constant c k pos) (constS c) := by
  intro A ρ μ σ s ga R v σ' e
  cases c with
  | none => cases e; exact wpAny_Constant_none (post_same R (by show DR _ _ _ _; simp only [DR]))
  | bool b => cases e; exact wpAny_Constant_bool (post_same R (by show DR _ _ _ _; simp only [DR]))
  | int i => cases e; exact wpAny_Constant_int (post_tok R _ (by show DR _ _ _ _; simp only [DR]; exact ⟨_, rfl⟩))
  | str x =>
    simp only [constS] at e
    split at e
    · rename_i h; cases e; exact wpAny_Constant_str (post_tok R _ (by show DR _ _ _ _; simp only [DR]; exact ⟨h, _, rfl⟩))
    · cases e
  | _ => cases e

theorem dbg_false {x : Str} (h : x ≠ dbg) : (x == ("__debug__" : Str)) = false := by
  rw [Bool.eq_false_iff]; intro q; exact h (beq_iff_eq.mp q)

theorem valOf_load {A : Around} {h : Heap} {m cm : Str → Option Value} {x : Str} {val : Value} {s : Shared} {Q : Value → Shared → Prop} (F : FrameR env s.heap m cm) (e : valOf env m cm x = some val) (q : Q val s) :
    wpAny (model X.prog X.w) A (loadName env x) Q (fun _ _ => False) s := by
  unfold valOf at e
  split at e
  · rename_i hk; exact wpAny_loadName_local F.kind hk F.ns e q
  · rename_i hk
    split at e
    · rename_i hc
      obtain ⟨c, hc⟩ := Option.isSome_iff_exists.mp hc
      exact wpAny_loadName_cell F.kind hk hc (e ▸ F.cell x c hc) q
    · cases e
  · cases e

theorem Ev_Name {x : Str} {pos : Pos} : Ev X n env (.Name x pos) (nameS x) := by
  intro A ρ μ σ s ga R v σ' e
  unfold nameS at e
  split at e
  · rename_i h
    subst h
    cases e
    show wpAny _ _ (eval (.Name (Str.ofString "__debug__") pos) env) _ _ _
    rw [arm_eval_Name]
    refine wpAny_bind (wpAny_standAt ?_)
    rw [if_pos (by decide)]
    exact wpAny_bind (wpAny_rule (wpAny_pure (post_same R (by show DR _ _ _ _; simp only [DR]))))
  · rename_i h
    unfold getLoc at e
    obtain ⟨v', h1, h2⟩ := Option.map_eq_some_iff.mp e
    cases h2
    obtain ⟨m, cm, F, l⟩ := R.frame
    obtain ⟨val, q1, q2⟩ := l x v h1
    refine wpAny_Name ?_ (dbg_false h)
    exact valOf_load (h := s.heap) F q1 (post_same R q2)

theorem Ev_BinOp {l r : Expr} {op : Operator} {pos : Pos} {ml mr : M V} (hl : Ev X n env l ml) (hr : Ev X n env r mr) :
    Ev X n env (.BinOp l op r pos) (do let a ← ml; let b ← mr; binS op a b) := by
  intro A ρ μ σ s ga R
  rw [arm_eval_BinOp]
  refine W_bind (hl A ρ μ σ s ga R) fun μ₁ s₁ a σ₁ x st₁ R₁ v₁ => W_bind (W_holding (hr A ρ μ₁ σ₁ s₁ ga R₁)) fun μ₂ s₂ b σ₂ y st₂ R₂ v₂ => W_standAt (W_operate (W_binS R₂ (VR.step R₁ st₂ v₁) v₂))

theorem W_cond {α β : Type} {A : Around} {ρ : List Addr} {μ : Mu} {σ : St} {s : Shared} {RV : RVt α β} {c : Bool} {t u : Sem α} {m k : M β} (h1 : c = true → W X A ρ μ env s RV t (m σ)) (h2 : c = false → W X A ρ μ env s RV u (k σ)) :
    W X A ρ μ env s RV (if c = true then t else u) ((bif c then m else k) σ) := by
  cases c with
  | true => exact h1 rfl
  | false => exact h2 rfl

theorem Ev_IfExp {t b o : Expr} {pos : Pos} {mt : M Bool} {mb mo : M V} (ht : Te X n env t mt) (hb : Ev X n env b mb) (ho : Ev X n env o mo) :
    Ev X n env (.IfExp t b o pos) (do let c ← mt; bif c then mb else mo) := by
  intro A ρ μ σ s ga R
  rw [arm_eval_IfExp]
  refine W_bind (ht A ρ μ σ s ga R) fun μ₁ s₁ c σ₁ x st₁ R₁ v₁ => ?_
  have : x = c := v₁
  subst this
  exact W_cond (fun _ => hb A ρ μ₁ σ₁ s₁ ga R₁) fun _ => ho A ρ μ₁ σ₁ s₁ ga R₁

/-- many -/
inductive EvL (X : Cx) (n : Nat) (env : Env) : List Expr → List (M V) → Prop
  | nil : EvL X n env [] []
  | cons {e : Expr} {es : List Expr} {m : M V} {ms : List (M V)} : Ev X n env e m → EvL X n env es ms → EvL X n env (e :: es) (m :: ms)

noncomputable def noStar : Expr → Bool
  | .Starred .. => false
  | _ => true
theorem starEach_cons {e : Expr} {es : List Expr} (h : noStar e = true) : starEach (e :: es) env = (false, eval e env) :: starEach es env := by
  cases e <;> first | rfl | cases h

theorem Tr_spliced {pos : Pos} : ∀ {es : List Expr} {ms : List (M V)}, EvL X n env es ms → es.all noStar = true → Tr X n env VRs (spliced (backTo pos (starEach es env))) (seqS ms)
  | [], _, .nil, _ => fun A ρ μ σ s ga R => W_pure R rfl
  | e :: es, _, .cons (m := m) (ms := ms) h hs, hst => by
    intro A ρ μ σ s ga R
    rw [List.all_cons, Bool.and_eq_true] at hst
    have ih := Tr_spliced (pos := pos) hs hst.2
    rw [starEach_cons hst.1]
    show W X A ρ μ env s VRs (eval e env >>= fun v => (pure [v] : Sem (List Value)) >>= fun here => holding here (spliced (backTo pos (starEach es env))) >>= fun r => pure (here ++ r)) _
    refine W_bind (h A ρ μ σ s ga R) fun μ₁ s₁ a σ₁ x st₁ R₁ v₁ => ?_
    refine W_conc (t' := holding [x] (spliced (backTo pos (starEach es env))) >>= fun r => pure ([x] ++ r)) ?_ fun Q q => wpAny_bind (wpAny_pure q)
    refine W_bind (W_holding (ih A ρ μ₁ σ₁ s₁ ga R₁)) fun μ₂ s₂ vs σ₂ xs st₂ R₂ v₂ => W_pure R₂ ?_
    exact ⟨x, xs, rfl, VR.step R₁ st₂ v₁, v₂⟩

/-- the items of a display: data alone -/
theorem W_listS {A : Around} {ρ : List Addr} {μ : Mu} {σ : St} {s : Shared} {P : Prm} {pos : Pos} {es : List Expr} {ms : List (M V)} (h : EvL X n env es ms) (hst : es.all noStar = true) (ga : Ga n A) (R : Rel X ρ μ env σ s.heap) {ds : List PyData} {σ' : St}
    (e : listS P ms σ = some (ds, σ')) : wpAny (model X.prog X.w) A (spliced (backTo pos (starEach es env)))
      (fun xs s' => ∃ μ', Step (wrt env) μ μ' s s' ∧ Rel X ρ μ' env σ' s'.heap ∧ DRs s'.heap (okOf ρ μ') ds xs ∧ xs.length ≤ sizeLine) (fun _ _ => False) s := by
  unfold listS at e
  refine mbind_elim e fun vs σ1 e1 q => ?_
  refine mbind_elim q fun ds' σ2 e2 q2 => ?_
  obtain ⟨e3, h2⟩ := mopt_some e2
  subst h2
  refine mbind_elim q2 fun u σ3 e4 q4 => ?_
  unfold mguard at e4
  split at e4
  · rename_i hl
    cases e4; cases q4
    refine wpAny_mono (Tr_spliced h hst A ρ μ σ s ga R vs _ e1) (fun xs s' z => ?_) fun _ _ z => z
    first | refine post_elim z fun μ' st R' rv => ?_ | obtain ⟨μ', st, R', rv⟩ := z
    have hd := VRl.dats rv e3
    refine ⟨μ', st, R', hd, ?_⟩
    rw [hd.length]
    exact Nat.le_trans (of_decide_eq_true hl) big_le
  · cases e4

theorem Fl_List {A : Around} {ρ : List Addr} {μ : Mu} {σ : St} {s : Shared} {P : Prm} {pos : Pos} {es : List Expr} {ms : List (M V)} (h : EvL X n env es ms) (hst : es.all noStar = true) (ga : Ga n A) (R : Rel X ρ μ env σ s.heap) {ds : List PyData} {σ' : St}
    (e : listS P ms σ = some (ds, σ')) : wpAny (model X.prog X.w) A (eval (.List es pos) env) (FreshL X ρ μ env s ds σ') (fun _ _ => False) s := by
  refine wpAny_List (wpAny_mono (W_listS h hst ga R e) (fun xs s' z => ?_) fun _ _ z => z)
  obtain ⟨μ', st, R', hd, hl⟩ := z
  exact ⟨hl, (FreshL.push R' (by simpa using hd)).trans st⟩

theorem Ev_Tuple {P : Prm} {pos : Pos} {k : Nat} {es : List Expr} {ms : List (M V)} (h : EvL X n env es ms) (hst : es.all noStar = true) : Ev X n env (.Tuple es k pos) (do let ds ← listS P ms; mpure (.dat (.tuple ds))) := by
  intro A ρ μ σ s ga R v σ' e
  refine mbind_elim e fun ds σ1 e1 q => ?_
  cases q
  refine wpAny_Tuple (wpAny_mono (W_listS h hst ga R e1) (fun xs s' z => ?_) fun _ _ z => z)
  obtain ⟨μ', st, R', hd, hl⟩ := z
  refine ⟨hl, μ', st.trans (.grow fun _ _ e => Heap.get?_push_of_some _ e), R'.ext fun _ _ e => Heap.get?_push_of_some _ e, ?_⟩
  show DR _ _ _ _
  simp only [DR]
  exact ⟨_, _, _, _, rfl, R'.okNew (fresh_size _), Heap.get?_push_size _ rfl, rfl, rfl, by simpa using DRs.mono (fun a o ok e => ⟨Heap.get?_push_of_some _ e, ok⟩) hd⟩

end
end Mine
end

section
open PySem
set_option Elab.async false
namespace Mine

/-- a method of the class that is a plain def -/
noncomputable def mth (X : Cx) (name : Str) : Option Addr := match W.findIn X.K (.ref X.C) name with
  | some (some (.ref f)) => if W.isFn X.K (.ref f) && W.fnIn X.K f then some f else none
  | _ => none

theorem mth_find {X : Cx} {name : Str} {f : Addr} (e : mth X name = some f) : W.findIn X.K (.ref X.C) name = some (some (.ref f)) ∧ W.isFn X.K (.ref f) = true ∧ W.fnIn X.K f = true := by
  unfold mth at e
  split at e
  · rename_i f' h
    split at e
    · rename_i hb
      rw [Bool.and_eq_true] at hb
      cases e; exact ⟨h, hb.1, hb.2⟩
    · cases e
  · cases e

noncomputable def bltNames : List Str := [Str.ofString "len", Str.ofString "str", Str.ofString "range", Str.ofString "list", Str.ofString "int", Str.ofString "sorted", Str.ofString "zip", Str.ofString "sum", Str.ofString "min", Str.ofString "max", Str.ofString "ord", Str.ofString "chr", Str.ofString "reversed", Str.ofString "type"]

structure CxOk (X : Cx) : Prop where
  kin : X.K.In X.base
  g : X.base.Ns mainGlobals X.mg
  b : X.base.Ns builtinsNs X.mb
  blt : ∀ x : Str, x ≠ "__name__" → X.mb x = bootBuiltins x
  nolimit : X.base.NoLimit
  ga : W.findIn X.K (.ref X.C) "__getattribute__" = some (some (.builtin "object.__getattribute__"))
  noga : W.findIn X.K (.ref X.C) "__getattr__" = some none
  noSeq : W.noSeq X.K X.C = true
  noG : ∀ x ∈ bltNames, X.mg x = none
  sa : W.findIn X.K (.ref X.C) "__setattr__" = some (some (.builtin "object.__setattr__"))
  po : W.plainOver X.K X.C = true
  hd : W.findIn X.K (.ref X.C) hdrKey = some none
  hasD : (W.clsIn X.K X.C).any (·.hasDict) = true
  keep : W.keepIn X.K (.ref X.C) = true

noncomputable def VRk (h : Heap) (ok : Addr → Prop) (μ : Mu) : List (Str × V) → List (Str × Value) → Prop
  | [], xs => xs = []
  | (k, v) :: vs, xs => ∃ x r, xs = (k, x) :: r ∧ VR h ok μ v x ∧ VRk h ok μ vs r
structure PrmOk (X : Cx) (n : Nat) (P : Prm) : Prop where
  mt : ∀ name f, mth X name = some f → ∀ env A ρ μ σ s self x vs xs ks kx, Ga n A → Rel X ρ μ env σ s.heap → VR s.heap (okOf ρ μ) μ self x → VRl s.heap (okOf ρ μ) μ vs xs → VRk s.heap (okOf ρ μ) μ ks kx →
    W X A ρ μ env s VRr (call (.ref f) (x :: xs) kx) (P.mt name self vs ks σ)
  mtNo : ∀ name, mth X name = none → ∀ σ self vs ks, P.mt name self vs ks σ = none
  mtHdr : ∀ σ self vs ks, P.mt hdrKey self vs ks σ = none
  fn : ∀ name vs σ r, P.fn name vs σ = some r → ∃ a o fd, X.mg name = some (.ref a) ∧ X.base.get? a = some o ∧ o.data = .func fd ∧
    ∀ env A ρ μ s xs, Ga n A → Rel X ρ μ env σ s.heap → VRl s.heap (okOf ρ μ) μ vs xs → W X A ρ μ env s VRr (call (.ref a) xs []) (P.fn name vs σ)
  make : X.mg (Str.ofString "Headers") = some (.ref X.C) ∧ ∀ env A ρ μ σ s vs xs, Ga n A → Rel X ρ μ env σ s.heap → VRl s.heap (okOf ρ μ) μ vs xs → W X A ρ μ env s VRr (call (.ref X.C) xs []) (P.make vs σ)

section
variable {X : Cx} {n : Nat} {env : Env} {P : Prm} {A : Around} {ρ : List Addr} {μ : Mu} {σ : St} {s : Shared}

theorem Rel.kin (R : Rel X ρ μ env σ s.heap) (ok : CxOk X) : X.K.In s.heap := ok.kin.keeps R.base

theorem inst_at (R : Rel X ρ μ env σ s.heap) {i : Nat} {l : Option Nat} {x : Value} (hv : VR s.heap (okOf ρ μ) μ (.obj i) x) (hi : σ.heap[i]? = some (.inst l)) :
    ∃ a d od, x = .ref a ∧ root μ i = some a ∧ W.InstAt s.heap a (W.instObj X.C d) X.C (some od) ∧ s.heap.get? d = some od ∧ (match l with
      | none => od = W.emptyDict
      | some k => ∃ al t n, root μ k = some al ∧ od = instDict X.w.params t n al) := by
  obtain ⟨a, h1, rfl⟩ := hv
  obtain ⟨p, h2, h3⟩ := R.objs i _ hi
  obtain ⟨d, h4, h5, h6⟩ := h3
  rw [root_some h2] at h1
  cases h1
  cases l with
  | none => exact ⟨_, d, _, rfl, root_some h2, ⟨h5, rfl, rfl, h6⟩, h6, rfl⟩
  | some k =>
    obtain ⟨al, t, n, h7, h8⟩ := h6
    exact ⟨_, d, _, rfl, root_some h2, ⟨h5, rfl, rfl, h8⟩, h8, al, t, n, h7, rfl⟩

theorem isInst_obj {v : V} (h : isInst v σ = true) : ∃ i l, v = .obj i ∧ σ.heap[i]? = some (.inst l) := by
  cases v with
  | obj i =>
    simp only [isInst] at h
    split at h
    · rename_i l e; exact ⟨i, l, rfl, e⟩
    · cases h
  | _ => cases h

/-- comparisons -/
theorem W_cmpS (ok : CxOk X) (pok : PrmOk X n P) (ga : Ga (n + 1) A) {op : CmpOp} {a b : V} {x y : Value} (R : Rel X ρ μ env σ s.heap) (ha : VR s.heap (okOf ρ μ) μ a x) (hb : VR s.heap (okOf ρ μ) μ b y) :
    W X A ρ μ env s VRr (compareOp op x y) (cmpS P op a b σ) := by
  intro r σ' e
  unfold cmpS at e
  split at e
  · rename_i hi
    obtain ⟨i, l, rfl, hi'⟩ := isInst_obj hi
    obtain ⟨a', d, od, rfl, hr, I, hd, _⟩ := inst_at R hb hi'
    split at e
    · refine mbind_elim e fun rv σ1 e1 q => ?_
      refine mbind_elim q fun t σ2 e2 q2 => ?_
      cases q2
      cases hm : mth X (Str.ofString "__contains__") with
      | none => rw [pok.mtNo _ hm] at e1; cases e1
      | some f =>
        obtain ⟨hf, hfn, _⟩ := mth_find hm
        obtain ⟨m, F⟩ := R.fr
        refine W.in_K F ok.kin I hf hfn ?_
        refine wpAny_mono (pok.mt _ f hm env A ρ μ σ s (.obj i) (.ref a') [a] [x] [] [] (ga.less (Nat.le_succ _)) R hb ⟨x, [], rfl, ha, rfl⟩ rfl rv σ1 e1) (fun z s' h => ?_) fun _ _ h => h
        obtain ⟨μ', st, R', v'⟩ := h
        refine wpAny_mono (W_truthS R' v' t _ e2) (fun b' s'' h => ?_) fun _ _ h => h
        obtain ⟨μ'', st', R'', rfl⟩ := h
        exact ⟨μ'', st.trans st', R'', by show DR _ _ _ _; simp only [DR]⟩
    · cases e
  · refine mbind_elim e fun d1 σ1 e1 q => ?_
    have h1 := readD_state e1; subst h1
    refine mbind_elim q fun d2 σ2 e2 q2 => ?_
    have h2 := readD_state e2; subst h2
    refine mbind_elim q2 fun b' σ3 e3 q3 => ?_
    obtain ⟨e4, h3⟩ := mopt_some e3
    subst h3
    cases q3
    exact W_cmpD (by have := ga.c; omega) R (readD_ok R ha e1).2 (readD_ok R hb e2).2 e4

noncomputable def noMark (op : CmpOp) (r : Expr) : Bool := !behindInMarks op r

theorem Ev_Compare (ok : CxOk X) (pok : PrmOk X n P) {l r : Expr} {op : CmpOp} {pos : Pos} {ml mr : M V} (hl : Ev X (n + 1) env l ml) (hr : Ev X (n + 1) env r mr) (hm : noMark op r = true) :
    Ev X (n + 1) env (.Compare l [op] [r] pos) (do let a ← ml; let b ← mr; cmpS P op a b) := by
  intro A ρ μ σ s ga R v σ' e
  have hm' : behindInMarks op r = false := by unfold noMark at hm; simpa using hm
  refine mbind_elim e fun a σ1 e1 q => ?_
  refine mbind_elim q fun b σ2 e2 q2 => ?_
  refine wpAny_Compare1 ?_ hm'
  refine wpAny_mono (hl A ρ μ σ s ga R a σ1 e1) (fun x s1 z => ?_) fun _ _ z => z
  first | refine post_elim z fun μ1 st1 R1 v1 => ?_ | obtain ⟨μ1, st1, R1, v1⟩ := z
  refine wpAny_mono (hr A ρ μ1 σ1 s1 ga R1 b σ2 e2) (fun y s2 z => ?_) fun _ _ z => z
  first | refine post_elim z fun μ2 st2 R2 v2 => ?_ | obtain ⟨μ2, st2, R2, v2⟩ := z
  refine wpAny_mono (W_cmpS ok pok ga R2 (VR.step R1 st2 v1) v2 v σ' q2) (fun c s3 z => ?_) fun _ _ z => z
  first | refine post_elim z fun μ3 st3 R3 v3 => ?_ | obtain ⟨μ3, st3, R3, v3⟩ := z
  exact ⟨μ3, (st1.trans st2).trans st3, R3, v3⟩

/-! tests -/
theorem Te_Compare (ok : CxOk X) (pok : PrmOk X n P) {l r : Expr} {op : CmpOp} {pos : Pos} {ml mr : M V} (hl : Ev X (n + 1) env l ml) (hr : Ev X (n + 1) env r mr) (hm : noMark op r = true) :
    Te X (n + 1) env (.Compare l [op] [r] pos) (do let v ← (do let a ← ml; let b ← mr; cmpS P op a b); truthS v) := by
  intro A ρ μ σ s ga R t σ' e
  have hm' : behindInMarks op r = false := by unfold noMark at hm; simpa using hm
  refine mbind_elim e fun v σ3 e0 q3 => ?_
  refine mbind_elim e0 fun a σ1 e1 q => ?_
  refine mbind_elim q fun b σ2 e2 q2 => ?_
  refine wpAny_isTrue_Compare1 ?_ hm'
  refine wpAny_mono (hl A ρ μ σ s ga R a σ1 e1) (fun x s1 z => ?_) fun _ _ z => z
  first | refine post_elim z fun μ1 st1 R1 v1 => ?_ | obtain ⟨μ1, st1, R1, v1⟩ := z
  refine wpAny_mono (hr A ρ μ1 σ1 s1 ga R1 b σ2 e2) (fun y s2 z => ?_) fun _ _ z => z
  first | refine post_elim z fun μ2 st2 R2 v2 => ?_ | obtain ⟨μ2, st2, R2, v2⟩ := z
  refine wpAny_mono (W_cmpS ok pok ga R2 (VR.step R1 st2 v1) v2 v σ3 q2) (fun c s3 z => ?_) fun _ _ z => z
  first | refine post_elim z fun μ3 st3 R3 v3 => ?_ | obtain ⟨μ3, st3, R3, v3⟩ := z
  refine wpAny_mono (W_truthS R3 v3 t σ' q3) (fun c s3 z => ?_) fun _ _ z => z
  first | refine post_elim z fun μ4 st4 R4 v4 => ?_ | obtain ⟨μ4, st4, R4, v4⟩ := z
  exact ⟨μ4, ((st1.trans st2).trans st3).trans st4, R4, v4⟩

noncomputable def plainTest : Expr → Bool
  | .UnaryOp .Not _ _ => false
  | .BoolOp .. => false
  | .IfExp .. => false
  | .Compare .. => false
  | _ => true
theorem isTrue_plainE {e : Expr} (h : plainTest e = true) (whole : Sem Value) : isTrue e env whole = (do let v ← whole; standAt e.pos; holding [v] (truthy v)) := by
  cases e <;> first | rfl | cases h | skip
  rename_i op x p
  cases op <;> first | rfl | cases h

theorem Te_plain {e : Expr} {m : M V} (he : plainTest e = true) (h : Ev X n env e m) : Te X n env e (do let v ← m; truthS v) := by
  intro A ρ μ σ s ga R
  rw [isTrue_plainE he]
  exact W_bind (h A ρ μ σ s ga R) fun μ₁ s₁ a σ₁ x st₁ R₁ v₁ => W_standAt (W_holding (W_truthS R₁ v₁))

inductive TeL (X : Cx) (n : Nat) (env : Env) : List Expr → List (M Bool) → Prop
  | nil : TeL X n env [] []
  | cons {e : Expr} {es : List Expr} {m : M Bool} {ms : List (M Bool)} : Te X n env e m → TeL X n env es ms → TeL X n env (e :: es) (m :: ms)

theorem Tr_allTrue {op : BoolOp} : ∀ {es : List Expr} {ms : List (M Bool)}, TeL X n env es ms → Tr X n env EqR (allTrue op es env) (allTS op ms)
  | [], _, .nil => fun A ρ μ σ s ga R => by
    show W X A ρ μ env s EqR (pure (op == .And)) (mpure (op == .And) σ)
    exact W_pure R rfl
  | e :: es, _, .cons (m := m) (ms := ms) h hs => by
    intro A ρ μ σ s ga R
    have ih := Tr_allTrue (op := op) hs
    rw [arm_allTrue_cons]
    refine W_bind (h A ρ μ σ s ga R) fun μ₁ s₁ a σ₁ x st₁ R₁ v₁ => ?_
    have : x = a := v₁
    subst this
    cases op <;> cases x
    · exact W_pure R₁ rfl
    · exact ih A ρ μ₁ σ₁ s₁ ga R₁
    · exact ih A ρ μ₁ σ₁ s₁ ga R₁
    · exact W_pure R₁ rfl

theorem Te_BoolOp {op : BoolOp} {es : List Expr} {pos : Pos} {ms : List (M Bool)} (h : TeL X n env es ms) : Te X n env (.BoolOp op es pos) (allTS op ms) := by
  intro A ρ μ σ s ga R
  rw [arm_isTrue_BoolOp]
  exact Tr_allTrue h A ρ μ σ s ga R

end
end Mine
end

section
open PySem
set_option Elab.async false
namespace Mine

section
variable {X : Cx} {n : Nat} {env : Env} {P : Prm} {A : Around} {ρ : List Addr} {μ : Mu} {σ : St} {s : Shared}

noncomputable def noSlice : Expr → Bool
  | .Slice .. => false
  | _ => true
theorem subscripted_plain {e : Expr} (h : noSlice e = true) (o i : Value) : subscripted e false o i = operate [o, i] (getItem o i) := by
  cases e <;> first | rfl | cases h
theorem subscripted_py {e : Expr} (h : noSlice e = true) (o i : Value) : subscripted e true o i = runValue (.builtin "lifetime.subscript" ⟨[o, i], []⟩) := by
  cases e <;> first | rfl | cases h

theorem small_bounds {d : PyData} (h : smallI d = true) : ∃ i, d = .int i ∧ -(2 ^ 40) ≤ i ∧ i ≤ 2 ^ 40 := by
  cases d with
  | int i => exact ⟨i, rfl, of_decide_eq_true h⟩
  | _ => cases h

theorem seqIndex_some {i : Int} {m k : Nat} (h : seqIndex? i m = some k) : (0 ≤ i ∧ i < m ∧ k = i.toNat) ∨ (i < 0 ∧ -(m : Int) ≤ i ∧ k = (i + m).toNat) := by
  unfold seqIndex? at h
  simp only [Bool.and_eq_true, decide_eq_true_eq] at h
  split at h
  · split at h
    · cases h; omega
    · cases h
  · split at h
    · cases h; omega
    · cases h

/-- an item -/
theorem W_itemS (ok : CxOk X) (pok : PrmOk X n P) (ga : Ga (n + 1) A) {value slice : Expr} (hs : noSlice slice = true) {o i : V} {x y : Value} (R : Rel X ρ μ env σ s.heap) (ho : VR s.heap (okOf ρ μ) μ o x) (hi : VR s.heap (okOf ρ μ) μ i y) :
    W X A ρ μ env s VRr (PyProof.Rows.subscriptTail value slice x y) (itemS P o i σ) := by
  intro r σ' e
  unfold itemS at e
  split at e
  · rename_i hin
    obtain ⟨j, l, rfl, hj⟩ := isInst_obj hin
    obtain ⟨a', d, od, rfl, hr, I, hd, _⟩ := inst_at R ho hj
    cases hm : mth X (Str.ofString "__getitem__") with
    | none => rw [pok.mtNo _ hm] at e; cases e
    | some f =>
      obtain ⟨hf, hfn, hfi⟩ := mth_find hm
      obtain ⟨m, F⟩ := R.fr
      refine W.sub_K F ok.kin I hf hfi hfn ?_ (subscripted_py hs _ _)
      exact pok.mt _ f hm env A.in1 ρ μ σ s (.obj j) (.ref a') [i] [y] [] [] ga.in1 R ho ⟨y, [], rfl, hi, rfl⟩ rfl r σ' e
  · refine mbind_elim e fun d1 σ1 e1 q => ?_
    have h1 := readD_state e1; subst h1
    refine mbind_elim q fun d2 σ2 e2 q2 => ?_
    refine mbind_elim q2 fun u σ3 e3 q3 => ?_
    refine mbind_elim q3 fun d σ4 e4 q4 => ?_
    obtain ⟨e5, h5⟩ := mopt_some e4
    unfold mguard at e3
    split at e3
    · rename_i hsm
      cases e3
      cases i with
      | dat d2' =>
        cases e2
        subst h5
        cases q4
        obtain ⟨k, rfl, hlo, hhi⟩ := small_bounds hsm
        have l1 := (readD_ok R ho e1).2
        have l2 : DR _ _ _ _ := hi
        simp only [DR] at l2
        obtain ⟨u, rfl⟩ := l2
        unfold itemD at e5
        split at e5
        · rename_i x' i' hh
          cases hh
          obtain ⟨c, e6, rfl⟩ := Option.map_eq_some_iff.mp e5
          simp only [LR, DR] at l1
          obtain ⟨ha, t, rfl⟩ := l1
          refine PyProof.Rows.tail_any (typeIs_str s x' t) PyProof.Rows.slot_str_getitem.lookup (PyProof.Rows.getItem_str ?_ e6 (post_tok R _ ?_)) (subscripted_plain hs _ _)
          · simp only [Bool.or_eq_false_iff, decide_eq_false_iff_not]; omega
          · show DR _ _ _ _
            simp only [DR]
            refine ⟨?_, _, rfl⟩
            obtain ⟨k', _, hk'⟩ := Option.bind_eq_some_iff.mp e6
            unfold asc at ha ⊢
            rw [List.all_eq_true] at ha
            simp only [List.all_cons, List.all_nil, Bool.and_true]
            exact ha c (Array.mem_toList_iff.mpr (Array.mem_of_getElem? hk'))
        · rename_i ds i' hh
          cases hh
          obtain ⟨k', e6, e7⟩ := Option.bind_eq_some_iff.mp e5
          obtain ⟨a, vs, rfl, hL, hds⟩ := list_of_LR l1
          have ln := hds.length
          rw [Array.length_toList] at ln
          obtain ⟨v, hv, hdv⟩ := hds.get e7
          refine PyProof.Rows.tail_any hL.typeIs slot_list_getitem.lookup ?_ (subscripted_plain hs _ _)
          rcases seqIndex_some e6 with ⟨q1, q2, rfl⟩ | ⟨q1, q2, rfl⟩
          · exact wpAny_getItem_list hL q1 (by omega) (by rw [← Array.getElem?_toList]; exact hv) (post_same R hdv)
          · exact wpAny_getItem_list_neg hL q1 (by omega) (by omega) (by rw [← Array.getElem?_toList, ln]; exact hv) (post_same R hdv)
        · rename_i ds i' hh
          cases hh
          obtain ⟨k', e6, e7⟩ := Option.bind_eq_some_iff.mp e5
          simp only [LR, DR] at l1
          obtain ⟨a, ob, vs, nn, rfl, _, g1, g2, g3, hds⟩ := l1
          have ln := hds.length
          rw [Array.length_toList] at ln
          obtain ⟨v, hv, hdv⟩ := hds.get e7
          have hT : PyProof.Rows.IsTup s.heap a vs := ⟨ob, g1, g2, nn, g3⟩
          exact PyProof.Rows.tail_any hT.typeIs PyProof.Rows.slot_tuple_getitem.lookup (PyProof.Rows.getItem_tuple hT (by omega) (by omega) (by rw [ln]; exact e6) (by rw [← Array.getElem?_toList]; exact hv) (post_same R hdv)) (subscripted_plain hs _ _)
        · cases e5
      | obj j => cases e2
      | rng a b => cases e2
      | emp => cases e2
    · cases e3

theorem Ev_Subscript (ok : CxOk X) (pok : PrmOk X n P) {o i : Expr} {pos : Pos} {mo mi : M V} (ho : Ev X (n + 1) env o mo) (hi : Ev X (n + 1) env i mi) (hs : noSlice i = true) :
    Ev X (n + 1) env (.Subscript o i pos) (do let ov ← mo; let iv ← mi; itemS P ov iv) := by
  intro A ρ μ σ s ga R v σ' e
  refine mbind_elim e fun a σ1 e1 q => ?_
  refine mbind_elim q fun b σ2 e2 q2 => ?_
  refine PyProof.Rows.Subscript_ ?_
  refine wpAny_mono (ho A ρ μ σ s ga R a σ1 e1) (fun x s1 z => ?_) fun _ _ z => z
  first | refine post_elim z fun μ1 st1 R1 v1 => ?_ | obtain ⟨μ1, st1, R1, v1⟩ := z
  refine wpAny_mono (hi A ρ μ1 σ1 s1 ga R1 b σ2 e2) (fun y s2 z => ?_) fun _ _ z => z
  first | refine post_elim z fun μ2 st2 R2 v2 => ?_ | obtain ⟨μ2, st2, R2, v2⟩ := z
  refine wpAny_mono (W_itemS ok pok ga hs R2 (VR.step R1 st2 v1) v2 v σ' q2) (fun c s3 z => ?_) fun _ _ z => z
  first | refine post_elim z fun μ3 st3 R3 v3 => ?_ | obtain ⟨μ3, st3, R3, v3⟩ := z
  exact ⟨μ3, (st1.trans st2).trans st3, R3, v3⟩

end
end Mine
end

section
open PySem
set_option Elab.async false
namespace Mine

/-! slices -/
theorem loN_eq (lo : Option Int) (n : Nat) : (sliceBounds lo none none n).1 = (loN lo n : Int) := by
  cases lo with
  | none => simp [sliceBounds, loN]
  | some k =>
    simp only [sliceBounds, loN, clampI, Option.getD_none, show (1 : Int) > 0 by decide, if_true]
    by_cases hk : k < 0 <;> simp only [hk, if_true, if_false] <;> omega
theorem hiN_eq (hi : Option Int) (n : Nat) : (sliceBounds none hi none n).2.1 = (hiN hi n : Int) := by
  cases hi with
  | none => simp [sliceBounds, hiN]
  | some k =>
    simp only [sliceBounds, hiN, clampI, Option.getD_none, show (1 : Int) > 0 by decide, if_true]
    by_cases hk : k < 0 <;> simp only [hk, if_true, if_false] <;> omega
theorem bounds_eq (lo hi : Option Int) (n : Nat) : sliceBounds lo hi none n = ((loN lo n : Int), (hiN hi n : Int), 1) := by
  have h1 := loN_eq lo n
  have h2 := hiN_eq hi n
  show (_, _, _) = _
  rw [← h1, ← h2]
  rfl
theorem hiN_le (hi : Option Int) (n : Nat) : hiN hi n ≤ n ∨ False := by
  left
  cases hi with
  | none => exact Nat.le_refl _
  | some k => simp only [hiN, clampI]; split <;> omega

theorem range_pick {α : Type} (l : List α) (a b : Nat) (hb : b ≤ l.length) : ((sliceRange (a : Int) (b : Int) 1).filterMap (l[·]?)) = (l.take b).drop a := by
  have hr : sliceRange (a : Int) (b : Int) 1 = (List.range (b - a)).map (a + ·) := by
    unfold sliceRange
    simp only [show (1 : Int) > 0 by decide, if_true, Int.ediv_one]
    have hc : (if (a : Int) < b then ((b : Int) - a + 1 - 1) else 0).toNat = b - a := by split <;> omega
    rw [hc]
    apply List.map_congr_left
    intro k _
    omega
  rw [hr, List.filterMap_map]
  apply List.ext_getElem?
  intro i
  rw [List.getElem?_drop, List.getElem?_take]
  by_cases hi : i < b - a
  · rw [if_pos (by omega)]
    have hlen : ∀ m, m ≤ b - a → ((List.range m).filterMap ((fun x => l[x]?) ∘ fun x => a + x)) = (l.drop a).take m := by
      intro m hm
      induction m with
      | zero => simp
      | succ m ih =>
        rw [List.range_succ, List.filterMap_append, ih (by omega), List.take_add_one]
        congr 1
        simp only [List.filterMap_cons, List.filterMap_nil, Function.comp, List.getElem?_drop]
        cases l[a + m]? <;> rfl
    rw [hlen (b - a) (Nat.le_refl _), List.getElem?_take, if_pos hi, List.getElem?_drop]
  · rw [if_neg (by omega)]
    apply List.getElem?_eq_none
    have := List.length_filterMap_le ((fun x => l[x]?) ∘ fun x => a + x) (List.range (b - a))
    simp at this
    simp
    omega

theorem slicePick_cut (items : Array Value) (lo hi : Option Int) : (slicePick items lo hi none).toList = (items.toList.take (hiN hi items.size)).drop (loN lo items.size) := by
  unfold slicePick
  rw [bounds_eq]
  have := range_pick items.toList (loN lo items.size) (hiN hi items.size) (by rcases hiN_le hi items.size with h | h; simpa using h; exact h.elim)
  simpa using this

theorem strSlice_cut (x : Str) (lo hi : Option Int) : Txt.slice x lo hi = ⟨((x.cps.toList.take (hiN hi x.length)).drop (loN lo x.length)).toArray⟩ := by
  have hidx : Builtin.Str.strSliceIndices lo hi 1 x.length = sliceRange (loN lo x.length : Int) (hiN hi x.length : Int) 1 := by
    have h := bounds_eq lo hi x.length
    unfold sliceBounds at h
    simp only [Option.getD_none] at h
    unfold Builtin.Str.strSliceIndices
    simp only
    have h1 := (Prod.mk.inj h).1
    have h2 := (Prod.mk.inj (Prod.mk.inj h).2).1
    rw [← h1, ← h2]
    cases lo <;> cases hi <;> rfl
  have hp := range_pick x.cps.toList (loN lo x.length) (hiN hi x.length) (by rcases hiN_le hi x.length with h | h; simpa [Str.length] using h; exact h.elim)
  unfold Txt.slice
  rw [hidx]
  split
  · rename_i hc
    simp only [beq_self_eq_true, Bool.true_and, beq_iff_eq] at hc
    have hlen : (sliceRange (loN lo x.length : Int) (hiN hi x.length : Int) 1).length = hiN hi x.length - loN lo x.length := by
      unfold sliceRange
      simp only [show (1 : Int) > 0 by decide, if_true, Int.ediv_one, List.length_map, List.length_range]
      split <;> omega
    rw [hlen] at hc
    have hh : hiN hi x.length ≤ x.length := by rcases hiN_le hi x.length with h | h; exact h; exact h.elim
    by_cases h0 : x.length = 0
    · cases x with | mk a =>
      simp only [Str.length] at h0
      have : a = #[] := Array.eq_empty_of_size_eq_zero h0
      subst this
      simp
    · have e1 : hiN hi x.length = x.length := by omega
      have e2 : loN lo x.length = 0 := by omega
      rw [e1, e2]
      cases x with | mk a =>
        have : a.toList.take a.size = a.toList := List.take_of_length_le (by simp)
        simp [Str.length, this]
  · congr 1
    rw [← hp]
    simp

noncomputable def OptR : RVt Value (Option V) := fun h ok μ v x => match v with
  | none => x = .none
  | some v => VR h ok μ v x

section
variable {X : Cx} {n : Nat} {env : Env} {P : Prm} {A : Around} {ρ : List Addr} {μ : Mu} {σ : St} {s : Shared}

inductive EvO (X : Cx) (n : Nat) (env : Env) : Option Expr → Option (M V) → Prop
  | none : EvO X n env none none
  | some {e : Expr} {m : M V} : Ev X n env e m → EvO X n env (some e) (some m)

theorem Tr_part {e : Option Expr} {m : Option (M V)} (h : EvO X n env e m) : Tr X n env OptR (evalPart e env) (optS m) := by
  cases h with
  | none => exact fun A ρ μ σ s ga R => W_pure R rfl
  | some h =>
    intro A ρ μ σ s ga R v σ' e
    refine mbind_elim e fun a σ1 e1 q => ?_
    cases q
    exact h A ρ μ σ s ga R a _ e1

theorem part_of {v : Option V} {x : Value} {k : Option Int} (hv : OptR s.heap (okOf ρ μ) μ v x) (hb : boundS v = some k) : IsPart x k := by
  cases v with
  | none => cases hb; rw [show x = _ from hv]; exact .none
  | some v =>
    cases v with
    | dat d =>
      cases d with
      | int i =>
        simp only [boundS] at hb
        split at hb
        · cases hb
          have h2 : DR _ _ _ _ := hv
          simp only [DR] at h2
          obtain ⟨t, rfl⟩ := h2
          exact .int _ _
        · cases hb
      | _ => cases hb
    | _ => cases hb

theorem part_val {x : Value} {k : Option Int} (h : IsPart x k) : ∃ l : Option (Int × Tok), x = partValue l ∧ k = l.map (·.1) := by
  cases h with
  | none => exact ⟨none, rfl, rfl⟩
  | int i t => exact ⟨some (i, t), rfl, rfl⟩

theorem OptR.step {v : Option V} {x : Value} {μ' : Mu} {s' : Shared} (R : Rel X ρ μ env σ s.heap) (a : Step (wrt env) μ μ' s s') (h : OptR s.heap (okOf ρ μ) μ v x) : OptR s'.heap (okOf ρ μ') μ' v x := by
  cases v with
  | none => exact h
  | some v => exact VR.step R a h

theorem subscripted_slice (lo hi : Option Expr) (p : Pos) (o i : Value) : subscripted (.Slice lo hi none p) false o i = operate [i, o] (getItem o i) := rfl

/-- the cut's parts are read; the slice object lies there -/
theorem W_slice {o : Expr} {lo hi : Option Expr} {p pos : Pos} {mo : M V} {ml mh : Option (M V)} (ho : Ev X n env o mo) (hl : EvO X n env lo ml) (hh : EvO X n env hi mh) (ga : Ga n A) (R : Rel X ρ μ env σ s.heap)
    {ov : V} {a b : Option V} {σ1 σ2 σ3 : St} (e1 : mo σ = some (ov, σ1)) (e2 : optS ml σ1 = some (a, σ2)) (e3 : optS mh σ2 = some (b, σ3)) {Q : Value → Shared → Prop}
    (k : ∀ μ' s' x vl vu, Step (wrt env) μ μ' s s' → Rel X ρ μ' env σ3 s'.heap → VR s'.heap (okOf ρ μ') μ' ov x → OptR s'.heap (okOf ρ μ') μ' a vl → OptR s'.heap (okOf ρ μ') μ' b vu →
      wpAny (model X.prog X.w) A (PyProof.Rows.subscriptTail o (.Slice lo hi none p) x (.ref s'.heap.objs.size)) Q (fun _ _ => False) { s' with heap := s'.heap.push { cls := .type "slice", data := .fields #[vl, vu, .none] } }) :
    wpAny (model X.prog X.w) A (eval (.Subscript o (.Slice lo hi none p) pos) env) Q (fun _ _ => False) s := by
  refine PyProof.Rows.Subscript_ ?_
  refine wpAny_mono (ho A ρ μ σ s ga R ov σ1 e1) (fun x s1 z => ?_) fun _ _ z => z
  first | refine post_elim z fun μ1 st1 R1 v1 => ?_ | obtain ⟨μ1, st1, R1, v1⟩ := z
  refine wpAny_Slice ?_
  refine wpAny_mono (Tr_part hl A ρ μ1 σ1 s1 ga R1 a σ2 e2) (fun vl s2 z => ?_) fun _ _ z => z
  first | refine post_elim z fun μ2 st2 R2 v2 => ?_ | obtain ⟨μ2, st2, R2, v2⟩ := z
  refine wpAny_mono (Tr_part hh A ρ μ2 σ2 s2 ga R2 b σ3 e3) (fun vu s3 z => ?_) fun _ _ z => z
  first | refine post_elim z fun μ3 st3 R3 v3 => ?_ | obtain ⟨μ3, st3, R3, v3⟩ := z
  refine wpAny_pure ?_
  exact k μ3 s3 x vl vu ((st1.trans st2).trans st3) R3 (VR.step R2 st3 (VR.step R1 st2 v1)) (OptR.step R2 st3 v2) v3

theorem Fl_cut {value : Expr} {lo hi : Option Expr} {p : Pos} (R : Rel X ρ μ env σ s.heap) {x vl vu : Value} {ds : List PyData} {a b : Option Int} (hx : LR s.heap (okOf ρ μ) (.list ds) x) (pl : IsPart vl a) (pu : IsPart vu b) (hsz : ds.length ≤ big) :
    wpAny (model X.prog X.w) A (PyProof.Rows.subscriptTail value (.Slice lo hi none p) x (.ref s.heap.objs.size)) (FreshL X ρ μ env s ((ds.take (hiN b ds.length)).drop (loN a ds.length)) σ) (fun _ _ => False) { s with heap := s.heap.push { cls := .type "slice", data := .fields #[vl, vu, .none] } } := by
  obtain ⟨l, vs, rfl, hL, hds⟩ := list_of_LR hx
  have ln := hds.length
  rw [Array.length_toList] at ln
  have k1 : ∀ b o, s.heap.get? b = some o → (s.heap.push { cls := .type "slice", data := .fields #[vl, vu, .none] }).get? b = some o := fun b o e => Heap.get?_push_of_some _ e
  have hL' : (s.heap.push { cls := .type "slice", data := .fields #[vl, vu, .none] }).IsList l vs := hL.at fun o e => k1 _ _ e
  refine PyProof.Rows.tail_any (Heap.IsList.typeIs (s := { s with heap := s.heap.push { cls := .type "slice", data := .fields #[vl, vu, .none] } }) hL') slot_list_getitem.lookup ?_ (subscripted_slice lo hi p _ _)
  refine wpAny_getItem_list_slice hL' (Heap.IsSliceOf.new ..) pl pu .none (by simp) ?_ (by rw [ln]; exact Nat.le_trans hsz big_le)
  refine FreshL.trans (.grow (tk := s.toks) k1) (FreshL.push (R.ext k1) ?_)
  rw [slicePick_cut, ln]
  exact DRs.drop _ (DRs.take _ (DRs.mono (fun a o ok e => ⟨k1 _ _ e, ok⟩) hds))


theorem sliceS_some {o : V} {a b : Option V} {r : V} {σ σ' : St} (e : sliceS o a b σ = some (r, σ')) : ∃ d x y d', readD o σ = some (d, σ) ∧ boundS a = some x ∧ boundS b = some y ∧ cutD x y d = some d' ∧ r = .dat d' ∧ σ' = σ := by
  unfold sliceS at e
  refine mbind_elim e fun d σ1 e1 q => ?_
  have h1 := readD_state e1; subst h1
  refine mbind_elim q fun x σ2 e2 q2 => ?_
  obtain ⟨e2', h2⟩ := mopt_some e2; subst h2
  refine mbind_elim q2 fun y σ3 e3 q3 => ?_
  obtain ⟨e3', h3⟩ := mopt_some e3; subst h3
  refine mbind_elim q3 fun d' σ4 e4 q4 => ?_
  obtain ⟨e4', h4⟩ := mopt_some e4; subst h4
  cases q4
  exact ⟨d, x, y, d', e1, e2', e3', e4', rfl, rfl⟩

theorem asc_cut {x : Str} {a b : Nat} (h : asc x = true) : asc ⟨((x.cps.toList.take b).drop a).toArray⟩ = true := by
  unfold asc at h ⊢
  rw [List.all_eq_true] at h ⊢
  intro c hc
  exact h c (List.mem_of_mem_take (List.mem_of_mem_drop (by simpa using hc)))

theorem Ev_Slice {o : Expr} {lo hi : Option Expr} {p pos : Pos} {mo : M V} {ml mh : Option (M V)} (ho : Ev X n env o mo) (hl : EvO X n env lo ml) (hh : EvO X n env hi mh) :
    Ev X n env (.Subscript o (.Slice lo hi none p) pos) (do let ov ← mo; let a ← optS ml; let b ← optS mh; sliceS ov a b) := by
  intro A ρ μ σ s ga R v σ' e
  refine mbind_elim e fun ov σ1 e1 q => ?_
  refine mbind_elim q fun a σ2 e2 q2 => ?_
  refine mbind_elim q2 fun b σ3 e3 q3 => ?_
  obtain ⟨d, x, y, d', r1, r2, r3, r4, rfl, rfl⟩ := sliceS_some q3
  refine W_slice ho hl hh ga R e1 e2 e3 fun μ' s' z vl vu st R' v1 v2 v3 => ?_
  have l1 := (readD_ok R' v1 r1).2
  have p1 := part_of v2 r2
  have p2 := part_of v3 r3
  unfold cutD at r4
  split at r4
  · split at r4
    · rename_i hb
      cases r4
      exact wpAny_mono (Fl_cut R' l1 p1 p2 hb) (fun _ _ f => (f.trans st).dat) fun _ _ z => z
    · cases r4
  · split at r4
    · rename_i w hb
      cases r4
      simp only [LR, DR] at l1
      obtain ⟨ha, t, rfl⟩ := l1
      obtain ⟨l, rfl, rfl⟩ := part_val p1
      obtain ⟨u, rfl, rfl⟩ := part_val p2
      have k1 : ∀ b o, s'.heap.get? b = some o → (s'.heap.push { cls := .type "slice", data := .fields #[partValue l, partValue u, .none] }).get? b = some o := fun b o e => Heap.get?_push_of_some _ e
      refine PyProof.Rows.tail_any (typeIs_str _ w t) PyProof.Rows.slot_str_getitem.lookup ?_ (subscripted_slice lo hi p _ _)
      refine wpAny_getItem_str_slice (l := l) (u := u) (st := none) ⟨_, Heap.get?_push_size _ rfl, rfl, rfl⟩ rfl (post_val_or_str ⟨Nat.le_trans (Txt.slice_le w _ _) (Nat.le_trans hb big_le), fun t' k => ?_⟩)
      have hd : ∀ h ok, DR h ok (.str ⟨((w.cps.toList.take (hiN (u.map (·.1)) w.length)).drop (loN (l.map (·.1)) w.length)).toArray⟩) (.str (Txt.slice w (l.map (·.1)) (u.map (·.1))) t') := by
        intro h ok
        rw [strSlice_cut]
        simp only [DR]
        exact ⟨asc_cut ha, _, rfl⟩
      exact ⟨μ', st.trans (.grow k1), R'.ext k1, hd s'.heap (okOf ρ μ')⟩
    · cases r4
  · cases r4

end
end Mine
end

section
open PySem
set_option Elab.async false
namespace Mine

/-! case -/
theorem low_tab : ∀ c, c < 127 → Unicode.lowerOf c = [lowC c] := by decide +kernel
theorem up_tab : ∀ c, c < 127 → Unicode.upperOf c = [upC c] := by decide +kernel
theorem isUp_tab : ∀ c, c < 127 → Unicode.isUpper c = (65 ≤ c && c ≤ 90 : Bool) := by decide +kernel
theorem isLow_tab : ∀ c, c < 127 → Unicode.isLower c = (97 ≤ c && c ≤ 122 : Bool) := by decide +kernel

theorem asc_lt {x : Str} (h : asc x = true) : ∀ c ∈ x.cps.toList, 32 ≤ c ∧ c < 127 := by
  intro c hc
  unfold asc at h
  have := List.all_eq_true.mp h c hc
  unfold pc at this
  simpa using this

theorem placed_one (x : Str) (f : Nat → Nat → List Nat) (g : Nat → Nat) (h : ∀ i c, x.cps[i]? = some c → f i c = [g c]) : placed x f = (x.cps.toList.map g).toArray := by
  unfold placed
  have : (x.cps.mapIdx fun i c => (f i c).toArray) = (x.cps.map fun c => #[g c]) := by
    apply Array.ext
    · simp
    · intro i h1 h2
      simp only [Array.getElem_mapIdx, Array.getElem_map]
      rw [h i _ (by simp at h1; exact Array.getElem?_eq_getElem h1)]
  rw [this]
  cases x with | mk a =>
  cases a with | mk l =>
  simp only [List.map_toArray, Array.flatten_toArray, List.map_map]
  apply congrArg
  clear this h
  induction l with
  | nil => rfl
  | cons c l ih => simpa using ih

theorem mem_of_at {x : Str} {i c : Nat} (h : x.cps[i]? = some c) : c ∈ x.cps.toList := Array.mem_toList_iff.mpr (Array.mem_of_getElem? h)

theorem lowerAt_one {x : Str} (ha : asc x = true) {i c : Nat} (h : x.cps[i]? = some c) : Unicode.lowerAt x.cps i = [lowC c] := by
  have hb := asc_lt ha c (mem_of_at h)
  unfold Unicode.lowerAt
  rw [h]
  dsimp only
  rw [if_neg (by simp only [Bool.and_eq_true, beq_iff_eq]; omega)]
  exact low_tab c hb.2

theorem lower_eq {x : Str} (ha : asc x = true) : Txt.lower x = low x := by
  unfold Txt.lower low mapS
  rw [placed_one x _ lowC fun i c h => lowerAt_one ha h]
theorem swap_eq {x : Str} (ha : asc x = true) : Txt.swapcase x = sw x := by
  unfold Txt.swapcase sw mapS
  rw [placed_one x _ swC fun i c h => ?_]
  have hb := asc_lt ha c (mem_of_at h)
  rw [isUp_tab c hb.2, isLow_tab c hb.2, lowerAt_one ha h, up_tab c hb.2]
  unfold swC lowC upC
  by_cases h1 : (65 ≤ c && c ≤ 90 : Bool) = true
  · simp [h1]
  · by_cases h2 : (97 ≤ c && c ≤ 122 : Bool) = true
    · simp only [h1, h2, if_true, if_false]; simp
    · simp only [h1, h2, if_false]; simp

theorem mapS_length (f : Nat → Nat) (x : Str) : (mapS f x).length = x.length := by simp [mapS, Str.length]
theorem asc_map {f : Nat → Nat} {x : Str} (hf : ∀ c, 32 ≤ c ∧ c < 127 → 32 ≤ f c ∧ f c < 127) (ha : asc x = true) : asc (mapS f x) = true := by
  have h := asc_lt ha
  unfold asc mapS pc
  rw [List.all_eq_true]
  intro c hc
  simp at hc
  obtain ⟨d, hd, rfl⟩ := hc
  have := hf d (h d (by simpa using hd))
  simpa using this
theorem asc_low {x : Str} (ha : asc x = true) : asc (low x) = true := asc_map (fun c h => by unfold lowC; split <;> rename_i q <;> simp at q <;> omega) ha
theorem swC_ok : ∀ c, c < 127 → 32 ≤ c → 32 ≤ swC c ∧ swC c < 127 := by decide
theorem asc_sw {x : Str} (ha : asc x = true) : asc (sw x) = true := asc_map (fun c h => swC_ok c h.2 h.1) ha


/-! arguments -/
section
variable {X : Cx} {n : Nat} {env : Env} {P : Prm} {A : Around} {ρ : List Addr} {μ : Mu} {σ : St} {s : Shared}

inductive EvK (X : Cx) (n : Nat) (env : Env) : List Keyword → List (Str × M V) → Prop
  | nil : EvK X n env [] []
  | cons {k : Str} {e : Expr} {p : Pos} {ks : List Keyword} {m : M V} {ms : List (Str × M V)} : Ev X n env e m → EvK X n env ks ms → EvK X n env (⟨some k, e, p⟩ :: ks) ((k, m) :: ms)

theorem VRl.step {vs : List V} {xs : List Value} {μ' : Mu} {s' : Shared} (R : Rel X ρ μ env σ s.heap) (a : Step (wrt env) μ μ' s s') (h : VRl s.heap (okOf ρ μ) μ vs xs) : VRl s'.heap (okOf ρ μ') μ' vs xs :=
  h.mono (fun _ _ => root_prefix a.pre) (a.ok fun x hx => R.own x (wrt_own hx))

/-- keyword values, in their order -/
noncomputable def zipR (names : List Str) : RVt (List Value) (List (Str × V)) := fun h ok μ vs xs => VRk h ok μ vs (names.zip xs)

theorem kw_names {pos : Pos} : ∀ {ks : List Keyword} {ms : List (Str × M V)}, EvK X n env ks ms →
    (backToKw pos (keywordEach ks env)).all (·.1.isSome) = true ∧ (backToKw pos (keywordEach ks env)).filterMap (·.1) = ms.map (·.1)
  | [], _, .nil => ⟨rfl, rfl⟩
  | _ :: _, _, .cons (k := k) h hs => by
    obtain ⟨h1, h2⟩ := kw_names (pos := pos) hs
    refine ⟨?_, ?_⟩
    · show (true && _) = true
      rw [Bool.true_and]; exact h1
    · show k :: _ = k :: _
      exact congrArg (k :: ·) h2

theorem Tr_evalAll {pos : Pos} : ∀ {ks : List Keyword} {ms : List (Str × M V)}, EvK X n env ks ms → Tr X n env (zipR (ms.map (·.1))) (evalAll ((backToKw pos (keywordEach ks env)).map (·.2))) (kwS ms)
  | [], _, .nil => fun A ρ μ σ s ga R => W_pure R rfl
  | _ :: ks, _, .cons (k := k) (e := e) (m := m) (ms := ms) h hs => by
    intro A ρ μ σ s ga R
    have ih := Tr_evalAll (pos := pos) hs
    show W X A ρ μ env s _ (evalAll ((eval e env >>= fun v => standAt pos >>= fun _ => pure v) :: _)) _
    rw [evalAll]
    refine W_bind (RV₁ := VRr) ?_ fun μ₁ s₁ a σ₁ x st₁ R₁ v₁ => W_bind (W_holding (ih A ρ μ₁ σ₁ s₁ ga R₁)) fun μ₂ s₂ vs σ₂ xs st₂ R₂ v₂ => W_pure R₂ ?_
    · intro v σ' q
      exact wpAny_bind (wpAny_mono (h A ρ μ σ s ga R v σ' q) (fun y s' z => wpAny_bind (wpAny_standAt (wpAny_pure z))) fun _ _ z => z)
    · exact ⟨x, _, rfl, VR.step R₁ st₂ v₁, v₂⟩

/-- all arguments of a call -/
theorem W_args {f : Value} {pos : Pos} {es : List Expr} {ms : List (M V)} {ks : List Keyword} {km : List (Str × M V)} (h : EvL X n env es ms) (hst : es.all noStar = true) (hk : EvK X n env ks km) (ga : Ga n A) (R : Rel X ρ μ env σ s.heap)
    {vs : List V} {kv : List (Str × V)} {σ1 σ2 : St} (e1 : seqS ms σ = some (vs, σ1)) (e2 : kwS km σ1 = some (kv, σ2)) :
    wpAny (model X.prog X.w) A (evalArgs f true (backTo pos (starEach es env)) (backToKw pos (keywordEach ks env)))
      (fun a s' => ∃ μ', Step (wrt env) μ μ' s s' ∧ Rel X ρ μ' env σ2 s'.heap ∧ VRl s'.heap (okOf ρ μ') μ' vs a.pos ∧ VRk s'.heap (okOf ρ μ') μ' kv a.kw) (fun _ _ => False) s := by
  obtain ⟨k1, k2⟩ := kw_names (pos := pos) hk
  have fin : ∀ μ₁ s₁ xs, Step (wrt env) μ μ₁ s s₁ → Rel X ρ μ₁ env σ1 s₁.heap → VRl s₁.heap (okOf ρ μ₁) μ₁ vs xs →
      wpAny (model X.prog X.w) A (evalAll ((backToKw pos (keywordEach ks env)).map (·.2))) (fun kx s₂ => (fun a s' => ∃ μ', Step (wrt env) μ μ' s s' ∧ Rel X ρ μ' env σ2 s'.heap ∧ VRl s'.heap (okOf ρ μ') μ' vs a.pos ∧ VRk s'.heap (okOf ρ μ') μ' kv a.kw)
        (⟨xs, ((backToKw pos (keywordEach ks env)).filterMap (·.1)).zip kx⟩ : Args) s₂) (fun _ _ => False) s₁ := by
    intro μ₁ s₁ xs st₁ R₁ v₁
    refine wpAny_mono (Tr_evalAll hk A ρ μ₁ σ1 s₁ ga R₁ kv σ2 e2) (fun kx s₂ z => ?_) fun _ _ z => z
    first | refine post_elim z fun μ₂ st₂ R₂ v₂ => ?_ | obtain ⟨μ₂, st₂, R₂, v₂⟩ := z
    refine ⟨μ₂, st₁.trans st₂, R₂, VRl.step R₁ st₂ v₁, ?_⟩
    rw [k2]; exact v₂
  cases h with
  | nil =>
    cases e1
    refine evalArgs_kw_nil k1 ?_
    exact fin μ s [] (.refl _ _ _) R rfl
  | cons h hs =>
    rename_i e es m ms
    have hst' := hst
    rw [List.all_cons, Bool.and_eq_true] at hst'
    have sp := Tr_spliced (pos := pos) (EvL.cons h hs) hst A ρ μ σ s ga R vs σ1 e1
    rw [starEach_cons hst'.1] at sp ⊢
    refine evalArgs_kw k1 (wpAny_mono sp (fun xs s₁ z => ?_) fun _ _ z => z)
    first | refine post_elim z fun μ₁ st₁ R₁ v₁ => ?_ | obtain ⟨μ₁, st₁, R₁, v₁⟩ := z
    exact fin μ₁ s₁ xs st₁ R₁ v₁

end
end Mine
end

section
open PySem
set_option Elab.async false
set_option maxRecDepth 10000
namespace Mine

section
variable {X : Cx} {n : Nat} {env : Env} {P : Prm} {A : Around} {ρ : List Addr} {μ : Mu} {σ : St} {s : Shared}

theorem ext_sameBut {a : Addr} {h h' : Heap} (hs : Heap.SameBut a h h') : ∀ b ob, b ∉ [a] → h.get? b = some ob → h'.get? b = some ob := fun b ob hb e => (hs.2 b (fun q => hb (by simp [q]))).trans e

/-- an object that is a list turns into another list -/
theorem post_setList {β : Type} {RV : RVt Value β} {b : β} {x : Value} (R : Rel X ρ μ env σ s.heap) {i : Nat} {a : Addr} {ds es : List PyData} {ws : Array Value} {m : Nat} {h' : Heap} {tk : Nat} (hi : σ.heap[i]? = some (.lst ds)) (hr : root μ i = some a)
    (hs : Heap.SameBut a s.heap h') (ha : h'.get? a = some { cls := .type "list", data := .seq ws m }) (hd : DRs s.heap (okOf ρ μ) es ws.toList) (hq : RV h' (okOf ρ μ) μ b x) :
    Post X ρ μ env s RV b ⟨σ.loc, σ.heap.set i (.lst es)⟩ x { s with heap := h', toks := tk } := by
  obtain ⟨p, h2, h3⟩ := R.objs i _ hi
  obtain ⟨vs, nn, h4, h5, h6⟩ := h3
  rw [root_some h2] at hr
  cases hr
  have k := ext_sameBut hs
  have kf : ∀ b ob, b ∉ p.2 → s.heap.get? b = some ob → h'.get? b = some ob := by rw [h4]; exact k
  have hl : ∀ b ∈ p.2, ∃ ob, h'.get? b = some ob := by rw [h4]; intro b hb; simp at hb; subst hb; exact ⟨_, ha⟩
  refine ⟨μ, .setObj h2 kf hl, R.setObj h2 (fun _ q => nomatch q) kf hl ⟨ws, m, h4, ha, DRs.mono (fun c o ok e => ⟨kf c o (fun hm => ok.2 (foot_get h2 hm)) e, ok⟩) hd⟩, hq⟩

theorem root_list (R : Rel X ρ μ env σ s.heap) {i : Nat} {x : Value} {ds : List PyData} (hv : VR s.heap (okOf ρ μ) μ (.obj i) x) (hi : σ.heap[i]? = some (.lst ds)) :
    ∃ a vs m, x = .ref a ∧ root μ i = some a ∧ s.heap.get? a = some { cls := .type "list", data := .seq vs m } ∧ DRs s.heap (okOf ρ μ) ds vs.toList := by
  obtain ⟨a, h1, rfl⟩ := hv
  obtain ⟨p, h2, h3⟩ := R.objs i _ hi
  obtain ⟨vs, nn, h4, h5, h6⟩ := h3
  rw [root_some h2] at h1
  cases h1
  exact ⟨_, vs, nn, rfl, root_some h2, h5, h6⟩

noncomputable def LMok (X : Cx) (id : String) (F : List PyData → List V → Option (PyData × List PyData)) : Prop :=
  ∀ {env : Env} {A : Around} {ρ : List Addr} {μ : Mu} {σ : St} {s : Shared} {i : Nat} {a : Addr} {ws : Array Value} {m : Nat} {xs : List Value} {vs : List V} {ds es : List PyData} {d : PyData}, Rel X ρ μ env σ s.heap → VRl s.heap (okOf ρ μ) μ vs xs →
    σ.heap[i]? = some (.lst ds) → root μ i = some a → s.heap.get? a = some { cls := .type "list", data := .seq ws m } → DRs s.heap (okOf ρ μ) ds ws.toList → ws.size = ds.length → ds.length ≤ big → F ds vs = some (d, es) →
    wpAny (model X.prog X.w) A (call (.builtin id) (.ref a :: xs)) (Post X ρ μ env s VRr (.dat d) ⟨σ.loc, σ.heap.set i (.lst es)⟩) (fun _ _ => False) s

theorem DR_none {h : Heap} {ok : Addr → Prop} {μ : Mu} : VRr h ok μ (.dat .none) .none := by
  show DR _ _ _ _; simp only [DR]

theorem append_ok : LMok X "list.append" appF := fun {env A ρ μ σ s i a ws m xs vs ds es d} R ha hi hr hL hds ln hb e => by
  match vs, e, ha with
  | [.dat d], e, ha =>
    cases e
    obtain ⟨y, r, rfl, h1, h2⟩ := ha
    rw [show r = [] from h2]
    refine wpAny_list_append_plain ⟨m, hL⟩ (fun h' hp hs => ?_) (by rw [ln]; exact Nat.le_trans hb big_le)
    obtain ⟨m', hp⟩ := hp
    exact post_setList R hi hr hs hp (by simpa using hds.append (DRs.one h1)) DR_none

/-! method calls -/
noncomputable def plainBase : Expr → Bool
  | .Call (.Name _ _) [] [] _ => false
  | _ => true
theorem attributeBase_plain {o : Expr} (h : plainBase o = true) (attr : Str) (whole : Sem Value) : attributeBase o attr env whole = whole := by
  unfold attributeBase
  split
  · rename_i id p pos; cases h
  · rfl

theorem star_flags {pos : Pos} : ∀ {es : List Expr}, es.all noStar = true → (backTo pos (starEach es env)).all (fun x => !x.1) = true
  | [], _ => rfl
  | e :: es, h => by
    rw [List.all_cons, Bool.and_eq_true] at h
    rw [starEach_cons h.1]
    show (true && _) = true
    rw [Bool.true_and]; exact star_flags h.2
theorem star_any {pos : Pos} : ∀ {es : List Expr}, es.all noStar = true → (backTo pos (starEach es env)).any (fun x => x.1) = false
  | [], _ => rfl
  | e :: es, h => by
    rw [List.all_cons, Bool.and_eq_true] at h
    rw [starEach_cons h.1]
    show (false || _) = false
    rw [Bool.false_or]; exact star_any h.2

noncomputable def methOk (o : Expr) (es : List Expr) (ks : List Keyword) (apos pos : Pos) : Bool :=
  plainBase o && es.all noStar && decide (es.length + ks.length < 20) && apos.endLine == pos.line

theorem form_true {pos : Pos} {es : List Expr} {ks : List Keyword} {km : List (Str × M V)} (hst : es.all noStar = true) (hk : EvK X n env ks km) (hl : es.length + ks.length < 20) :
    methodCallForm (es.length + ks.length) (backTo pos (starEach es env)) (backToKw pos (keywordEach ks env)) = true := by
  unfold methodCallForm
  rw [star_flags hst, (kw_names (pos := pos) hk).1, Bool.true_and, Bool.true_and]
  split <;> exact decide_eq_true (by omega)

/-- the step from the callee found to the call -/
theorem Meth_eval {o : Expr} {name : Str} {apos pos : Pos} {es : List Expr} {ks : List Keyword} {mo : M V} {km : List (Str × M V)} (ho : Ev X n env o mo) (hk : EvK X n env ks km) (hm : methOk o es ks apos pos = true) (ga : Ga n A) (R : Rel X ρ μ env σ s.heap)
    {ov : V} {σ1 : St} (e1 : mo σ = some (ov, σ1)) {Q : Value → Shared → Prop}
    (k : ∀ μ' s' x, Step (wrt env) μ μ' s s' → Rel X ρ μ' env σ1 s'.heap → VR s'.heap (okOf ρ μ') μ' ov x → ∀ pl, wpAny (model X.prog X.w) A (getMethod x name pl) (fun r s₁ => wpAny (model X.prog X.w) A (callWith pos r.1 r.2 (backTo pos (starEach es env)) (backToKw pos (keywordEach ks env))) Q (fun _ _ => False) s₁) (fun _ _ => False) s') :
    wpAny (model X.prog X.w) A (eval (.Call (.Attribute o name apos) es ks pos) env) Q (fun _ _ => False) s := by
  unfold methOk at hm
  simp only [Bool.and_eq_true, decide_eq_true_eq, beq_iff_eq] at hm
  obtain ⟨⟨⟨h1, h2⟩, h3⟩, h4⟩ := hm
  rw [arm_eval_Call, attributeBase_plain h1]
  refine wpAny_bind (wpAny_mono (ho A ρ μ σ s ga R ov σ1 e1) (fun x s1 z => ?_) fun _ _ z => z)
  first | refine post_elim z fun μ1 st1 R1 v1 => ?_ | obtain ⟨μ1, st1, R1, v1⟩ := z
  refine wpAny_bind (wpAny_standAt ?_)
  unfold methodCall
  rw [form_true h2 hk h3]
  refine wpAny_bind (wpAny_holding ?_)
  show wpAny _ _ (getMethod x name _) _ _ _
  refine wpAny_mono (k μ1 s1 x st1 R1 v1 _) (fun r s2 z => ?_) fun _ _ z => z
  obtain ⟨f, first⟩ := r
  have hp : methodCallPos true o env apos pos = pure pos := by
    unfold methodCallPos
    rw [if_pos (by simp [h4])]
  show wpAny _ _ (methodCallPos true o env apos pos >>= _) _ _ _
  rw [hp]
  exact wpAny_bind (wpAny_pure z)

theorem tooLong_ok {x y : Str} (h : x.length ≤ big) (e : y.length = x.length) : Builtin.Str.tooLong y.length = false := by
  unfold Builtin.Str.tooLong
  have := big_le
  exact decide_eq_false (by omega)

theorem VR_str {h : Heap} {ok : Addr → Prop} {μ : Mu} {y : Str} {t : Tok} (ha : asc y = true) : VRr h ok μ (.dat (.str y)) (.str y t) := by
  show DR h ok (.str y) (.str y t)
  simp only [DR]; exact ⟨ha, _, rfl⟩

/-- a text's method without arguments -/
noncomputable def SMok (X : Cx) (name : Str) (id : String) (f : Str → Str) : Prop := ∀ {env : Env} {A : Around} {x : Str} {t : Tok}, asc x = true → x.length ≤ big →
    (∀ {s : Shared} {pl : Sem Bool} {Q : Value × List Value → Shared → Prop}, Q (.builtin id, [.str x t]) s → wpAny (model X.prog X.w) A (getMethod (.str x t) name pl) Q (fun _ _ => False) s) ∧
    (∀ {ρ μ σ s}, Rel X ρ μ env σ s.heap → wpAny (model X.prog X.w) A (call (.builtin id) [.str x t]) (Post X ρ μ env s VRr (.dat (.str (f x))) σ) (fun _ _ => False) s)
theorem lower_ok : SMok X (Str.ofString "lower") "str.lower" low := fun ha hl => ⟨fun h => GM.lower h, fun R => SC.lower (tooLong_ok hl (by rw [lower_eq ha]; exact mapS_length _ _)) (post_tok R _ (by rw [lower_eq ha]; exact VR_str (asc_low ha)))⟩
theorem swapcase_ok : SMok X (Str.ofString "swapcase") "str.swapcase" sw := fun ha hl => ⟨fun h => GM.swapcase h, fun R => SC.swapcase (tooLong_ok hl (by rw [swap_eq ha]; exact mapS_length _ _)) (post_tok R _ (by rw [swap_eq ha]; exact VR_str (asc_sw ha)))⟩

theorem Ev_StrM {name : Str} {id : String} {f : Str → Str} (hS : SMok X name id f) {o : Expr} {apos pos : Pos} {mo : M V} (ho : Ev X n env o mo) (hm : methOk o [] [] apos pos = true) :
    Ev X n env (.Call (.Attribute o name apos) [] [] pos) (do let ov ← mo; strF f ov) := by
  intro A ρ μ σ s ga R v σ' e
  refine mbind_elim e fun ov σ1 e1 q => ?_
  refine Meth_eval ho (.nil (n := n)) hm ga R e1 fun μ1 s1 x st1 R1 v1 pl => ?_
  match ov, q, v1 with
  | .dat (.str w), q, v1 =>
    simp only [strF] at q
    split at q
    · rename_i hl
      cases q
      have v1' : DR _ _ _ _ := v1
      simp only [DR] at v1'
      obtain ⟨ha, t, rfl⟩ := v1'
      refine (hS (env := env) ha hl).1 ?_
      refine Calls.callWith_builtin (star_any (es := []) rfl) ?_
      refine wpAny_mono (W_args (es := []) (ks := []) (.nil (n := n)) rfl .nil ga R1 rfl rfl) (fun a s2 z => ?_) fun _ _ z => z
      obtain ⟨μ2, st2, R2, v2, k2⟩ := z
      rw [show a.pos = [] from v2, show a.kw = [] from k2]
      exact wpAny_mono ((hS (env := env) ha hl).2 R2) (fun _ _ z => post_elim z fun μ3 st3 R3 v3 => ⟨μ3, (st1.trans st2).trans st3, R3, v3⟩) fun _ _ z => z
    · cases q

theorem lstG_some {v : V} {σ σ' : St} {u : Unit} (e : lstG v σ = some (u, σ')) : σ' = σ ∧ ∃ i ds, v = .obj i ∧ σ.heap[i]? = some (.lst ds) := by
  unfold lstG at e
  split at e
  · rename_i h
    cases e
    unfold isLst at h
    refine ⟨rfl, ?_⟩
    cases v with
    | obj i =>
      simp only at h
      split at h
      · rename_i ds q; exact ⟨i, ds, rfl, q⟩
      · cases h
    | _ => cases h
  · cases e

/-- how a list's method is found -/
noncomputable def LGok (X : Cx) (name : Str) (id : String) : Prop := ∀ {A : Around} {s : Shared} {a : Addr} {vs : Array Value} {m : Nat} {pl : Sem Bool} {Q : Value × List Value → Shared → Prop}, s.heap.get? a = some { cls := .type "list", data := .seq vs m } →
    Q (.builtin id, [.ref a]) s → wpAny (model X.prog X.w) A (getMethod (.ref a) name pl) Q (fun _ _ => False) s
theorem append_get : LGok X (Str.ofString "append") "list.append" := fun hL h => getMethod_builtin ⟨_, hL, rfl⟩ F.plainAttrs_list PySem.F.slot_list_append PySem.F.type_list_append (fun b e => by cases e; exact ⟨_, hL, rfl⟩) h
theorem Ev_LstM {name : Str} {id : String} {F : List PyData → List V → Option (PyData × List PyData)} (hG : LGok X name id) (hF : LMok X id F) {o : Expr} {apos pos : Pos} {es : List Expr} {mo : M V} {ms : List (M V)} (ho : Ev X n env o mo) (he : EvL X n env es ms) (hm : methOk o es [] apos pos = true) :
    Ev X n env (.Call (.Attribute o name apos) es [] pos) (do let ov ← mo; lstG ov; let vs ← seqS ms; lstF F ov vs) := by
  intro A ρ μ σ s ga R v σ' e
  refine mbind_elim e fun ov σ1 e1 q => ?_
  refine mbind_elim q fun kd σ2 e2 q2 => ?_
  obtain ⟨h2, i, ds, hov, hi⟩ := lstG_some e2
  subst h2 hov
  refine mbind_elim q2 fun vs σ3 e3 q3 => ?_
  have hst : es.all noStar = true := by
    unfold methOk at hm; simp only [Bool.and_eq_true] at hm; exact hm.1.1.2
  refine Meth_eval ho (.nil (n := n)) hm ga R e1 fun μ1 s1 x st1 R1 v1 pl => ?_
  obtain ⟨a, ws, m, rfl, hr, hL, hds⟩ := root_list R1 v1 hi
  refine hG hL ?_
  refine Calls.callWith_builtin (star_any hst) ?_
  refine wpAny_mono (W_args (ks := []) he hst (.nil (n := n)) ga R1 e3 rfl) (fun ar s2 z => ?_) fun _ _ z => z
  refine wrap fun G kG => ?_
  obtain ⟨μ2, st2, R2, v2, k2⟩ := z
  simp only [lstF] at q3
  cases hi2 : σ3.heap[i]? with
  | none => rw [hi2] at q3; cases q3
  | some ob =>
    rw [hi2] at q3
    cases ob with
    | lst ds2 =>
      simp only at q3
      by_cases hb : ds2.length ≤ big
      · rw [if_pos hb] at q3
        obtain ⟨r, e5, q5⟩ := Option.map_eq_some_iff.mp q3
        obtain ⟨a', ws', m', ha', hr', hL', hds'⟩ := root_list R2 (VR.step R1 st2 v1) hi2
        have ln := hds'.length
        rw [Array.length_toList] at ln
        refine kG ?_
        clear kG
        cases q5
        rw [show ar.kw = [] from k2, ha']
        exact wpAny_mono (hF R2 v2 hi2 hr' hL' hds' ln hb e5) (fun _ _ z => post_elim z fun μ3 st3 R3 v3 => ⟨μ3, (st1.trans st2).trans st3, R3, v3⟩) fun _ _ z => z
      · rw [if_neg hb] at q3; cases q3
    | _ => cases q3

theorem shadow_no {name : Str} {od : Obj} (hn : name ≠ hdrKey) (h : od = W.emptyDict ∨ ∃ t k al, od = instDict X.w.params t k al) : W.shadowIn (some od) name = some false := by
  rcases h with rfl | ⟨t, k, al, rfl⟩
  · rfl
  · unfold W.shadowIn W.lookIn instDict
    have : (Value.str hdrKey t).isStr name = false := by
      unfold Value.isStr
      rw [Bool.eq_false_iff]; intro q; exact hn (beq_iff_eq.mp q).symm
    simp [this, DictEntry.refKey]

theorem instG_some {v : V} {σ σ' : St} {u : Unit} (e : instG v σ = some (u, σ')) : σ' = σ ∧ isInst v σ = true := by
  unfold instG at e
  split at e
  · rename_i h
    cases e
    exact ⟨rfl, h⟩
  · cases e

theorem Ev_InstM (ok : CxOk X) (pok : PrmOk X n P) {o : Expr} {name : Str} {apos pos : Pos} {es : List Expr} {ks : List Keyword} {mo : M V} {ms : List (M V)} {km : List (Str × M V)} (ho : Ev X (n + 1) env o mo) (he : EvL X (n + 1) env es ms) (hk : EvK X (n + 1) env ks km) (hm : methOk o es ks apos pos = true) :
    Ev X (n + 1) env (.Call (.Attribute o name apos) es ks pos) (do let ov ← mo; instG ov; let vs ← seqS ms; let kv ← kwS km; P.mt name ov vs kv) := by
  intro A ρ μ σ s ga R v σ' e
  refine mbind_elim e fun ov σ1 e1 q => ?_
  refine mbind_elim q fun kd σ2 e2 q2 => ?_
  obtain ⟨h2, hin⟩ := instG_some e2
  obtain ⟨i, l, hov, hi⟩ := isInst_obj hin
  subst h2 hov
  refine mbind_elim q2 fun vs σ3 e3 q3 => ?_
  refine mbind_elim q3 fun kv σ4 e4 q4 => ?_
  have hst : es.all noStar = true := by
    unfold methOk at hm; simp only [Bool.and_eq_true] at hm; exact hm.1.1.2
  refine Meth_eval ho hk hm ga R e1 fun μ1 s1 x st1 R1 v1 pl => ?_
  refine wrap fun G kG => ?_
  obtain ⟨a, d, od, hx, hr, I, hd, hod⟩ := inst_at R1 v1 hi
  cases hmt : mth X name with
  | none => rw [pok.mtNo _ hmt] at q4; cases q4
  | some f =>
    obtain ⟨hf, hfn, hfi⟩ := mth_find hmt
    have hne : name ≠ hdrKey := fun hh => by rw [hh, pok.mtHdr] at q4; cases q4
    have hsh : W.shadowIn (some od) name = some false := shadow_no (X := X) hne (by
      cases l with
      | none => exact .inl hod
      | some k => obtain ⟨al, t, m, _, h⟩ := hod; exact .inr ⟨t, m, al, h⟩)
    obtain ⟨cls, dd, fd, sl, hK⟩ : ∃ cls dd fd sl, X.K.lookup f = some ⟨cls, dd, .func fd, sl⟩ := by
      unfold W.fnIn at hfi
      split at hfi
      · rename_i h; exact ⟨_, _, _, _, h⟩
      · cases hfi
    rw [hx] at kG v1
    refine kG (W.method_fn (R1.kin ok) I ok.ga ok.noga hf (beq_iff_eq.mp hfn) hsh ?_)
    clear kG
    refine callWith_function_kw (o := ⟨cls, dd, .func fd, sl⟩) (fd := fd) ?_
    refine wpAny_mono (W_args he hst hk ga R1 e3 e4) (fun ar s2 z => ?_) fun _ _ z => z
    obtain ⟨μ2, st2, R2, v2, k2⟩ := z
    refine ⟨⟨(R2.kin ok) _ _ hK, rfl⟩, ?_⟩
    exact wpAny_mono (pok.mt name f hmt env A ρ μ2 σ4 s2 (.obj i) (.ref a) vs ar.pos kv ar.kw (ga.less (Nat.le_succ _)) R2 (VR.step R1 st2 v1) v2 k2 v σ' q4) (fun _ _ z => post_elim z fun μ3 st3 R3 v3 => ⟨μ3, (st1.trans st2).trans st3, R3, v3⟩) fun _ _ z => z

end
end Mine
end

section
open PySem
set_option Elab.async false
set_option maxRecDepth 10000
namespace Mine

section
variable {X : Cx} {n : Nat} {env : Env} {P : Prm} {A : Around} {ρ : List Addr} {μ : Mu} {σ : St} {s : Shared}

noncomputable def gval (X : Cx) (f : Str) : Option Value := match X.mg f with
  | some v => some v
  | none => X.mb f

theorem glob_load (ok : CxOk X) (R : Rel X ρ μ env σ s.heap) {f : Str} {v : Value} {Q : Value → Shared → Prop} (hv : gval X f = some v) (h : Q v s) :
    wpAny (model X.prog X.w) A (loadGlobal env f) Q (fun _ _ => False) s := by
  obtain ⟨m, cm, F, _⟩ := R.frame
  have hg : s.heap.Ns env.globals X.mg := by rw [F.globals]; exact ok.g.keeps R.base
  have hb : s.heap.Ns env.builtins X.mb := by rw [F.builtins]; exact ok.b.keeps R.base
  unfold gval at hv
  cases e : X.mg f with
  | some w => rw [e] at hv; cases hv; exact Calls.loadGlobal_global hg e h
  | none => rw [e] at hv; exact Calls.loadGlobal_builtin hg e hb hv h

noncomputable def gKind (env : Env) (f : Str) : Bool := env.kindOf f == some .globalImplicit && f != dbg

theorem Name_glob (ok : CxOk X) (R : Rel X ρ μ env σ s.heap) {f : Str} {p : Pos} {v : Value} {Q : Value → Shared → Prop} (hk : gKind env f = true) (hv : gval X f = some v) (h : Q v s) :
    wpAny (model X.prog X.w) A (eval (.Name f p) env) Q (fun _ _ => False) s := by
  obtain ⟨m, cm, F, _⟩ := R.frame
  unfold gKind at hk
  simp only [Bool.and_eq_true, beq_iff_eq, bne_iff_ne, ne_eq] at hk
  exact Calls.Name_function_global F.kind hk.1 (glob_load ok R hv h) (dbg_false hk.2)

theorem blt_val (ok : CxOk X) {f : Str} {v : Value} (hf : f ∈ bltNames) (hn : f ≠ ("__name__" : Str)) (hb : bootBuiltins f = some v) : gval X f = some v := by
  unfold gval
  rw [ok.noG f hf]
  exact (ok.blt f hn).trans hb

theorem val_len (ok : CxOk X) : gval X (Str.ofString "len") = some (.builtin "len") := blt_val ok (by unfold bltNames; decide) (by decide) (by decide +kernel)
theorem val_str (ok : CxOk X) : gval X (Str.ofString "str") = some (.type "str") := blt_val ok (by unfold bltNames; decide) (by decide) (by decide +kernel)
theorem val_range (ok : CxOk X) : gval X (Str.ofString "range") = some (.type "range") := blt_val ok (by unfold bltNames; decide) (by decide) (by decide +kernel)
theorem val_list (ok : CxOk X) : gval X (Str.ofString "list") = some (.type "list") := blt_val ok (by unfold bltNames; decide) (by decide) (by decide +kernel)
theorem val_type (ok : CxOk X) : gval X (Str.ofString "type") = some (.type "type") := blt_val ok (by unfold bltNames; decide) (by decide) (by decide +kernel)

/-- a call by a global name -/
theorem Call_name (ok : CxOk X) {f : Str} {p pos : Pos} {es : List Expr} {Q : Value → Shared → Prop} (R : Rel X ρ μ env σ s.heap) {v : Value} (hk : gKind env f = true) (hv : gval X f = some v)
    (h : wpAny (model X.prog X.w) A (callWith pos v [] (backTo pos (starEach es env)) []) Q (fun _ _ => False) s) :
    wpAny (model X.prog X.w) A (eval (.Call (.Name f p) es [] pos) env) Q (fun _ _ => False) s := by
  show wpAny _ _ (eval (.Name f p) env >>= fun v => callWith pos v [] (backTo pos (starEach es env)) (backToKw pos (keywordEach [] env))) _ _ _
  exact wpAny_bind (Name_glob ok R hk hv h)

theorem VR_int {h : Heap} {ok : Addr → Prop} {μ : Mu} {i : Int} {t : Tok} : VRr h ok μ (.dat (.int i)) (.int i t) := by
  show DR h ok (.int i) (.int i t)
  simp only [DR]; exact ⟨_, rfl⟩

theorem mguard_some {b : Bool} {u : Unit} {σ σ' : St} (e : mguard b σ = some (u, σ')) : b = true ∧ σ' = σ := by
  unfold mguard at e
  split at e
  · rename_i h; cases e; exact ⟨h, rfl⟩
  · cases e

/-- len -/
theorem W_lenS (ok : CxOk X) (pok : PrmOk X n P) (ga : Ga (n + 1) A) {v : V} {x : Value} (R : Rel X ρ μ env σ s.heap) (hv : VR s.heap (okOf ρ μ) μ v x) : W X A ρ μ env s VRr (call (.builtin "len") [x]) (lenS P v σ) := by
  intro r σ' e
  unfold lenS at e
  split at e
  · rename_i hin
    obtain ⟨j, l, rfl, hj⟩ := isInst_obj hin
    obtain ⟨a', d, od, rfl, hr, I, hd, _⟩ := inst_at R hv hj
    refine mbind_elim e fun rv σ1 e1 q => ?_
    cases hm : mth X (Str.ofString "__len__") with
    | none => rw [pok.mtNo _ hm] at e1; cases e1
    | some f =>
      obtain ⟨hf, hfn, hfi⟩ := mth_find hm
      obtain ⟨m, F⟩ := R.fr
      refine W.len_K F ok.kin I hf hfn ?_
      refine wpAny_mono (pok.mt _ f hm env A.in1 ρ μ σ s (.obj j) (.ref a') [] [] [] [] ga.in1 R hv rfl rfl rv σ1 e1) (fun y s1 z => ?_) fun _ _ z => z
      first | refine post_elim z fun μ1 st1 R1 v1 => ?_ | obtain ⟨μ1, st1, R1, v1⟩ := z
      split at q
      · rename_i k
        split at q
        · rename_i hk
          cases q
          have v1' : DR _ _ _ _ := v1
          simp only [DR] at v1'
          obtain ⟨t, rfl⟩ := v1'
          refine ⟨⟨hk.1, by have := hk.2; unfold big at this; omega⟩, ?_⟩
          exact ⟨μ1, st1.trans (.grow (h' := s1.heap) fun _ _ e => e), R1, VR_int⟩
        · cases q
      · cases q
  · refine mbind_elim e fun d1 σ1 e1 q => ?_
    have h1 := readD_state e1; subst h1
    refine mbind_elim q fun m σ2 e2 q2 => ?_
    obtain ⟨e2', h2⟩ := mopt_some e2; subst h2
    refine mbind_elim q2 fun u σ3 e3 q3 => ?_
    obtain ⟨hb, h3⟩ := mguard_some e3; subst h3
    cases q3
    have l1 := (readD_ok R hv e1).2
    have hb' := of_decide_eq_true hb
    unfold big at hb'
    unfold lenD at e2'
    split at e2'
    · cases e2'
      simp only [LR, DR] at l1
      obtain ⟨ha, t, rfl⟩ := l1
      exact PyProof.Rows.len_str (by omega) (post_tok R _ VR_int)
    · cases e2'
      obtain ⟨a, vs, rfl, hL, hds⟩ := list_of_LR l1
      have ln := hds.length
      rw [Array.length_toList] at ln
      refine PyProof.Rows.len_list hL (by omega) ?_
      rw [ln]
      exact post_tok R _ VR_int
    · cases e2'
      simp only [LR, DR] at l1
      obtain ⟨a, ob, vs, nn, rfl, _, g1, g2, g3, hds⟩ := l1
      have ln := hds.length
      rw [Array.length_toList] at ln
      refine PyProof.Rows.len_tuple ⟨ob, g1, g2, nn, g3⟩ (by omega) ?_
      rw [ln]
      exact post_tok R _ VR_int
    · cases e2'

theorem asc_strI (i : Int) : asc (strI i) = true := by
  unfold asc strI
  rw [Str.ofString_eq_toList, List.all_eq_true]
  intro c hc
  obtain ⟨ch, h1, rfl⟩ := List.mem_map.mp hc
  unfold pc
  simp only [Bool.and_eq_true, decide_eq_true_eq]
  rcases PyProof.Rows.int_sign i ch h1 with h | h
  · have := PyProof.Rows.digit_range h
    omega
  · subst h; decide

theorem log2_small {i : Int} (h : i.natAbs < 10 ^ 100) : i.natAbs.log2 < 1920 := by
  have : (10 : Nat) ^ 100 < 2 ^ 1920 := by decide +kernel
  by_cases h0 : i.natAbs = 0
  · rw [h0]; decide
  · exact (Nat.log2_lt h0).mpr (by omega)

theorem W_lenB (ok : CxOk X) (pok : PrmOk X n P) (ga : Ga (n + 1) A) (R : Rel X ρ μ env σ s.heap) {vs : List V} {xs : List Value} (hv : VRl s.heap (okOf ρ μ) μ vs xs) : W X A ρ μ env s VRr (call (.builtin "len") xs []) (lenB P vs σ) := by
  match vs, hv with
  | [v], hv =>
    obtain ⟨x, r, h1, h2, h3⟩ := hv
    rw [h1, show r = [] from h3]
    exact W_lenS ok pok ga R h2
  | [], _ => exact W_fail
  | _ :: _ :: _, _ => exact W_fail
theorem W_strB (R : Rel X ρ μ env σ s.heap) {vs : List V} {xs : List Value} (hv : VRl s.heap (okOf ρ μ) μ vs xs) : W X A ρ μ env s VRr (call (.type "str") xs []) (strB vs σ) := by
  intro v σ' q
  unfold strB at q
  split at q
  · rename_i i
    split at q
    · rename_i hi
      cases q
      obtain ⟨x, r, h1, h2, h3⟩ := hv
      rw [h1, show r = [] from h3]
      have h2' : DR _ _ _ _ := h2
      simp only [DR] at h2'
      obtain ⟨t, rfl⟩ := h2'
      exact PySem.P.str_of_int (log2_small hi) (post_tok R _ (VR_str (asc_strI i)))
    · cases q
  · cases q
theorem W_rangeB (R : Rel X ρ μ env σ s.heap) {vs : List V} {xs : List Value} (hv : VRl s.heap (okOf ρ μ) μ vs xs) : W X A ρ μ env s VRr (call (.type "range") xs []) (rangeB vs σ) := by
  intro v σ' q
  unfold rangeB at q
  split at q
  · split at q
    · rename_i k hk'
      cases q
      obtain ⟨x, r, h1, h2, h3⟩ := hv
      rw [h1, show r = [] from h3]
      have h2' : DR _ _ _ _ := h2
      simp only [DR] at h2'
      obtain ⟨t, rfl⟩ := h2'
      exact call_range_1 (post_new R (fun _ _ e => Heap.get?_push_of_some _ e) ⟨_, _, _, _, rfl, R.okNew (fresh_size _), Heap.get?_push_size _ rfl⟩)
    · cases q
  · split at q
    · rename_i k1 k2 hk'
      cases q
      obtain ⟨x, r, h1, h2, y, r', h4, h5, h6⟩ := hv
      subst h4
      rw [h1, show r' = [] from h6]
      have h2' : DR _ _ _ _ := h2
      simp only [DR] at h2'
      obtain ⟨t, rfl⟩ := h2'
      have h5' : DR _ _ _ _ := h5
      simp only [DR] at h5'
      obtain ⟨u, rfl⟩ := h5'
      exact call_range_2 (post_new R (fun _ _ e => Heap.get?_push_of_some _ e) ⟨_, _, _, _, rfl, R.okNew (fresh_size _), Heap.get?_push_size _ rfl⟩)
    · cases q
  · cases q

theorem post_up {α β : Type} {RV : RVt α β} {b : β} {σ' : St} {μ2 : Mu} {s2 s3 : Shared} {y : α} (st : Step (wrt env) μ μ2 s s2) (z : Post X ρ μ2 env s2 RV b σ' y s3) : Post X ρ μ env s RV b σ' y s3 :=
  post_elim z fun μ3 st3 R3 v3 => ⟨μ3, st.trans st3, R3, v3⟩

/-- a call of a built-in function by its name -/
theorem Ev_BltB (ok : CxOk X) {f : Str} {b : String} {F : List V → M V} {p pos : Pos} {es : List Expr} {ms : List (M V)} (hv : gval X f = some (.builtin b)) (he : EvL X (n + 1) env es ms) (hst : es.all noStar = true) (hk : gKind env f = true)
    (hF : ∀ {A ρ μ σ s vs xs}, Ga (n + 1) A → Rel X ρ μ env σ s.heap → VRl s.heap (okOf ρ μ) μ vs xs → W X A ρ μ env s VRr (call (.builtin b) xs []) (F vs σ)) :
    Ev X (n + 1) env (.Call (.Name f p) es [] pos) (do let vs ← seqS ms; F vs) := by
  intro A ρ μ σ s ga R v σ' e
  refine mbind_elim e fun vs σ1 e1 q => ?_
  refine Call_name ok R hk hv (Calls.callWith_builtin (star_any hst) (wpAny_mono (W_args (ks := []) he hst .nil ga R e1 rfl) (fun ar s2 z => ?_) fun _ _ z => z))
  obtain ⟨μ2, st2, R2, v2, k2⟩ := z
  rw [show ar.kw = [] from k2, List.nil_append]
  exact wpAny_mono (hF ga R2 v2 v σ' q) (fun _ _ z => post_up st2 z) fun _ _ z => z
/-- a call of a type by its name -/
theorem Ev_BltT (ok : CxOk X) {f : Str} {b : String} {F : List V → M V} {p pos : Pos} {es : List Expr} {ms : List (M V)} (hv : gval X f = some (.type b)) (he : EvL X (n + 1) env es ms) (hst : es.all noStar = true) (hk : gKind env f = true)
    (hF : ∀ {A ρ μ σ s vs xs}, Ga (n + 1) A → Rel X ρ μ env σ s.heap → VRl s.heap (okOf ρ μ) μ vs xs → W X A ρ μ env s VRr (call (.type b) xs []) (F vs σ)) :
    Ev X (n + 1) env (.Call (.Name f p) es [] pos) (do let vs ← seqS ms; F vs) := by
  intro A ρ μ σ s ga R v σ' e
  refine mbind_elim e fun vs σ1 e1 q => ?_
  refine Call_name ok R hk hv (PyProof.Rows.callWith_type (star_any hst) (wpAny_mono (W_args (ks := []) he hst .nil ga R e1 rfl) (fun ar s2 z => ?_) fun _ _ z => z))
  obtain ⟨μ2, st2, R2, v2, k2⟩ := z
  rw [show ar.kw = [] from k2, List.nil_append]
  exact wpAny_mono (hF ga R2 v2 v σ' q) (fun _ _ z => post_up st2 z) fun _ _ z => z
end
end Mine
end

section
open PySem
set_option Elab.async false
set_option maxRecDepth 10000
namespace Mine

section
variable {X : Cx} {n : Nat} {env : Env} {P : Prm} {A : Around} {ρ : List Addr} {μ : Mu} {σ : St} {s : Shared}

theorem DRs.of_items {h : Heap} {ok : Addr → Prop} : ∀ {ds : List PyData} {vs : List Value}, vs.length = ds.length → (∀ (j : Nat) d v, ds[j]? = some d → vs[j]? = some v → DR h ok d v) → DRs h ok ds vs
  | [], vs, hl, _ => by simp only [DRs]; exact List.eq_nil_of_length_eq_zero hl
  | d :: ds, [], hl, _ => by simp at hl
  | d :: ds, v :: vs, hl, k => by
    simp only [DRs]
    exact ⟨v, vs, rfl, k 0 d v rfl rfl, DRs.of_items (by simpa using hl) fun j d' v' h1 h2 => k (j + 1) d' v' (by simpa using h1) (by simpa using h2)⟩

theorem intsD_length (lo hi : Int) : (intsD lo hi).length = (hi - lo).toNat := by simp [intsD]
theorem rangeSize_eq (lo hi : Int) : Builtin.Range.rangeSize lo hi 1 = ((hi - lo).toNat : Int) := by
  unfold Builtin.Range.rangeSize
  simp only [show (1 : Int) > 0 by decide, if_true, Int.ediv_one]
  split <;> omega

theorem small_range {lo hi : Int} (h : smallR lo hi = true) : Builtin.Range.small lo hi 1 = true ∧ (hi - lo).toNat ≤ big := by
  unfold smallR at h
  have h := of_decide_eq_true h
  refine ⟨?_, h.2.2⟩
  obtain ⟨h1, h2, h3⟩ := h
  unfold Builtin.Range.small
  rw [rangeSize_eq]
  unfold big at h3
  simp only [Builtin.Range.rangeFitsLong, Bool.and_eq_true, Bool.or_eq_true, decide_eq_true_eq, show (1 : Int) > 0 by decide, if_true]
  omega

/-- Headers(...) -/
theorem Ev_Make (ok : CxOk X) (pok : PrmOk X n P) {p pos : Pos} {es : List Expr} {ms : List (M V)} (he : EvL X (n + 1) env es ms) (hst : es.all noStar = true) (hk : gKind env (Str.ofString "Headers") = true) :
    Ev X (n + 1) env (.Call (.Name (Str.ofString "Headers") p) es [] pos) (do let vs ← seqS ms; P.make vs) := by
  intro A ρ μ σ s ga R r σ' q
  refine mbind_elim q fun vs σ1 e1 q1 => ?_
  have hv : gval X (Str.ofString "Headers") = some (.ref X.C) := by unfold gval; rw [pok.make.1]
  refine Call_name ok R hk hv (W.callWith_of (P := X.K.In) (by rw [star_any hst]; rfl) (W.keeps_K ok.keep) (wpAny_mono (W_args (ks := []) he hst .nil ga R e1 rfl) (fun ar s2 z => ?_) fun _ _ z => z))
  obtain ⟨μ2, st2, R2, h2, k2⟩ := z
  rw [show ar.kw = [] from k2, List.nil_append]
  refine ⟨R2.kin ok, wpAny_mono (pok.make.2 env A ρ μ2 σ1 s2 vs ar.pos (ga.less (Nat.le_succ _)) R2 h2 r σ' q1) (fun y s3 z => ?_) fun _ _ z => z⟩
  first | refine post_elim z fun μ3 st3 R3 v3 => ?_ | obtain ⟨μ3, st3, R3, v3⟩ := z
  exact ⟨μ3, st2.trans st3, R3, v3⟩

/-- type(x) is T -/
theorem W_typeN {v : V} {x : Value} {nm : Str} {σ' : St} (R : Rel X ρ μ env σ s.heap) (hv : VR s.heap (okOf ρ μ) μ v x) (e : typeN v σ = some (nm, σ')) {Q : Value → Shared → Prop} (k : ∀ T : String, nm = Str.ofString T → T ∈ ["str", "list", "int", "NoneType"] → Q (.type T) s) :
    σ' = σ ∧ wpAny (model X.prog X.w) A (call (.type "type") [x]) Q (fun _ _ => False) s := by
  cases v with
  | dat d =>
    cases d with
    | str w =>
      cases e
      simp only [VR, DR] at hv
      obtain ⟨_, t, rfl⟩ := hv
      exact ⟨rfl, call_type_of (typeIs_str s _ t) (by decide +kernel) (k "str" rfl (by decide))⟩
    | list ds =>
      cases e
      simp only [VR] at hv
      obtain ⟨a, vs, rfl, hL, _⟩ := list_of_LR (DR.lr hv)
      exact ⟨rfl, call_type_of hL.typeIs (by decide +kernel) (k "list" rfl (by decide))⟩
    | int i =>
      cases e
      simp only [VR, DR] at hv
      obtain ⟨t, rfl⟩ := hv
      exact ⟨rfl, call_type_of (typeIs_int s _ t) (by decide +kernel) (k "int" rfl (by decide))⟩
    | none =>
      cases e
      simp only [VR, DR] at hv
      subst hv
      exact ⟨rfl, call_type_of (typeIs_none s) (by decide +kernel) (k "NoneType" rfl (by decide))⟩
    | _ => cases e
  | obj i =>
    have e : (match σ.heap[i]? with | some (.lst _) => some (Str.ofString "list", σ) | some (.frz _) => some (Str.ofString "list", σ) | _ => none) = some (nm, σ') := e
    split at e
    · rename_i ds hi
      cases e
      obtain ⟨a, vs, m, rfl, _, hL, _⟩ := root_list R hv hi
      exact ⟨rfl, call_type_of ⟨_, hL, rfl⟩ (by decide +kernel) (k "list" rfl (by decide))⟩
    · rename_i ds hi
      cases e
      obtain ⟨a, h1, rfl⟩ := hv
      obtain ⟨p, h2, vs, m, _, h5, _⟩ := R.objs i _ hi
      rw [root_some h2] at h1
      cases h1
      exact ⟨rfl, call_type_of ⟨_, h5, rfl⟩ (by decide +kernel) (k "list" rfl (by decide))⟩
    · cases e
  | rng lo hi => cases e
  | emp => cases e

noncomputable def typS (op : CmpOp) (m : M V) (t : Str) : M V := do
  let v ← m
  let n ← typeN v
  match op with
  | .Is => mpure (.dat (.bool (n = t)))
  | .IsNot => mpure (.dat (.bool !(n = t)))
  | _ => mfail

noncomputable def typOk (env : Env) (e : Expr) (t : Str) : Bool := noStar e && gKind env (Str.ofString "type") && gKind env t && (t == Str.ofString "str" || t == Str.ofString "list")

theorem typ_eq {T U : String} (h1 : T ∈ ["str", "list", "int", "NoneType"]) (h2 : U = "str" ∨ U = "list") : (Value.type T == Value.type U) = decide (Str.ofString T = Str.ofString U) := by
  simp only [List.mem_cons, List.not_mem_nil, or_false] at h1
  rcases h2 with rfl | rfl <;> rcases h1 with rfl | rfl | rfl | rfl <;> decide

theorem typ_core (ok : CxOk X) {p pos tp : Pos} {op : CmpOp} {e : Expr} {t : Str} {m : M V} (he : Ev X n env e m) (hc : typOk env e t = true) (ga : Ga n A) (R : Rel X ρ μ env σ s.heap) {r : V} {σ' : St} (q : typS op m t σ = some (r, σ')) :
    wpAny (model X.prog X.w) A (eval (.Call (.Name (Str.ofString "type") p) [e] [] pos) env) (fun a s₁ => wpAny (model X.prog X.w) A (eval (.Name t tp) env) (fun b s₂ => wpAny (model X.prog X.w) A (compareOp op a b) (Post X ρ μ env s VRr r σ') (fun _ _ => False) s₂) (fun _ _ => False) s₁) (fun _ _ => False) s := by
  unfold typOk at hc
  simp only [Bool.and_eq_true, Bool.or_eq_true, beq_iff_eq] at hc
  obtain ⟨⟨⟨h1, h2⟩, h3⟩, h4⟩ := hc
  have hst' : [e].all noStar = true := by simp [h1]
  unfold typS at q
  refine mbind_elim q fun v σ1 e1 q1 => ?_
  refine mbind_elim q1 fun nm σ2 e2 q2 => ?_
  have e1' : seqS [m] σ = some ([v], σ1) := by
    show (m >>= fun v => _) σ = _
    rw [bind_eq]; unfold mbind; rw [e1]; rfl
  refine Call_name ok R h2 (val_type ok) (PyProof.Rows.callWith_type (star_any hst') (wpAny_mono (W_args (ks := []) (EvL.cons he .nil) hst' .nil ga R e1' rfl) (fun ar s2 z => ?_) fun _ _ z => z))
  obtain ⟨μ2, st2, R2, ⟨x, rr, g1, g2, g3⟩, k2⟩ := z
  rw [show ar.kw = [] from k2, List.nil_append, g1, show rr = [] from g3]
  have hs := (W_typeN (A := A) (Q := fun _ _ => True) R2 g2 e2 (fun _ _ _ => trivial)).1
  refine And.right (W_typeN (A := A) R2 g2 e2 fun T hT hm => ?_)
  have hU : ∃ U : String, (U = "str" ∨ U = "list") ∧ t = Str.ofString U ∧ gval X t = some (.type U) := by
    rcases h4 with rfl | rfl
    · exact ⟨"str", .inl rfl, rfl, val_str ok⟩
    · exact ⟨"list", .inr rfl, rfl, val_list ok⟩
  obtain ⟨U, hU1, rfl, hU2⟩ := hU
  refine Name_glob ok R2 h3 hU2 ?_
  subst hT hs
  have hb := typ_eq hm hU1
  cases op <;> first | cases q2 | skip
  · refine wpAny_is_plain rfl ?_
    rw [hb]
    exact ⟨μ2, st2, R2, by show DR _ _ _ _; simp only [DR]⟩
  · refine wpAny_isNot_plain rfl ?_
    rw [hb]
    exact ⟨μ2, st2, R2, by show DR _ _ _ _; simp only [DR]⟩

theorem Te_Typ (ok : CxOk X) {p pos tp cp : Pos} {op : CmpOp} {e : Expr} {t : Str} {m : M V} (he : Ev X n env e m) (hc : typOk env e t = true) :
    Te X n env (.Compare (.Call (.Name (Str.ofString "type") p) [e] [] pos) [op] [.Name t tp] cp) (do let v ← typS op m t; truthS v) := by
  intro A ρ μ σ s ga R r σ' q
  refine mbind_elim q fun v σ1 e1 q1 => ?_
  refine wpAny_isTrue_Compare1 (wpAny_mono (typ_core ok he hc ga R e1) (fun _ _ z => wpAny_mono z (fun _ _ z => wpAny_mono z (fun c s3 z => ?_) fun _ _ z => z) fun _ _ z => z) fun _ _ z => z) (by cases op <;> rfl)
  first | refine post_elim z fun μ3 st3 R3 v3 => ?_ | obtain ⟨μ3, st3, R3, v3⟩ := z
  refine wpAny_mono (W_truthS R3 v3 r σ' q1) (fun c s3 z => ?_) fun _ _ z => z
  first | refine post_elim z fun μ4 st4 R4 v4 => ?_ | obtain ⟨μ4, st4, R4, v4⟩ := z
  exact ⟨μ4, st3.trans st4, R4, v4⟩

/-- self._headers -/
theorem find_hdr (ok : CxOk X) {t : Tok} {k : Nat} {al : Addr} : W.findObj X.K X.C (some (instDict X.w.params t k al)) hdrKey = some (.value (.ref al)) := by
  obtain ⟨cd, h1, h2⟩ := W.any_some ok.hasD
  unfold W.findObj
  rw [h1, Option.bind_some, ok.hd, Option.bind_some]
  show (W.ownOf cd (some (instDict X.w.params t k al)) hdrKey).bind _ = _
  unfold W.ownOf
  rw [h2]
  have hl : W.lookIn hdrKey (instDict X.w.params t k al) = some (some (.ref al)) := by
    unfold W.lookIn instDict
    have : (Value.str hdrKey t).isStr hdrKey = true := by unfold Value.isStr; simp
    simp [this]
  simp only [if_true, hl]
  rfl

theorem Ev_Attr (ok : CxOk X) {x : Str} {p pos : Pos} {name : Str} : Ev X n env (.Attribute (.Name x p) name pos) (do let ov ← nameS x; attrS ov name) := by
  intro A ρ μ σ s ga R r σ' q
  refine mbind_elim q fun ov σ1 e1 q1 => ?_
  refine PyProof.Rows.Attribute_name (wpAny_mono (Ev_Name (n := n) A ρ μ σ s ga R ov σ1 e1) (fun y s1 z => ?_) fun _ _ z => z)
  first | refine post_elim z fun μ1 st1 R1 v1 => ?_ | obtain ⟨μ1, st1, R1, v1⟩ := z
  unfold attrS at q1
  split at q1
  · rename_i i
    split at q1
    · rename_i l hi
      split at q1
      · rename_i hn
        cases q1
        subst hn
        obtain ⟨a, d, od, rfl, hr, I, hd, al, t, k, h3, rfl⟩ := inst_at R1 v1 hi
        refine W.get_value (R1.kin ok) I ok.ga (find_hdr ok) rfl ?_
        exact ⟨μ1, st1.trans (.grow (h' := s1.heap) fun _ _ e => e), R1, al, h3, rfl⟩
      · cases q1
    · cases q1
  · cases q1

end
end Mine
end

section
open PySem
set_option Elab.async false
set_option maxRecDepth 10000
namespace Mine

section
variable {X : Cx} {n : Nat} {env : Env} {P : Prm} {A : Around} {ρ : List Addr} {μ : Mu} {σ : St} {s : Shared} {h h' : Heap}

/-- the frame turns -/
theorem Rel.store (R : Rel X ρ μ env σ h) {c : Addr} (hc : c ∈ Mine.own env) (hs : Heap.SameBut c h h') (hl : ∃ o, h'.get? c = some o) {loc' : Str → Option V}
    (fr : ∃ m cm, FrameR env h' m cm ∧ ∀ x v, loc' x = some v → ∃ val, valOf env m cm x = some val ∧ VR h (okOf ρ μ) μ v val) : Rel X ρ μ env ⟨loc', σ.heap⟩ h' := by
  have k : ∀ b o, b ≠ c → h.get? b = some o → h'.get? b = some o := fun b o hb e => (hs.2 b hb).trans e
  have hcr := R.own c hc
  have kok : ∀ a ob, okOf ρ μ a → h.get? a = some ob → h'.get? a = some ob ∧ okOf ρ μ a := fun a ob q e => ⟨k a ob (fun hm => q.1 (hm ▸ hcr)) e, q⟩
  refine ⟨fun b ob e => k b ob (fun hm => ?_) (R.base b ob e), R.freshR, R.freshM, fun a ha => ?_, fun a ha => ?_, R.nod, R.dis, R.own, R.above, ?_, R.len, R.inj, ?_, R.frz⟩
  · subst hm; rw [R.freshR b hcr] at e; cases e
  · by_cases hm : a = c
    · subst hm; exact hl
    · obtain ⟨ob, e⟩ := R.liveR a ha; exact ⟨ob, k a ob hm e⟩
  · obtain ⟨ob, e⟩ := R.liveM a ha
    exact ⟨ob, k a ob (fun hm => R.dis c hcr (hm ▸ ha)) e⟩
  · obtain ⟨m, cm, F, l⟩ := fr
    refine ⟨m, cm, F, fun x v e => ?_⟩
    obtain ⟨val, h1, h2⟩ := l x v e
    exact ⟨val, h1, h2.mono (fun _ _ e => e) kok⟩
  · intro j oj e
    obtain ⟨q, h1, h2⟩ := R.objs j oj e
    refine ⟨q, h1, h2.mono (fun _ _ e => e) kok fun b hb ob e' => k b ob (fun hm => ?_) e'⟩
    subst hm
    rcases List.mem_cons.mp hb with rfl | hb
    · rcases h2.root_mem with h3 | ⟨ds, rfl⟩
      · exact R.dis _ hcr (foot_get h1 h3)
      · obtain ⟨vs, n, _, h4, _⟩ := h2
        exact R.frzOff h4 hc
    · exact R.dis _ hcr (foot_get h1 hb)

noncomputable def stOk (env : Env) (x : Str) : Bool := env.kindOf x == some .local || (env.kindOf x == some .cell && (env.cells.lookup x).isSome && env.func.isSome)

theorem Step.store {c : Addr} {tk : Nat} (hc : c ∈ Mine.wrt env) (hs : Heap.SameBut c s.heap h') (hl : ∃ o, h'.get? c = some o) : Step (Mine.wrt env) μ μ s { s with heap := h', toks := tk } :=
  ⟨⟨h', tk, rfl⟩, fun b o e _ ho => (hs.2 b (fun q => ho (q ▸ hc))).trans e, fun b o e => by
    by_cases q : b = c
    · subst q; exact hl
    · exact ⟨o, (hs.2 b q).trans e⟩, List.prefix_refl _, fun _ h => .inl h⟩

theorem cell_mem {x : Str} {c : Addr} (e : env.cells.lookup x = some c) : c ∈ Mine.own env := .tail _ (List.mem_map.mpr ⟨_, mem_of_lookup e, rfl⟩)

theorem cells_ne_locals (F : FrameR env h m cm) {c : Addr} (hc : ∃ n, (n, c) ∈ env.cells) : c ≠ env.locals := by
  rintro rfl
  obtain ⟨n, hn⟩ := hc
  obtain ⟨o, es, ep, h1, h2, _⟩ := F.ns
  obtain ⟨v, o', h3, h4⟩ := F.cells n _ hn
  rw [h1] at h3; cases h3
  rw [h2] at h4; cases h4

theorem IsCell.keep {c d : Addr} {v : Option Value} (hs : Heap.SameBut c h h') (hne : d ≠ c) (e : h.IsCell d v) : h'.IsCell d v := by
  obtain ⟨o, h1, h2⟩ := e
  exact ⟨o, (hs.2 d hne).trans h1, h2⟩

theorem pair_ne {l : List (Str × Addr)} (hp : l.Pairwise fun x y => x.2 ≠ y.2) {n n' : Str} {c : Addr} (h1 : (n, c) ∈ l) (h2 : (n', c) ∈ l) : n = n' := by
  induction hp with
  | nil => cases h1
  | cons ha _ ih =>
    rcases List.mem_cons.mp h1 with e1 | g1
    · rcases List.mem_cons.mp h2 with e2 | g2
      · rw [← e1] at e2; cases e2; rfl
      · exact absurd (by rw [← e1]) (ha _ g2)
    · rcases List.mem_cons.mp h2 with e2 | g2
      · exact absurd (by rw [← e2]) (ha _ g1)
      · exact ih g1 g2

/-- a name is bound -/
theorem W_setLoc {x : Str} {v : V} {y : Value} (hk : stOk env x = true) (R : Rel X ρ μ env σ s.heap) (hv : VR s.heap (okOf ρ μ) μ v y) : W X A ρ μ env s EqR (bindName env x y) (setLoc x v σ) := by
  intro u σ' e
  cases e
  obtain ⟨m, cm, F, l⟩ := R.frame
  unfold stOk at hk
  simp only [Bool.or_eq_true, Bool.and_eq_true, beq_iff_eq] at hk
  refine wpAny_bindName ?_
  rcases hk with hk | ⟨⟨hk, hc⟩, hfn⟩
  · refine wpAny_storeName_local hk F.ns (fun h' hn hs => ?_) (by rw [F.kind]; rfl)
    have hlv : ∃ o, h'.get? env.locals = some o := by obtain ⟨o, _, _, h1, _⟩ := hn; exact ⟨o, h1⟩
    refine ⟨μ, .store (.head _) hs hlv, R.store (.head _) hs hlv ⟨_, cm, ⟨F.kind, F.globals, F.builtins, hn, fun n c e => ?_, fun n c e => ?_, F.apart⟩, fun z w e => ?_⟩, rfl⟩
    · exact IsCell.keep hs (cells_ne_locals F ⟨n, mem_of_lookup e⟩) (F.cell n c e)
    · obtain ⟨w, q⟩ := F.cells n c e; exact ⟨w, IsCell.keep hs (cells_ne_locals F ⟨n, e⟩) q⟩
    · unfold upd at e
      split at e
      · rename_i hz
        cases e
        subst hz
        refine ⟨y, ?_, hv⟩
        unfold valOf; rw [hk]; simp
      · rename_i hz
        obtain ⟨val, h1, h2⟩ := l z w e
        refine ⟨val, ?_, h2⟩
        unfold valOf at h1 ⊢
        split at h1
        · simp only [if_neg hz]; exact h1
        · exact h1
        · cases h1
  · obtain ⟨c, hc⟩ := Option.isSome_iff_exists.mp hc
    refine wpAny_storeName_cell F.kind hk hc (F.cell x c hc) fun h' hn hs => ?_
    have hcm := cell_mem hc
    have hlv : ∃ o, h'.get? c = some o := by obtain ⟨o, h1, _⟩ := hn; exact ⟨o, h1⟩
    have hcl : env.locals ≠ c := fun q => cells_ne_locals F ⟨x, mem_of_lookup hc⟩ q.symm
    refine ⟨μ, .store (by unfold wrt; rw [if_pos hfn]; exact hcm) hs hlv, R.store hcm hs hlv ⟨m, fun z => if z = x then some y else cm z, ⟨F.kind, F.globals, F.builtins, F.ns.sameBut hs hcl, fun n c' e => ?_, fun n c' e => ?_, F.apart⟩, fun z w e => ?_⟩, rfl⟩
    · by_cases hz : n = x
      · subst hz; rw [hc] at e; cases e; simp only [if_true]; exact hn
      · simp only [if_neg hz]
        refine IsCell.keep hs (fun q => ?_) (F.cell n c' e)
        subst q
        exact hz (pair_ne F.apart (mem_of_lookup e) (mem_of_lookup hc))
    · by_cases q : c' = c
      · subst q; exact ⟨_, hn⟩
      · obtain ⟨w, q'⟩ := F.cells n c' e; exact ⟨w, IsCell.keep hs q q'⟩
    · unfold upd at e
      split at e
      · rename_i hz
        cases e
        subst hz
        refine ⟨y, ?_, hv⟩
        unfold valOf; rw [hk]; simp [hc]
      · rename_i hz
        obtain ⟨val, h1, h2⟩ := l z w e
        refine ⟨val, ?_, h2⟩
        unfold valOf at h1 ⊢
        split at h1
        · exact h1
        · simp only [if_neg hz]; exact h1
        · cases h1

end
end Mine
end

section
open PySem
set_option Elab.async false
set_option maxRecDepth 10000
namespace Mine

section
variable {X : Cx} {n : Nat} {env : Env} {P : Prm} {A : Around} {ρ : List Addr} {μ : Mu} {σ : St} {s : Shared}

theorem mapSeq_same (f : Array Value → Array Value) (vs : Array Value) (m : Nat) : ∃ m', Obj.mapSeq f { cls := .type "list", data := .seq vs m } = { cls := .type "list", data := .seq (f vs) m' } := by
  unfold Obj.mapSeq
  exact ⟨_, rfl⟩

/-- the place k of a list object -/
theorem setItem_obj {l : Addr} {vs : Array Value} {m : Nat} {k : Int} {t : Tok} {v : Value} {Q : Unit → Shared → Prop} (hL : s.heap.get? l = some { cls := .type "list", data := .seq vs m }) (h0 : 0 ≤ k) (hfit : k < 2 ^ 63) (hn : k < vs.size)
    (hQ : ∀ h' m', h'.get? l = some { cls := .type "list", data := .seq (vs.setIfInBounds k.toNat v) m' } → Heap.SameBut l s.heap h' → Q () { s with heap := h' }) :
    wpAny (model X.prog X.w) A (setItem (.ref l) (.int k t) v) Q (fun _ _ => False) s := by
  have hl : s.heap.IsList l vs := ⟨_, hL, rfl, m, rfl⟩
  obtain ⟨o, ho, hc, ne, hd⟩ := id hl
  rw [hL] at ho; cases ho
  unfold setItem
  try with_reducible refine wpAny_holding ?_
  first | refine wpAny_bind (wpAny_pure ?_) | skip
  refine wpAny_bind (wpAny_sequenceKey hl.typeIs (by decide) ?_)
  refine wpAny_bind (wpAny_callSpecial?_slot (name := Str.ofString "__setitem__") hl.typeIs slot_list_setitem
    (wpAny_call_entry slot_list_setitem hl.typeIs entry_list_setitem ?_ (args_list_setitem _ _ _)))
  show wpAny _ _ (Builtin.List.listSubscript? (.int k t) >>= _) _ _ s
  refine wpAny_bind (wpAny_listSubscript_int (fitsIndex_of h0 hfit) ?_)
  clear hfit
  obtain ⟨j, rfl⟩ := Int.eq_ofNat_of_zero_le h0
  have hj : j < vs.size := by omega
  have hx' : vs[j]? = some vs[j] := Array.getElem?_eq_getElem hj
  show wpAny _ _ ((seqItemAt l j >>= fun r => pure (r.map (j, ·))) >>= _) _ _ s
  refine wpAny_bind (wpAny_bind (wpAny_seqItemAt hL rfl (wpAny_pure ?_)))
  rw [hx']
  show wpAny _ _ (setSeqItemAt l j v >>= _) _ _ s
  obtain ⟨m', hm⟩ := mapSeq_same (·.setIfInBounds j v) vs m
  refine wpAny_bind (wpAny_setSeqItemAt hL rfl ?_)
  have hfin := hQ (s.heap.update l (Obj.mapSeq (·.setIfInBounds j v))) m' (by rw [Heap.get?_update_self _ hL (by rw [hm]; rfl), hm]; rfl) (Heap.SameBut.update ..)
  first
    | exact wpAny_bind (wpAny_pure (wpAny_pure ⟨.none, rfl, wpAny_pure hfin⟩))
    | exact wpAny_pure ⟨.none, rfl, wpAny_pure hfin⟩

/-- l[:] = r -/
theorem setAll_obj {l sl r : Addr} {vs ws : Array Value} {m m2 : Nat} {o2 : Obj} {Q : Unit → Shared → Prop} (hL : s.heap.get? l = some { cls := .type "list", data := .seq vs m }) (hS : s.heap.IsSliceOf sl .none .none .none)
    (h2 : s.heap.get? r = some o2) (hc2 : o2.cls = .type "list") (hd2 : o2.data = .seq ws m2) (hsz : vs.size + ws.size ≤ sizeLine) (hne : l ≠ r)
    (hQ : ∀ h' m', h'.get? l = some { cls := .type "list", data := .seq ws m' } → Heap.SameBut l s.heap h' → Q () { s with heap := h' }) :
    wpAny (model X.prog X.w) A (setItem (.ref l) (.ref sl) (.ref r)) Q (fun _ _ => False) s := by
  have hl : s.heap.IsList l vs := ⟨_, hL, rfl, m, rfl⟩
  have hr : s.TypeIs (.ref r) "list" := ⟨_, h2, hc2⟩
  obtain ⟨os, hos, hcs, hds⟩ := id hS
  have hTs : s.TypeIs (.ref sl) "slice" := ⟨os, hos, hcs⟩
  unfold setItem
  refine wpAny_holding ?_
  refine wpAny_bind (wpAny_sequenceKey hl.typeIs (by decide) ?_)
  refine wpAny_bind (wpAny_callSpecial?_slot (name := Str.ofString "__setitem__") hl.typeIs slot_list_setitem
    (wpAny_call_entry slot_list_setitem hl.typeIs entry_list_setitem ?_ (args_list_setitem _ _ _)))
  show wpAny _ _ (Builtin.List.listSubscript? (.ref sl) >>= _) _ _ s
  refine wpAny_bind ?_
  unfold Builtin.List.listSubscript?
  refine wpAny_bind (wpAny_specialOf hTs slice_no_index ?_)
  simp only [Option.isNone_none, if_true]
  refine wpAny_pure ?_
  show wpAny _ _ (typeOf (.ref sl) >>= _) _ _ s
  refine wpAny_bind (wpAny_typeOf hTs ?_)
  rw [if_neg (by decide)]
  rw [listSliceParts_eq]
  refine wpAny_bind (wpAny_bind (wpAny_field hos hds (x := .none) rfl (wpAny_bind (wpAny_listPart (k := none) .none ?_))))
  rw [if_neg (by decide)]
  refine wpAny_bind (wpAny_field hos hds (x := .none) rfl (wpAny_bind (wpAny_listPart (k := none) .none ?_)))
  refine wpAny_bind (wpAny_field hos hds (x := .none) rfl (wpAny_bind (wpAny_listPart (k := none) .none (wpAny_pure ?_))))
  have hlr : Builtin.List.listSameRef (.ref l) (.ref r) = false := by
    unfold Builtin.List.listSameRef
    rw [Bool.eq_false_iff]; intro q; exact hne (beq_iff_eq.mp q)
  rw [hlr, if_neg (by decide)]
  refine wpAny_bind (m := Builtin.List.listAllItems (.ref r) _) ?_
  unfold Builtin.List.listAllItems
  refine wpAny_bind (wpAny_typeOf hr ?_)
  rw [if_pos (by decide)]
  unfold Builtin.List.listItems
  refine wpAny_bind (wpAny_seqItems h2 hd2 (wpAny_pure ?_))
  refine wpAny_bind (wpAny_bind (wpAny_seqItems hL rfl (wpAny_pure ?_)))
  refine wpAny_bind (wpAny_of_eq (sliceIndices_raw none none none vs.size (by simp)) ?_)
  have hb : sliceBounds none none none vs.size = (0, (vs.size : Int), 1) := by simp [sliceBounds]
  rw [hb]
  rw [if_pos (show (((0 : Int), (vs.size : Int), (1 : Int)).2.snd == 1) = true from rfl)]
  refine wpAny_bind (wpAny_rule ?_)
  rw [if_neg (by unfold Builtin.List.listTooLong; simp; omega)]
  obtain ⟨m', hm⟩ := mapSeq_same (fun xs => xs.extract 0 (0 : Int).toNat ++ ws ++ xs.extract (max 0 (vs.size : Int)).toNat) vs m
  have hz : (vs.extract 0 (0 : Int).toNat ++ ws ++ vs.extract (max 0 (vs.size : Int)).toNat) = ws := by
    have h1 : (max 0 (vs.size : Int)).toNat = vs.size := by omega
    rw [h1]
    simp
  refine wpAny_bind (wpAny_updateSeq hL rfl ?_ (by omega) (by dsimp only; rw [hz]; omega))
  refine wpAny_bind (wpAny_letGo ?_)
  have hfin := hQ (s.heap.update l (Obj.mapSeq (fun xs => xs.extract 0 (0 : Int).toNat ++ ws ++ xs.extract (max 0 (vs.size : Int)).toNat))) m' (by
    rw [Heap.get?_update_self _ hL (by rw [hm]; rfl), hm]
    rw [hz]) (Heap.SameBut.update ..)
  first
    | exact wpAny_bind (wpAny_pure (wpAny_pure ⟨.none, rfl, wpAny_pure hfin⟩))
    | exact wpAny_pure ⟨.none, rfl, wpAny_pure hfin⟩


theorem set_toList {ds : List PyData} {vs : Array Value} {h : Heap} {ok : Addr → Prop} {j : Nat} {d : PyData} {v : Value} (hd : DRs h ok ds vs.toList) (hv : DR h ok d v) : DRs h ok (ds.set j d) (vs.setIfInBounds j v).toList := by
  rw [Array.toList_setIfInBounds]
  generalize vs.toList = l at hd
  induction ds generalizing l j with
  | nil => simp only [DRs] at hd; subst hd; simp [DRs]
  | cons x xs ih =>
    simp only [DRs] at hd
    obtain ⟨w, r, rfl, h1, h2⟩ := hd
    cases j with
    | zero => simp only [List.set_cons_zero, DRs]; exact ⟨v, r, rfl, hv, h2⟩
    | succ j => simp only [List.set_cons_succ, DRs]; exact ⟨w, _, rfl, h1, ih _ h2⟩

/-- o[i] = v -/
theorem W_setItemS (ok : CxOk X) (pok : PrmOk X n P) (ga : Ga (n + 1) A) {o i v : V} {x y z : Value} (R : Rel X ρ μ env σ s.heap) (ho : VR s.heap (okOf ρ μ) μ o x) (hi : VR s.heap (okOf ρ μ) μ i y) (hv : VR s.heap (okOf ρ μ) μ v z) :
    W X A ρ μ env s EqR (setItem x y z) (setItemS P o i v σ) := by
  intro u σ' e
  unfold setItemS at e
  split at e
  · rename_i hin
    obtain ⟨j, l, rfl, hj⟩ := isInst_obj hin
    obtain ⟨a', d, od, rfl, hr, I, hd, _⟩ := inst_at R ho hj
    refine mbind_elim e fun rv σ1 e1 q => ?_
    cases q
    cases hm : mth X (Str.ofString "__setitem__") with
    | none => rw [pok.mtNo _ hm] at e1; cases e1
    | some f =>
      obtain ⟨hf, hfn, hfi⟩ := mth_find hm
      obtain ⟨m, F⟩ := R.fr
      refine W.ksp_setItem F ok.kin I ok.noSeq hf hfn ?_
      refine wpAny_mono (pok.mt _ f hm env A ρ μ σ s (.obj j) (.ref a') [i, v] [y, z] [] [] (ga.less (Nat.le_succ _)) R ho ⟨y, [z], rfl, hi, z, [], rfl, hv, rfl⟩ rfl rv _ e1) (fun _ s1 w => ?_) fun _ _ w => w
      obtain ⟨μ1, st1, R1, _⟩ := w
      exact ⟨μ1, st1, R1, rfl⟩
  · split at e
    · rename_i l k d _ _
      split at e
      · rename_i ds hl
        split at e
        · rename_i hk
          cases e
          obtain ⟨a, vs, m, rfl, hr, hL, hds⟩ := root_list R ho hl
          have ln := hds.length
          rw [Array.length_toList] at ln
          have hi' : DR _ _ _ _ := hi
          simp only [DR] at hi'
          obtain ⟨t, rfl⟩ := hi'
          have := hk.2.2
          unfold big at this
          refine setItem_obj hL hk.1 (by omega) (by rw [ln]; exact hk.2.1) fun h' m' hL' hs => ?_
          obtain ⟨μ1, st1, R1, _⟩ := post_setList (RV := fun _ _ _ (_ : Unit) (_ : Value) => True) (b := ()) (x := .none) (tk := s.toks) R hl hr hs hL' (set_toList hds hv) trivial
          exact ⟨μ1, st1, R1, rfl⟩
        · cases e
      · cases e
    · cases e

/-- o[:] = v -/
theorem W_setAllS {o v : V} {x z : Value} {sl : Addr} (R : Rel X ρ μ env σ s.heap) (ho : VR s.heap (okOf ρ μ) μ o x) (hv : VR s.heap (okOf ρ μ) μ v z) (hS : s.heap.IsSliceOf sl .none .none .none) :
    W X A ρ μ env s EqR (setItem x (.ref sl) z) (setAllS o v σ) := by
  intro u σ' e
  unfold setAllS at e
  split at e
  · rename_i l
    split at e
    · rename_i ds es hl
      split at e
      · rename_i hk
        cases e
        obtain ⟨a, vs, m, rfl, hr, hL, hds⟩ := root_list R ho hl
        have ln := hds.length
        rw [Array.length_toList] at ln
        have hv' : DR _ _ _ _ := hv
        simp only [DR] at hv'
        obtain ⟨b, o2, ws, m2, rfl, hok, g1, g2, g3, g4⟩ := hv'
        have ln2 := g4.length
        rw [Array.length_toList] at ln2
        have hne : a ≠ b := by
          rintro rfl
          obtain ⟨p, h2, h3⟩ := R.objs l _ hl
          obtain ⟨_, _, h4, _⟩ := h3
          rw [root_some h2] at hr; cases hr
          exact hok.2 (foot_get h2 (by rw [h4]; simp))
        refine setAll_obj hL hS g1 g2 g3 (by rw [ln, ln2]; exact Nat.le_trans hk big_le) hne fun h' m' hL' hs => ?_
        obtain ⟨μ1, st1, R1, _⟩ := post_setList (RV := fun _ _ _ (_ : Unit) (_ : Value) => True) (b := ()) (x := .none) (tk := s.toks) R hl hr hs hL' g4 trivial
        exact ⟨μ1, st1, R1, rfl⟩
      · cases e
    · cases e
  · cases e

/-- del o[i] -/
theorem W_delItemS (ok : CxOk X) (pok : PrmOk X n P) (ga : Ga (n + 1) A) {o i : V} {x y : Value} (R : Rel X ρ μ env σ s.heap) (ho : VR s.heap (okOf ρ μ) μ o x) (hi : VR s.heap (okOf ρ μ) μ i y) :
    W X A ρ μ env s EqR (delItem x y) (delItemS P o i σ) := by
  intro u σ' e
  unfold delItemS at e
  split at e
  · rename_i hin
    obtain ⟨j, l, rfl, hj⟩ := isInst_obj hin
    obtain ⟨a', d, od, rfl, hr, I, hd, _⟩ := inst_at R ho hj
    refine mbind_elim e fun rv σ1 e1 q => ?_
    cases q
    cases hm : mth X (Str.ofString "__delitem__") with
    | none => rw [pok.mtNo _ hm] at e1; cases e1
    | some f =>
      obtain ⟨hf, hfn, hfi⟩ := mth_find hm
      have K := R.kin ok
      unfold delItem sequenceKey
      refine wpAny_holding (wpAny_bind (wpAny_bind (I.type.here ?_)))
      refine wpAny_bind ((W.anyM_none K ok.noSeq).here ?_)
      rw [if_pos (show (!false) = true from rfl)]
      refine wpAny_pure (wpAny_bind (W.special_fn K I hf (beq_iff_eq.mp hfn) ?_))
      refine wpAny_mono (pok.mt _ f hm env A ρ μ σ s (.obj j) (.ref a') [i] [y] [] [] (ga.less (Nat.le_succ _)) R ho ⟨y, [], rfl, hi, rfl⟩ rfl rv _ e1) (fun _ s1 w => ?_) fun _ _ w => w
      obtain ⟨μ1, st1, R1, _⟩ := w
      exact wpAny_pure ⟨μ1, st1, R1, rfl⟩
  · cases e

end
end Mine
end

section
open PySem
set_option Elab.async false
set_option maxRecDepth 10000
namespace Mine

section
variable {X : Cx} {n : Nat} {env : Env} {P : Prm} {A : Around} {ρ : List Addr} {μ : Mu} {σ : St} {s : Shared}

theorem taker_hdr (ok : CxOk X) : W.takerIn X.K X.C hdrKey = some none := by
  unfold W.takerIn; rw [ok.hd]; rfl

theorem putName_empty (p : Params) (t : Tok) (al : Addr) : Obj.putName hdrKey (PyData.keyHash p hdrKey) (.str hdrKey t) (.ref al) W.emptyDict = instDict p t 1 al := by
  rw [Obj.putName_eq]; simp [Obj.putNameByArray, instDict]

/-- self._headers = l -/
theorem W_setAttrS (ok : CxOk X) {o v : V} {name : Str} {x z : Value} (R : Rel X ρ μ env σ s.heap) (ho : VR s.heap (okOf ρ μ) μ o x) (hv : VR s.heap (okOf ρ μ) μ v z) :
    W X A ρ μ env s EqR (setAttr x name z) (setAttrS o name v σ) := by
  intro u σ' e
  unfold setAttrS at e
  split at e
  · rename_i i l
    split at e
    · rename_i ds hi hl
      split at e
      · rename_i hn
        cases e
        subst hn
        obtain ⟨al, hal, rfl⟩ := hv
        obtain ⟨a, h1, rfl⟩ := ho
        obtain ⟨p, h2, d, h4, h5, h6⟩ := R.objs i _ hi
        rw [root_some h2] at h1
        cases h1
        obtain ⟨hh, g, dr, tk, os⟩ := s
        have K : X.K.In hh := R.kin ok
        have I : W.InstAt hh p.1 (W.instObj X.C d) X.C (some W.emptyDict) := ⟨h5, rfl, rfl, h6⟩
        refine W.set_plain K I ok.sa ?_
        refine W.osa_open K I ok.po (taker_hdr ok) fun b => ?_
        obtain ⟨cd, hc, hd'⟩ := W.any_some ok.hasD
        have L := W.looks_clsIn (M := model X.prog X.w) K hc
        refine wpAny_bind (wpAny_pure (wpAny_bind (wpAny_bind (wpAny_loadPart h5 (wpAny_bind (L.at ?_))))))
        rw [hd']
        refine wpAny_pure (a := some d) (wpAny_bind (wpAny_pure (wpAny_bind ?_)))
        unfold nsSet
        refine wpAny_bind (wpAny_bind (wpAny_askSetting (wpAny_pure (wpAny_bind (wpAny_mkText (wpAny_bind (wpAny_loadPart h6 ?_)))))))
        dsimp only
        rw [aRefKeyMayBeTheName_at, show (!(#[] : Array DictEntry).any (·.key.isStr hdrKey) && (#[] : Array DictEntry).any (·.refKey)) = false by simp]
        refine wpAny_updatePart h6 ?_
        have hpd : p.1 ≠ d := fun q => by
          have h5' : hh.get? p.1 = _ := h5
          have h6' : hh.get? d = _ := h6
          rw [q, h6'] at h5'; cases h5'
        have D' : (hh.update d (Obj.putName hdrKey (PyData.keyHash X.w.params hdrKey) (.str hdrKey (tk + 1)) (.ref al))).get? d = some (instDict X.w.params (tk + 1) 1 al) := by
          rw [Heap.get?_update_self _ h6 (by rw [putName_empty]; rfl), putName_empty]
        refine wpAny_bind (wpAny_lookBehind D' (pastItsLine_dict (by rw [sizeLine_eq]; show 1 ≤ _; decide)) (wpAny_pure ?_))
        have kf : ∀ b ob, b ∉ p.2 → hh.get? b = some ob → (hh.update d (Obj.putName hdrKey (PyData.keyHash X.w.params hdrKey) (.str hdrKey (tk + 1)) (.ref al))).get? b = some ob := by
          intro b ob hb e
          rw [h4] at hb
          exact (Heap.get?_update_other _ _ (fun q => hb (by rw [q]; simp))).trans e
        have h5' : (hh.update d (Obj.putName hdrKey (PyData.keyHash X.w.params hdrKey) (.str hdrKey (tk + 1)) (.ref al))).get? p.1 = some (W.instObj X.C d) := (Heap.get?_update_other _ _ (Ne.symm hpd)).trans h5
        have hl : ∀ b ∈ p.2, ∃ ob, (hh.update d (Obj.putName hdrKey (PyData.keyHash X.w.params hdrKey) (.str hdrKey (tk + 1)) (.ref al))).get? b = some ob := by
          intro b hb
          rw [h4] at hb
          simp only [List.mem_cons, List.not_mem_nil, or_false] at hb
          rcases hb with rfl | rfl
          · exact ⟨_, h5'⟩
          · exact ⟨_, D'⟩
        exact ⟨μ, .setObj h2 kf hl, R.setObj h2 (fun _ q => nomatch q) kf hl ⟨d, h4, h5', al, tk + 1, 1, hal, D'⟩, rfl⟩
      · cases e
    · cases e
  · cases e


/-! targets -/
noncomputable def As (X : Cx) (n : Nat) (env : Env) (t : Expr) (f : V → M Unit) : Prop :=
  ∀ A ρ μ σ s v x, Ga n A → Rel X ρ μ env σ s.heap → VR s.heap (okOf ρ μ) μ v x → W X A ρ μ env s EqR (assign t env x) (f v σ)

theorem As_Name {x : Str} {p : Pos} (hk : stOk env x = true) : As X n env (.Name x p) (setLoc x) := by
  intro A ρ μ σ s v y ga R hv
  show W X A ρ μ env s EqR (standAt p >>= fun _ => bindName env x y) _
  exact W_standAt (W_setLoc hk R hv)

theorem W_release {RV : RVt Unit Unit} {t : Sem Unit} {vs ks : List Value} {r : Option (Unit × St)} (h : W X A ρ μ env s RV t r) : W X A ρ μ env s RV (t >>= fun _ => release vs ks) r := by
  intro b σ' e
  exact wpAny_bind (wpAny_mono (h b σ' e) (fun _ _ z => wpAny_release z) fun _ _ z => z)

theorem As_Attr (ok : CxOk X) {o : Expr} {name : Str} {p : Pos} {mo : M V} (ho : Ev X n env o mo) : As X n env (.Attribute o name p) (fun v => do let ov ← mo; setAttrS ov name v) := by
  intro A ρ μ σ s v y ga R hv
  rw [arm_assign_Attribute]
  refine W_bind (W_holding (ho A ρ μ σ s ga R)) fun μ₁ s₁ a σ₁ x st₁ R₁ v₁ => W_standAt (W_release (W_holding (W_setAttrS ok R₁ v₁ (VR.step R st₁ hv))))

theorem As_Sub (ok : CxOk X) (pok : PrmOk X n P) {o i : Expr} {p : Pos} {mo mi : M V} (ho : Ev X (n + 1) env o mo) (hi : Ev X (n + 1) env i mi) : As X (n + 1) env (.Subscript o i p) (fun v => do let ov ← mo; let iv ← mi; setItemS P ov iv v) := by
  intro A ρ μ σ s v y ga R hv
  rw [arm_assign_Subscript]
  refine W_bind (W_holding (ho A ρ μ σ s ga R)) fun μ₁ s₁ a σ₁ x st₁ R₁ v₁ => W_bind (W_holding (hi A ρ μ₁ σ₁ s₁ ga R₁)) fun μ₂ s₂ b σ₂ z st₂ R₂ v₂ => W_standAt (W_release (W_holding (W_setItemS ok pok ga R₂ (VR.step R₁ st₂ v₁) v₂ (VR.step R₁ st₂ (VR.step R st₁ hv)))))

theorem As_All {o : Expr} {p q : Pos} {mo : M V} (ho : Ev X n env o mo) : As X n env (.Subscript o (.Slice none none none q) p) (fun v => do let ov ← mo; setAllS ov v) := by
  intro A ρ μ σ s v y ga R hv
  rw [arm_assign_Subscript]
  refine W_bind (W_holding (ho A ρ μ σ s ga R)) fun μ₁ s₁ a σ₁ x st₁ R₁ v₁ => ?_
  intro u σ' e
  refine wpAny_bind (wpAny_holding ?_)
  refine wpAny_Slice (wpAny_pure (wpAny_pure (wpAny_pure ?_)))
  have k1 : ∀ b o, s₁.heap.get? b = some o → (s₁.heap.push { cls := .type "slice", data := .fields #[.none, .none, .none] }).get? b = some o := fun b o e => Heap.get?_push_of_some _ e
  have st₂ : Step (wrt env) μ₁ μ₁ s₁ { s₁ with heap := s₁.heap.push { cls := .type "slice", data := .fields #[.none, .none, .none] } } := .grow (tk := s₁.toks) k1
  have R₂ : Rel X ρ μ₁ env σ₁ _ := R₁.ext k1
  have z := W_standAt (pos := p) (W_release (vs := [.ref s₁.heap.objs.size, y, x]) (ks := []) (W_holding (vs := [y, x, .ref s₁.heap.objs.size]) (W_setAllS (A := A) (s := { s₁ with heap := s₁.heap.push { cls := .type "slice", data := .fields #[.none, .none, .none] } }) R₂ (VR.step R₁ st₂ v₁) (VR.step R₁ st₂ (VR.step R st₁ hv)) (Heap.IsSliceOf.new ..)))) u σ' e
  refine wpAny_mono z (fun _ _ z => ?_) fun _ _ z => z
  first | refine post_elim z fun μ3 st3 R3 q3 => ?_ | obtain ⟨μ3, st3, R3, q3⟩ := z
  exact ⟨μ3, st₂.trans st3, R3, q3⟩

/-- a pair is unpacked -/
theorem As_Tuple {t u : Expr} {p : Pos} {k : Nat} {f g : V → M Unit} (ht : As X n env t f) (hu : As X n env u g) (hst : (noStar t && noStar u) = true) : As X n env (.Tuple [t, u] k p) (fun v => match v with
    | .dat (.tuple [a, b]) => (do f (.dat a); g (.dat b))
    | _ => mfail) := by
  intro A ρ μ σ s v y ga R hv w σ' e
  rw [Bool.and_eq_true] at hst
  cases v with
  | dat d =>
    cases d with
    | tuple l =>
      match l, e, hv with
      | [a, b], e, hv =>
        have hv : DR _ _ _ _ := hv
        simp only [DR, DRs] at hv
        obtain ⟨r, o, vs, m, rfl, hok, g1, g2, g3, x, _, g4, hx, x2, _, g6, hx2, g7⟩ := hv
        subst g7 g6
        refine mbind_elim e fun _ σ1 e1 e2 => ?_
        have hvs : vs = #[x, x2] := Array.toList_inj.mp g4
        subst hvs
        have hea : ∀ e : Expr, noStar e = true → ∀ r, assignEach (e :: r) env = (false, assign e env) :: assignEach r env := fun e he r => by cases e <;> first | rfl | cases he
        have hT : s.heap.IsTuple r #[x, x2] := ⟨o, g1, g2, m, g3⟩
        refine wpAny_assign_Tuple ga.handled hT (by rw [hea t hst.1, hea u hst.2]; rfl) (by rw [hea t hst.1, hea u hst.2]; rfl) fun h' he => ?_
        rw [hea t hst.1, hea u hst.2]
        have k1 : ∀ b o, s.heap.get? b = some o → h'.get? b = some o := fun b o e => he b o (Nat.ne_of_lt (Heap.lt_size e)) e
        have st0 : Step (wrt env) μ μ s { s with heap := h' } := .grow (tk := s.toks) k1
        have R0 : Rel X ρ μ env σ h' := R.ext k1
        refine wpAny_assignInOrder_more ?_
        refine wpAny_mono (ht A ρ μ σ { s with heap := h' } (.dat a) x ga R0 (VR.step R st0 (v := .dat a) hx) _ σ1 e1) (fun _ s1 z => ?_) fun _ _ z => z
        first | refine post_elim z fun μ1 st1 R1 _ => ?_ | obtain ⟨μ1, st1, R1, _⟩ := z
        refine wpAny_assignInOrder_more ?_
        refine wpAny_mono (hu A ρ μ1 σ1 s1 (.dat b) x2 ga R1 (VR.step (s := { s with heap := h' }) R0 st1 (VR.step R st0 (v := .dat b) hx2)) _ σ' e2) (fun _ s2 z => ?_) fun _ _ z => z
        first | refine post_elim z fun μ2 st2 R2 _ => ?_ | obtain ⟨μ2, st2, R2, _⟩ := z
        exact wpAny_assignInOrder_none ⟨μ2, (st0.trans st1).trans st2, R2, rfl⟩
      | [], e, _ => cases e
      | [_], e, _ => cases e
      | _ :: _ :: _ :: _, e, _ => cases e
    | _ => cases e
  | _ => cases e

end
end Mine
end

section
open PySem
set_option Elab.async false
set_option maxRecDepth 10000
namespace Mine

noncomputable def FlR : RVt Flow Fl := fun h ok μ f x => match f with
  | .next => x = .next
  | .brk => x = .brk
  | .cont => x = .cont
  | .ret v => ∃ y, x = .ret y ∧ VR h ok μ v y

noncomputable def Ex (X : Cx) (n : Nat) (env : Env) (st : Stmt) (m : M Fl) : Prop := Tr X n env FlR (exec st env) m
noncomputable def Exs (X : Cx) (n : Nat) (env : Env) (st : List Stmt) (m : M Fl) : Prop := Tr X n env FlR (execs st env) m

section
variable {X : Cx} {n : Nat} {env : Env} {P : Prm} {A : Around} {ρ : List Addr} {μ : Mu} {σ : St} {s : Shared}

theorem Rel.notInter (R : Rel X ρ μ env σ s.heap) : interactive env = false := by
  obtain ⟨m, cm, F, _⟩ := R.frame
  unfold interactive; rw [F.kind]; rfl

noncomputable def noComp : Expr → Bool
  | .ListComp .. => false
  | .SetComp .. => false
  | .DictComp .. => false
  | _ => true
theorem swaps_no {e : Expr} (h : noComp e = true) (t : Option Expr) (l : Nat) : swapsWith e t l env = pure false := by
  cases e <;> first | rfl | cases h

theorem Ex_Expr {e : Expr} {pos : Pos} {m : M V} (he : Ev X n env e m) (hc : noComp e = true) : Ex X n env (.Expr e pos) (do let _ ← m; mpure .next) := by
  intro A ρ μ σ s ga R r σ' q
  refine mbind_elim q fun v σ1 e1 q1 => ?_
  cases q1
  refine wpAny_Expr_any (wpAny_mono (he A ρ μ σ s ga R v _ e1) (fun y s1 z => ?_) fun _ _ z => z) R.notInter (swaps_no hc _ _)
  first | refine post_elim z fun μ1 st1 R1 _ => ?_ | obtain ⟨μ1, st1, R1, _⟩ := z
  exact ⟨μ1, st1, R1, rfl⟩

theorem Ex_Return {e : Expr} {pos : Pos} {m : M V} (he : Ev X n env e m) : Ex X n env (.Return (some e) pos) (do let v ← m; mpure (.ret v)) := fun A ρ μ σ s ga R => by
  rw [arm_exec_Return]
  exact W_standAt (W_bind (he A ρ μ σ s ga R) fun μ₁ s₁ a σ₁ x st₁ R₁ v₁ => W_pure R₁ ⟨x, rfl, v₁⟩)

noncomputable def swq : Expr → Expr → Bool
  | .Tuple .., .Tuple .. => false
  | .List .., .Tuple .. => false
  | _, _ => true
theorem swapped_no {t e : Expr} (h : swq t e = true) : swappedStores [t] e env = pure none := by
  cases t <;> first | rfl | (cases e <;> first | rfl | cases h)

theorem Ex_Assign {t e : Expr} {pos : Pos} {m : M V} {f : V → M Unit} (he : Ev X n env e m) (ht : As X n env t f) (h1 : noStar t = true) (h2 : swapsWith e (some t) pos.line env = pure false) (h3 : swappedStores [t] e env = pure none) :
    Ex X n env (.Assign [t] e pos) (do let v ← m; f v; mpure .next) := by
  intro A ρ μ σ s ga R r σ' q
  refine mbind_elim q fun v σ1 e1 q1 => ?_
  refine mbind_elim q1 fun u σ2 e2 q2 => ?_
  cases q2
  have hea : assignEach [t] env = [(false, assign t env)] := by cases t <;> first | rfl | cases h1
  refine wpAny_Assign_stores (wpAny_mono (he A ρ μ σ s ga R v σ1 e1) (fun y s1 z => ?_) fun _ _ z => z) h2 h3
  first | refine post_elim z fun μ1 st1 R1 v1 => ?_ | obtain ⟨μ1, st1, R1, v1⟩ := z
  rw [hea]
  refine wpAny_mono (ht A ρ μ1 σ1 s1 v y ga R1 v1 u _ e2) (fun _ s2 z => ?_) fun _ _ z => z
  first | refine post_elim z fun μ2 st2 R2 _ => ?_ | obtain ⟨μ2, st2, R2, _⟩ := z
  exact ⟨μ2, st1.trans st2, R2, rfl⟩

noncomputable def augOk : Operator → Bool
  | .Add => true
  | .Sub => true
  | _ => false

theorem W_inplace {op : Operator} {a b d : PyData} {x y : Value} (ho : augOk op = true) (R : Rel X ρ μ env σ s.heap) (ha : DR s.heap (okOf ρ μ) a x) (hb : DR s.heap (okOf ρ μ) b y) (e : binD op a b = some d) :
    wpAny (model X.prog X.w) A (inplaceOp op x y) (Post X ρ μ env s VRr (.dat d) σ) (fun _ _ => False) s := by
  cases op with
  | Add =>
    cases a with
    | int i => cases b with
      | int j =>
        cases e
        simp only [DR] at ha hb; obtain ⟨t, rfl⟩ := ha; obtain ⟨u, rfl⟩ := hb
        exact PyProof.Rows.iadd_int (post_tok R _ VR_int)
      | _ => cases e
    | str x' => cases b with
      | str y' =>
        have e' : (if x'.length + y'.length ≤ big then some (PyData.str (x' ++ y')) else none) = some d := e
        split at e'
        · rename_i hl
          cases e'
          simp only [DR] at ha hb; obtain ⟨q1, t, rfl⟩ := ha; obtain ⟨q2, u, rfl⟩ := hb
          refine PyProof.Rows.iadd_str (fun t' tk => post_tok R _ (VR_str ?_)) (Nat.le_trans hl big_le)
          unfold asc at *
          show List.all ((x'.cps ++ y'.cps).toList) pc = true
          rw [Array.toList_append, List.all_append, q1, q2]; rfl
        · cases e'
      | _ => cases e
    | _ => cases e
  | Sub =>
    cases a with
    | int i => cases b with
      | int j =>
        cases e
        simp only [DR] at ha hb; obtain ⟨t, rfl⟩ := ha; obtain ⟨u, rfl⟩ := hb
        exact PyProof.Rows.isub_int (post_tok R _ VR_int)
      | _ => cases e
    | _ => cases e
  | _ => cases ho

theorem binD_dbg {op : Operator} {b : Bool} {d : PyData} : binD op (.bool b) d = none := by cases op <;> rfl

theorem Ex_Aug {x : Str} {xp pos : Pos} {op : Operator} {e : Expr} {m : M V} (he : Ev X n env e m) (hk : stOk env x = true) (ho : augOk op = true) :
    Ex X n env (.AugAssign (.Name x xp) op e pos) (do
      let old ← nameS x
      let v ← m
      let a ← asDat old
      let b ← asDat v
      let d ← mopt (binD op a b)
      setLoc x (.dat d)
      mpure .next) := by
  intro A ρ μ σ s ga R r σ' q
  refine mbind_elim q fun old σ1 e1 q1 => ?_
  refine mbind_elim q1 fun v σ2 e2 q2 => ?_
  refine mbind_elim q2 fun a σ3 e3 q3 => ?_
  refine mbind_elim q3 fun b σ4 e4 q4 => ?_
  refine mbind_elim q4 fun d σ5 e5 q5 => ?_
  refine mbind_elim q5 fun u σ6 e6 q6 => ?_
  cases q6
  obtain ⟨e5', h5⟩ := mopt_some e5
  cases old with
  | dat old =>
    cases e3
    cases v with
    | dat v =>
      cases e4
      subst h5
      refine wpAny_AugAssign_Name ?_
      have hload : wpAny (model X.prog X.w) A (loadName env x) (fun y s' => s' = s ∧ σ1 = σ ∧ VR s.heap (okOf ρ μ) μ (.dat a) y) (fun _ _ => False) s := by
        unfold nameS at e1
        split at e1
        · cases e1; rw [binD_dbg] at e5'; cases e5'
        · unfold getLoc at e1
          obtain ⟨v', h1, h2⟩ := Option.map_eq_some_iff.mp e1
          cases h2
          obtain ⟨m', cm, F, l⟩ := R.frame
          obtain ⟨val, g1, g2⟩ := l x _ h1
          exact valOf_load (h := s.heap) F g1 ⟨rfl, rfl, g2⟩
      refine wpAny_mono hload (fun y s' z => ?_) fun _ _ z => z
      obtain ⟨rfl, rfl, v1⟩ := z
      refine wpAny_mono (he A ρ μ σ1 s' ga R _ _ e2) (fun y2 s2 z => ?_) fun _ _ z => z
      first | refine post_elim z fun μ2 st2 R2 v2 => ?_ | obtain ⟨μ2, st2, R2, v2⟩ := z
      refine wpAny_mono (W_inplace ho R2 (VR.step R st2 v1) v2 e5') (fun y3 s3 z => ?_) fun _ _ z => z
      first | refine post_elim z fun μ3 st3 R3 v3 => ?_ | obtain ⟨μ3, st3, R3, v3⟩ := z
      have zz := W_setLoc (A := A) hk R3 v3 u _ e6
      have zz' : wpAny (model X.prog X.w) A (storeName env x y3) (Post X ρ μ3 env s3 EqR u σ') (fun _ _ => False) s3 := by
        intro Γ p hΓ
        have := zz Γ p hΓ
        rw [Sem.wp_bindName] at this
        exact this
      refine wpAny_mono zz' (fun _ s4 z => ?_) fun _ _ z => z
      first | refine post_elim z fun μ4 st4 R4 _ => ?_ | obtain ⟨μ4, st4, R4, _⟩ := z
      exact ⟨μ4, (st2.trans st3).trans st4, R4, rfl⟩
    | obj j => cases e4
    | rng j k => cases e4
    | emp => cases e4
  | obj j => cases e3
  | rng j k => cases e3
  | emp => cases e3

theorem Ex_Delete (ok : CxOk X) (pok : PrmOk X n P) {o i : Expr} {p pos : Pos} {mo mi : M V} (ho : Ev X (n + 1) env o mo) (hi : Ev X (n + 1) env i mi) :
    Ex X (n + 1) env (.Delete [.Subscript o i p] pos) (do let ov ← mo; let iv ← mi; delItemS P ov iv; mpure .next) := by
  intro A ρ μ σ s ga R r σ' q
  refine mbind_elim q fun a σ1 e1 q1 => ?_
  refine mbind_elim q1 fun b σ2 e2 q2 => ?_
  refine mbind_elim q2 fun u σ3 e3 q3 => ?_
  cases q3
  rw [arm_exec_Delete, arm_deleteEach_cons, arm_delete_Subscript, arm_deleteEach_nil]
  refine wpAny_bind (wpAny_standAt (wpAny_bind (wpAny_bind (wpAny_bind ?_))))
  refine wpAny_mono (ho A ρ μ σ s ga R a σ1 e1) (fun x s1 z => ?_) fun _ _ z => z
  first | refine post_elim z fun μ1 st1 R1 v1 => ?_ | obtain ⟨μ1, st1, R1, v1⟩ := z
  refine wpAny_bind (wpAny_holding (wpAny_mono (hi A ρ μ1 σ1 s1 ga R1 b σ2 e2) (fun y s2 z => ?_) fun _ _ z => z))
  first | refine post_elim z fun μ2 st2 R2 v2 => ?_ | obtain ⟨μ2, st2, R2, v2⟩ := z
  refine wpAny_bind (wpAny_standAt (wpAny_bind (wpAny_holding (wpAny_mono (W_delItemS ok pok ga R2 (VR.step R1 st2 v1) v2 u σ' e3) (fun _ s3 z => ?_) fun _ _ z => z))))
  first | refine post_elim z fun μ3 st3 R3 _ => ?_ | obtain ⟨μ3, st3, R3, _⟩ := z
  exact wpAny_release (wpAny_pure (wpAny_pure ⟨μ3, (st1.trans st2).trans st3, R3, rfl⟩))

theorem Ex_If {t : Expr} {b o : List Stmt} {pos : Pos} {mt : M Bool} {mb mo : M Fl} (ht : Te X n env t mt) (hb : Exs X n env b mb) (ho : Exs X n env o mo) :
    Ex X n env (.If t b o pos) (do let c ← mt; bif c then mb else mo) := by
  intro A ρ μ σ s ga R
  rw [arm_exec_If]
  refine W_standAt (W_bind (ht A ρ μ σ s ga R) fun μ₁ s₁ c σ₁ x st₁ R₁ v₁ => ?_)
  have : x = c := v₁
  subst this
  exact W_cond (fun _ => hb A ρ μ₁ σ₁ s₁ ga R₁) fun _ => ho A ρ μ₁ σ₁ s₁ ga R₁

theorem Exs_nil : Exs X n env [] (mpure .next) := fun A ρ μ σ s ga R => W_pure R rfl
theorem Exs_cons {st : Stmt} {r : List Stmt} {m k : M Fl} (h : Ex X n env st m) (hr : Exs X n env r k) : Exs X n env (st :: r) (do let f ← m; match f with | .next => k | f => mpure f) := by
  intro A ρ μ σ s ga R
  rw [arm_execs_cons]
  refine W_bind (h A ρ μ σ s ga R) fun μ₁ s₁ f σ₁ x st₁ R₁ v₁ => ?_
  cases f with
  | next => rw [show x = Flow.next from v₁]; exact hr A ρ μ₁ σ₁ s₁ ga R₁
  | brk => rw [show x = Flow.brk from v₁]; exact W_pure R₁ rfl
  | cont => rw [show x = Flow.cont from v₁]; exact W_pure R₁ rfl
  | ret v => obtain ⟨y, rfl, hy⟩ := v₁; exact W_pure R₁ ⟨y, rfl, hy⟩

end
end Mine
end

section
open PySem
set_option Elab.async false
set_option maxRecDepth 10000
namespace Mine

section
variable {X : Cx} {n : Nat} {env : Env} {P : Prm} {A : Around} {ρ : List Addr} {μ μ' : Mu} {σ : St} {s : Shared} {h h' : Heap}

theorem root_back (pre : μ <+: μ') {i : Nat} (hi : i < μ.length) : root μ' i = root μ i := by
  obtain ⟨r, rfl⟩ := pre
  unfold root
  rw [List.getElem?_append_left hi]
theorem get_back (pre : μ <+: μ') {i : Nat} (hi : i < μ.length) : μ'[i]? = μ[i]? := by
  obtain ⟨r, rfl⟩ := pre
  rw [List.getElem?_append_left hi]

theorem VR.cut (pre : μ <+: μ') {v : V} {x : Value} (hv : VR h (okOf ρ μ') μ' v x) (ho : okV μ.length v = true) : VR h (okOf ρ μ) μ v x := by
  have kok : ∀ a ob, okOf ρ μ' a → h.get? a = some ob → h.get? a = some ob ∧ okOf ρ μ a := fun a ob q e => ⟨e, q.1, fun hm => q.2 (foot_prefix pre hm)⟩
  cases v with
  | dat d => exact DR.mono kok hv
  | obj i =>
    obtain ⟨a, h1, h2⟩ := hv
    exact ⟨a, by rw [← root_back pre (of_decide_eq_true ho)]; exact h1, h2⟩
  | rng lo hi =>
    obtain ⟨r, t, u, w, h1, h2, h3⟩ := hv
    exact ⟨r, t, u, w, h1, (kok r _ h2 h3).2, h3⟩
  | emp =>
    obtain ⟨a, n, h1, h0, h2, h3⟩ := hv
    exact ⟨a, n, h1, h0, (kok a _ h2 h3).2, h3⟩

/-- what is behind n is forgotten -/
theorem Rel.cut (R : Rel X ρ μ' env σ h) (pre : μ <+: μ') {σ₁ : St} (e : cutM μ.length σ = some σ₁) : Rel X ρ μ env σ₁ h := by
  unfold cutM at e
  split at e
  · rename_i hall
    cases e
    have hlen : μ.length ≤ σ.heap.length := by rw [← R.len]; exact pre.length_le
    have hf : ∀ a, a ∈ foot μ → a ∈ foot μ' := fun a ha => foot_prefix pre ha
    have kok : ∀ a ob, okOf ρ μ' a → h.get? a = some ob → h.get? a = some ob ∧ okOf ρ μ a := fun a ob q e => ⟨e, q.1, fun hm => q.2 (hf a hm)⟩
    refine ⟨R.base, R.freshR, fun a ha => R.freshM a (hf a ha), R.liveR, fun a ha => R.liveM a (hf a ha), ?_, fun a ha hm => R.dis a ha (hf a hm), R.own, R.above, ?_, ?_, fun i j a h1 h2 => R.inj i j a (root_prefix pre h1) (root_prefix pre h2), ?_, ?_⟩
    · obtain ⟨r, rfl⟩ := pre
      have := R.nod
      rw [foot_append, List.nodup_append] at this
      exact this.1
    · obtain ⟨m, cm, F, l⟩ := R.frame
      refine ⟨m, cm, F, fun x v ex => ?_⟩
      obtain ⟨h1, h2⟩ := Option.filter_eq_some_iff.mp ex
      obtain ⟨val, h3, h4⟩ := l x v h1
      exact ⟨val, h3, h4.cut pre h2⟩
    · simp [Nat.min_eq_left hlen]
    · intro i o hi
      have hi' : i < μ.length := by
        have := (List.getElem?_eq_some_iff.mp hi).1
        rw [List.length_take] at this; omega
      have hi2 : σ.heap[i]? = some o := by rwa [List.getElem?_take_of_lt hi'] at hi
      have hoo : okO μ.length o = true := List.all_eq_true.mp hall o (List.mem_of_getElem? hi)
      obtain ⟨p, h1, h2⟩ := R.objs i o hi2
      refine ⟨p, by rw [← get_back pre hi']; exact h1, ?_⟩
      cases o with
      | lst ds => obtain ⟨vs, m, g1, g2, g3⟩ := h2; exact ⟨vs, m, g1, g2, DRs.mono kok g3⟩
      | frz ds => obtain ⟨vs, m, g1, g2, g3⟩ := h2; exact ⟨vs, m, g1, g2, DRs.mono kok g3⟩
      | inst l =>
        obtain ⟨d, g1, g2, g3⟩ := h2
        refine ⟨d, g1, g2, ?_⟩
        cases l with
        | none => exact g3
        | some k =>
          obtain ⟨al, t, m, g4, g5⟩ := g3
          exact ⟨al, t, m, by rw [← root_back pre (of_decide_eq_true hoo)]; exact g4, g5⟩
      | dctS kvs => exact DctR.mono kok (fun _ e => e) h2
      | dctI kvs => exact DctR.mono kok (fun _ e => e) h2
    · intro i ds hi a ha
      have hi' : i < μ.length := by
        have := (List.getElem?_eq_some_iff.mp hi).1
        rw [List.length_take] at this; omega
      have hi2 : σ.heap[i]? = some (.frz ds) := by rwa [List.getElem?_take_of_lt hi'] at hi
      exact R.frz i ds hi2 a (by rw [root_back pre hi']; exact ha)
  · cases e

theorem Step.cut {ow : List Addr} {s s' : Shared} (st : Step ow μ μ' s s') : Step ow μ μ s s' := ⟨st.same, st.keep, st.live, List.prefix_refl _, fun _ h => .inl h⟩

theorem FlR.cut (pre : μ <+: μ') {f : Fl} {x : Flow} (hv : FlR h (okOf ρ μ') μ' f x) (ho : okF μ.length f = true) : FlR h (okOf ρ μ) μ f x := by
  cases f with
  | ret v => obtain ⟨y, h1, h2⟩ := hv; exact ⟨y, h1, h2.cut pre ho⟩
  | _ => exact hv

theorem post_cut {f : Fl} {x : Flow} {s' : Shared} {σ' σ₁ : St} (z : Post X ρ μ env s FlR f σ' x s') (ho : okF μ.length f = true) (e : cutM μ.length σ' = some σ₁) :
    Step (Mine.wrt env) μ μ s s' ∧ Rel X ρ μ env σ₁ s'.heap ∧ FlR s'.heap (okOf ρ μ) μ f x := by
  first | refine post_elim z fun μ1 st R v => ?_ | obtain ⟨μ1, st, R, v⟩ := z
  exact ⟨st.cut, R.cut st.pre e, v.cut st.pre ho⟩

theorem scopeM_some {m : M Fl} {f : Fl} {σ' : St} (e : scopeM m σ = some (f, σ')) : ∃ σ₁, m σ = some (f, σ₁) ∧ okF σ.heap.length f = true ∧ cutM σ.heap.length σ₁ = some σ' := by
  unfold scopeM at e
  split at e
  · cases e
  · rename_i g σ1 hm
    split at e
    · rename_i ho
      obtain ⟨σ2, h1, h2⟩ := Option.map_eq_some_iff.mp e
      cases h2
      exact ⟨σ1, hm, ho, h1⟩
    · cases e

/-- reserved things are let go -/
theorem Rel.leave {wr : List Addr} (R : Rel X (wr ++ ρ) μ env σ h) (hw : ∀ a ∈ Mine.own env, a ∈ ρ) (hwo : ∀ a ∈ wr, a ∉ ρ) (hz : ∀ a ∈ wr, ∀ j, root μ j ≠ some a) (k : ∀ b o, b ∉ wr → h.get? b = some o → h'.get? b = some o) : Rel X ρ μ env σ h' := by
  have kok : ∀ a ob, okOf (wr ++ ρ) μ a → h.get? a = some ob → h'.get? a = some ob ∧ okOf ρ μ a := fun a ob q e => ⟨k a ob (fun hm => q.1 (List.mem_append_left _ hm)) e, fun hm => q.1 (List.mem_append_right _ hm), q.2⟩
  have ka : ∀ a ∈ ρ, a ∉ wr := fun a ha hm => hwo a hm ha
  have kf : ∀ a ∈ foot μ, a ∉ wr := fun a ha hm => R.dis a (List.mem_append_left _ hm) ha
  refine ⟨fun b o e => k b o (fun hm => ?_) (R.base b o e), fun a ha => R.freshR a (List.mem_append_right _ ha), R.freshM, fun a ha => ?_, fun a ha => ?_, R.nod, fun a ha => R.dis a (List.mem_append_right _ ha), hw, R.above, ?_, R.len, R.inj, ?_, ?_⟩
  · rw [R.freshR b (List.mem_append_left _ hm)] at e; cases e
  · obtain ⟨o, e⟩ := R.liveR a (List.mem_append_right _ ha); exact ⟨o, k a o (ka a ha) e⟩
  · obtain ⟨o, e⟩ := R.liveM a ha; exact ⟨o, k a o (kf a ha) e⟩
  · obtain ⟨m, cm, F, l⟩ := R.frame
    refine ⟨m, cm, F.at fun b hb o e => k b o (ka b (hw b hb)) e, fun x v e => ?_⟩
    obtain ⟨val, h1, h2⟩ := l x v e
    exact ⟨val, h1, h2.mono (fun _ _ e => e) kok⟩
  · intro j oj e
    obtain ⟨q, h1, h2⟩ := R.objs j oj e
    refine ⟨q, h1, h2.mono (fun _ _ e => e) kok fun b hb ob e' => k b ob (fun hm => ?_) e'⟩
    rcases List.mem_cons.mp hb with rfl | hb
    · rcases h2.root_mem with h3 | ⟨ds, rfl⟩
      · exact kf _ (foot_get h1 h3) hm
      · exact hz _ hm j (root_some h1)
    · exact kf _ (foot_get h1 hb) hm
  · intro i ds e a ha
    rcases List.mem_append.mp (R.frz i ds e a ha) with hm | hm
    · exact absurd ha (hz _ hm i)
    · exact hm

/-! for -/
noncomputable def plainIt (T : String) : Bool := !(["enumerate", "zip", "dict_itemiterator", "dict_reverseitemiterator", "odict_iterator", "itertools.zip_longest", "itertools.pairwise"].contains T)

noncomputable def ItAt (h : Heap) (I : Addr) : Prop := ∃ o T vs, h.get? I = some o ∧ o.cls = .type T ∧ o.data = .fields vs ∧ plainIt T = true

theorem letOwned {tgt : Expr} {I : Addr} {v : Value} {Q : Unit → Shared → Prop} {E : Value → Shared → Prop} (hI : ItAt s.heap I) (q : Q () s) : wpAny (model X.prog X.w) A (letOwnedTupleGo tgt (.ref I) v) Q E s := by
  obtain ⟨o, T, vs, h1, h2, h3, h4⟩ := hI
  unfold plainIt at h4
  rw [Bool.not_eq_true'] at h4
  have body : wpAny (model X.prog X.w) A (do
    let (.ref r, .ref a) := ((.ref I : Value), v) | return
    let o ← load r
    match o.cls, o.data with
    | .type n, .fields vs =>
      if ["enumerate", "zip", "dict_itemiterator", "dict_reverseitemiterator", "odict_iterator", "itertools.zip_longest", "itertools.pairwise"].contains n && vs[0]? == some (rawInt a) then
        rule "for.unpacks-the-owned-tuple"
        updateField r 0 .none
    | _, _ => pure () : Sem Unit) Q E s := by
    cases v with
    | ref a =>
      refine wpAny_bind (wpAny_load h1 ?_)
      rw [h2, h3]
      dsimp only
      rw [h4, Bool.false_and, if_neg (by decide)]
      exact wpAny_pure q
    | _ => exact wpAny_pure q
  unfold letOwnedTupleGo
  split
  · exact body
  · exact body
  · exact wpAny_pure q

/-- a walk over data -/
structure Itr (X : Cx) (A : Around) (ow : List Addr) (μ : Mu) (h₀ : Heap) (ok : Addr → Prop) (I : Addr) (ds : List V) (h₁ : Heap) : Prop where
  fresh : h₀.get? I = none
  keep : ∀ b o, h₀.get? b = some o → h₁.get? b = some o
  walk : ∃ fp P St, Walks X.prog X.w A I fp [I] ds.length P St ∧ I ∈ fp ∧ (∀ b ∈ fp, b ≠ I → b ∉ foot μ ∧ b ∉ ow ∧ ∃ o, h₀.get? b = some o) ∧ St 0 h₁ ∧ (∀ i v, i < ds.length → P i v → ∃ d, ds[i]? = some d ∧ VR h₀ ok μ d v) ∧ (∀ i h, St i h → ItAt h I)

theorem Itr.dat {X : Cx} {A : Around} {ow : List Addr} {μ : Mu} {h₀ h₁ : Heap} {ok : Addr → Prop} {I : Addr} {ds : List PyData} (f : h₀.get? I = none) (k : ∀ b o, h₀.get? b = some o → h₁.get? b = some o)
    (w : ∃ fp P St, Walks X.prog X.w A I fp [I] ds.length P St ∧ I ∈ fp ∧ (∀ b ∈ fp, b ≠ I → b ∉ foot μ ∧ b ∉ ow ∧ ∃ o, h₀.get? b = some o) ∧ St 0 h₁ ∧ (∀ i v, i < ds.length → P i v → ∃ d, ds[i]? = some d ∧ DR h₀ ok d v) ∧ (∀ i h, St i h → ItAt h I)) : Itr X A ow μ h₀ ok I (ds.map .dat) h₁ := by
  refine ⟨f, k, ?_⟩
  rw [List.length_map]
  obtain ⟨fp, P, St, h1, h2, h3, h4, h5, h6⟩ := w
  refine ⟨fp, P, St, h1, h2, h3, h4, fun i v hi hv => ?_, h6⟩
  obtain ⟨d, g1, g2⟩ := h5 i v hi hv
  exact ⟨.dat d, by rw [List.getElem?_map, g1]; rfl, g2⟩
theorem For_loop {tgt : Expr} {body : List Stmt} {bind : V → M Unit} {mb : M Fl} (hb : As X n env tgt bind) (hB : Exs X n env body mb) (ga : Ga n A) (R : Rel X ρ μ env σ s.heap) {I : Addr} {ds : List V} {h₁ : Heap} {tk : Nat}
    (it : Itr X A (own env) μ s.heap (okOf ρ μ) I ds h₁) {f : Fl} {σ' : St} (e : forS bind mb ds σ = some (f, σ')) :
    codeAny (model X.prog X.w) A (.forLoop tgt (.ref I) body [] env) (fun r s' => match r with | .ok x => Post X ρ μ env s FlR f σ' x s' | .error _ => False) { s with heap := h₁, toks := tk } := by
  obtain ⟨fp, P, Ss, hW, hIf, hfp, hst, hP, hlive⟩ := it.walk
  have hIρ : I ∉ ρ := fun hm => by obtain ⟨o, e⟩ := R.liveR I hm; rw [it.fresh] at e; cases e
  have hIμ : I ∉ foot μ := fun hm => by obtain ⟨o, e⟩ := R.liveM I hm; rw [it.fresh] at e; cases e
  have hIo : I ∉ own env := fun hm => hIρ (R.own I hm)
  have hIr : ∀ a ∈ [I], ∀ j, root μ j ≠ some a := all1 fun j hj => by
    obtain ⟨o, e⟩ := R.rootLive hj
    rw [it.fresh] at e; cases e
  have R₁ : Rel X ([I] ++ ρ) μ env σ h₁ := Rel.reserve (R.ext it.keep) (h₂ := s.heap) (all1 it.fresh) R it.keep (all1 (by obtain ⟨o, _, _, q, _⟩ := hlive 0 h₁ hst; exact ⟨o, q⟩))
  have leave : ∀ {σ₂ : St} {h₂ h₃ : Heap}, Rel X ([I] ++ ρ) μ env σ₂ h₂ → ItAt h₂ I → (∀ b o, b ∉ [I] → h₂.get? b = some o → h₃.get? b = some o) → Rel X ρ μ env σ₂ h₃ := fun r i k =>
    r.leave R.own (all1 hIρ) hIr k
  refine codeAny_forLoop_any (fun k s' => ∃ i σ₁, k = ds.length + 1 - i ∧ i ≤ ds.length ∧ Step (wrt env) μ μ s s' ∧ Rel X ([I] ++ ρ) μ env σ₁ s'.heap ∧ Ss i s'.heap ∧ forS bind mb (ds.drop i) σ₁ = some (f, σ')) ?_ (ds.length + 1)
    ⟨0, σ, rfl, Nat.zero_le _, .grow it.keep, R₁, hst, e⟩
  rintro k s' ⟨i, σ₁, rfl, hi, st, R₂, hSt, e₂⟩
  by_cases hlt : i < ds.length
  · refine hW.item i s' _ _ hlt hSt fun v h₂ tk₂ hv hSt₂ hk₂ => ?_
    obtain ⟨d, hd, hdr⟩ := hP i v hlt hv
    have hdrop : ds.drop i = d :: ds.drop (i + 1) := by
      rw [List.drop_eq_getElem_cons hlt]
      rw [List.getElem?_eq_getElem hlt] at hd
      cases hd; rfl
    rw [hdrop] at e₂
    simp only [forS] at e₂
    have it₂ := hlive _ _ hSt₂
    have R₃ : Rel X ([I] ++ ρ) μ env σ₁ h₂ := R₂.setRes (wr := [I]) (fun a ha => List.mem_append_left _ ha) (all1 hIo) (all1 (by obtain ⟨o, _, _, q, _⟩ := it₂; exact ⟨o, q⟩)) hIr hk₂
    have st₃ : Step (wrt env) μ μ s { s' with heap := h₂, toks := tk₂ } := by
      obtain ⟨hh, tt, es⟩ := st.same
      refine ⟨⟨h₂, tk₂, by rw [es]⟩, fun b o q1 q2 q3 => hk₂ b o (fun hm => ?_) (st.keep b o q1 q2 q3), fun b o q1 => ?_, List.prefix_refl _, fun _ h => .inl h⟩
      · exact nomatch (List.mem_singleton.mp hm ▸ q1).symm.trans it.fresh
      · obtain ⟨o', q'⟩ := st.live b o q1
        exact ⟨o', hk₂ b o' (fun hm => nomatch (List.mem_singleton.mp hm ▸ q1).symm.trans it.fresh) q'⟩
    have hv₃ : VR h₂ (okOf ([I] ++ ρ) μ) μ d v := VR.mono (fun _ _ e => e) (fun a o ok q => ⟨st₃.keep a o q ok.2 (fun hm => ok.1 (R.own a (wrt_own hm))), fun hm => by
      rcases List.mem_append.mp hm with hm | hm
      · exact nomatch (List.mem_singleton.mp hm ▸ q).symm.trans it.fresh
      · exact ok.1 hm, ok.2⟩) hdr
    cases hs : scopeM (do bind d; mb) σ₁ with
    | none => rw [hs] at e₂; cases e₂
    | some r =>
      obtain ⟨f2, σ₃⟩ := r
      rw [hs] at e₂
      obtain ⟨σm, g1, g2, g3⟩ := scopeM_some hs
      rw [← R₂.len] at g2 g3
      refine mbind_elim g1 fun u σb g4 g5 => ?_
      refine letOwned it₂ ?_
      refine wpAny_mono (hb A _ μ σ₁ { s' with heap := h₂, toks := tk₂ } d v ga R₃ hv₃ u σb g4) (fun _ s₄ z => ?_) fun _ _ z => z.elim
      first | refine post_elim z fun μ₄ st₄ R₄ _ => ?_ | obtain ⟨μ₄, st₄, R₄, _⟩ := z
      refine wpAny_mono (hB A _ μ₄ σb s₄ ga R₄ _ _ g5) (fun x s₅ z => ?_) fun _ _ z => z.elim
      first | refine post_elim z fun μ₅ st₅ R₅ v₅ => ?_ | obtain ⟨μ₅, st₅, R₅, v₅⟩ := z
      obtain ⟨st₆, R₆, v₆⟩ := post_cut (s := { s' with heap := h₂, toks := tk₂ }) ⟨μ₅, st₄.trans st₅, R₅, v₅⟩ g2 g3
      have hSt₆ : Ss (i + 1) s₅.heap := hW.frame _ _ _ hSt₂ fun b hb o q => by
        by_cases hbI : b = I
        · exact st₆.keep b o q (hbI ▸ hIμ) fun hm => hIo (hbI ▸ wrt_own hm)
        · exact st₆.keep b o q (hfp b hb hbI).1 fun hm => (hfp b hb hbI).2.1 (wrt_own hm)
      have it₆ := hlive _ _ hSt₆
      have st₇ := st₃.trans st₆
      cases f2 with
      | next =>
        rw [show x = Flow.next from v₆]
        exact ⟨ds.length + 1 - (i + 1), by omega, i + 1, σ₃, rfl, hlt, st₇, R₆, hSt₆, e₂⟩
      | cont =>
        rw [show x = Flow.cont from v₆]
        exact ⟨ds.length + 1 - (i + 1), by omega, i + 1, σ₃, rfl, hlt, st₇, R₆, hSt₆, e₂⟩
      | brk =>
        rw [show x = Flow.brk from v₆]
        cases e₂
        exact ⟨μ, st₇, leave R₆ it₆ fun _ _ _ e => e, rfl⟩
      | ret v =>
        obtain ⟨y, rfl, hy⟩ := v₆
        cases e₂
        refine ⟨μ, st₇, leave R₆ it₆ fun _ _ _ e => e, y, rfl, hy.mono (fun _ _ e => e) fun a o ok q => ⟨q, fun hm => ok.1 (List.mem_append_right _ hm), ok.2⟩⟩
  · have hin : i = ds.length := by omega
    subst hin
    rw [List.drop_length] at e₂
    cases e₂
    refine hW.done s' _ _ hSt fun h₂ tk₂ hk₂ => ?_
    refine wpAny_execs_nil ⟨μ, ?_, leave R₂ (hlive _ _ hSt) hk₂, rfl⟩
    obtain ⟨hh, tt, es⟩ := st.same
    refine ⟨⟨h₂, tk₂, by rw [es]⟩, fun b o q1 q2 q3 => hk₂ b o (fun hm => ?_) (st.keep b o q1 q2 q3), fun b o q1 => ?_, List.prefix_refl _, fun _ h => .inl h⟩
    · exact nomatch (List.mem_singleton.mp hm ▸ q1).symm.trans it.fresh
    · obtain ⟨o', q'⟩ := st.live b o q1
      exact ⟨o', hk₂ b o' (fun hm => nomatch (List.mem_singleton.mp hm ▸ q1).symm.trans it.fresh) q'⟩

end
end Mine
end

section
open PySem
set_option Elab.async false
set_option maxRecDepth 10000
namespace Mine

section
variable {X : Cx} {n : Nat} {env : Env} {P : Prm} {A : Around} {ρ : List Addr} {μ μ' : Mu} {σ : St} {s : Shared} {h h' : Heap}

theorem foot_cons (p : Addr × List Addr) (μ : Mu) : foot (p :: μ) = p.2 ++ foot μ := by simp [foot]

theorem foot_set (a : Addr) (fp : List Addr) : ∀ {μ : Mu} {i : Nat} {p : Addr × List Addr}, μ[i]? = some p → (foot μ).Nodup → fp.Nodup → (∀ b ∈ fp, b ∈ p.2 ∨ b ∉ foot μ) →
    (∀ b, b ∈ foot (μ.set i (a, fp)) ↔ (b ∈ foot μ ∧ b ∉ p.2) ∨ b ∈ fp) ∧ (foot (μ.set i (a, fp))).Nodup
  | [], i, p, e, _, _, _ => by simp at e
  | q :: μ, 0, p, e, hn, hf, hc => by
    simp at e; subst e
    rw [foot_cons, List.nodup_append] at hn
    obtain ⟨h1, h2, h3⟩ := hn
    simp only [List.set_cons_zero, foot_cons]
    refine ⟨fun b => ?_, ?_⟩
    · simp only [List.mem_append]
      constructor
      · rintro (hb | hb)
        · exact .inr hb
        · exact .inl ⟨.inr hb, fun hq => h3 b hq b hb rfl⟩
      · rintro (⟨hb | hb, hq⟩ | hb)
        · exact absurd hb hq
        · exact .inr hb
        · exact .inl hb
    · rw [List.nodup_append]
      refine ⟨hf, h2, fun x hx y hy hxy => ?_⟩
      subst hxy
      rcases hc x hx with hh | hh
      · exact h3 x hh x hy rfl
      · exact hh (by rw [foot_cons]; exact List.mem_append_right _ hy)
  | q :: μ, i + 1, p, e, hn, hf, hc => by
    simp at e
    rw [foot_cons, List.nodup_append] at hn
    obtain ⟨h1, h2, h3⟩ := hn
    have hpm : ∀ b ∈ p.2, b ∈ foot μ := fun b hb => foot_get e hb
    obtain ⟨ih1, ih2⟩ := foot_set a fp e h2 hf (fun b hb => by
      rcases hc b hb with hh | hh
      · exact .inl hh
      · exact .inr fun hm => hh (by rw [foot_cons]; exact List.mem_append_right _ hm))
    simp only [List.set_cons_succ, foot_cons]
    refine ⟨fun b => ?_, ?_⟩
    · simp only [List.mem_append, ih1]
      constructor
      · rintro (hb | (⟨hb, hq⟩ | hb))
        · exact .inl ⟨.inl hb, fun hq => h3 b hb b (hpm b hq) rfl⟩
        · exact .inl ⟨.inr hb, hq⟩
        · exact .inr hb
      · rintro (⟨hb | hb, hq⟩ | hb)
        · exact .inl hb
        · exact .inr (.inl ⟨hb, hq⟩)
        · exact .inr (.inr hb)
    · rw [List.nodup_append]
      refine ⟨h1, ih2, fun x hx y hy hxy => ?_⟩
      subst hxy
      rcases (ih1 x).mp hy with ⟨hb, _⟩ | hb
      · exact h3 x hx x hb rfl
      · rcases hc x hb with hh | hh
        · exact h3 x hx x (hpm x hh) rfl
        · exact hh (by rw [foot_cons]; exact List.mem_append_left _ hx)

theorem root_set {i : Nat} {p : Addr × List Addr} (e : μ[i]? = some p) (fp : List Addr) (j : Nat) : root (μ.set i (p.1, fp)) j = root μ j := by
  unfold root
  rw [List.getElem?_set]
  split
  · rename_i hij
    subst hij
    rw [if_pos (List.getElem?_eq_some_iff.mp e).1, e]; rfl
  · rfl

/-- a list is laid by -/
theorem Rel.freeze (R : Rel X ρ μ env σ h) {i : Nat} {a : Addr} {ds : List PyData} (hi : σ.heap[i]? = some (.lst ds)) (hp : μ[i]? = some (a, [a])) :
    Rel X ([a] ++ ρ) (μ.set i (a, [])) env ⟨σ.loc, σ.heap.set i (.frz ds)⟩ h := by
  obtain ⟨fs, fn⟩ := foot_set a [] hp R.nod (by simp) (by simp)
  have hfs : ∀ b, b ∈ foot (μ.set i (a, [])) ↔ b ∈ foot μ ∧ b ≠ a := fun b => by rw [fs]; simp
  have ham : a ∈ foot μ := foot_get hp (by simp)
  have haρ : a ∉ ρ := fun hm => R.dis a hm ham
  have hrt : ∀ j, root (μ.set i (a, [])) j = root μ j := root_set hp []
  have kok : ∀ b ob, okOf ρ μ b → h.get? b = some ob → h.get? b = some ob ∧ okOf ([a] ++ ρ) (μ.set i (a, [])) b := fun b ob q e => ⟨e, fun hm => by
    rcases List.mem_append.mp hm with hm | hm
    · simp at hm; subst hm; exact q.2 ham
    · exact q.1 hm, fun hm => q.2 ((hfs b).mp hm).1⟩
  have hpr : ∀ j b, root μ j = some b → root (μ.set i (a, [])) j = some b := fun j b e => by rw [hrt]; exact e
  refine ⟨R.base, fun b hb => ?_, fun b hb => R.freshM b ((hfs b).mp hb).1, fun b hb => ?_, fun b hb => R.liveM b ((hfs b).mp hb).1, fn, fun b hb hm => ?_, fun b hb => List.mem_append_right _ (R.own b hb), R.above, ?_, by simp [R.len], fun j k b h1 h2 => R.inj j k b (by rw [← hrt]; exact h1) (by rw [← hrt]; exact h2), ?_, ?_⟩
  · rcases List.mem_append.mp hb with hb | hb
    · simp at hb; subst hb; exact R.freshM b ham
    · exact R.freshR b hb
  · rcases List.mem_append.mp hb with hb | hb
    · simp at hb; subst hb; exact R.liveM b ham
    · exact R.liveR b hb
  · rcases List.mem_append.mp hb with hb | hb
    · simp at hb; subst hb; exact ((hfs b).mp hm).2 rfl
    · exact R.dis b hb ((hfs b).mp hm).1
  · obtain ⟨m, cm, F, l⟩ := R.frame
    refine ⟨m, cm, F, fun x v e => ?_⟩
    obtain ⟨val, h1, h2⟩ := l x v e
    exact ⟨val, h1, h2.mono hpr kok⟩
  · intro j o e
    rw [List.getElem?_set] at e
    split at e
    · rename_i hij
      subst hij
      split at e
      · cases e
        obtain ⟨p, h1, vs, m, h2, h3, h4⟩ := R.objs i _ hi
        rw [hp] at h1; cases h1
        refine ⟨(a, []), ?_, vs, m, rfl, h3, DRs.mono kok h4⟩
        rw [List.getElem?_set_self (List.getElem?_eq_some_iff.mp hp).1]
      · cases e
    · rename_i hij
      obtain ⟨p, h1, h2⟩ := R.objs j o e
      refine ⟨p, by rw [List.getElem?_set_ne hij]; exact h1, h2.mono hpr kok fun _ _ _ e => e⟩
  · intro j es e b hb
    rw [List.getElem?_set] at e
    rw [hrt] at hb
    split at e
    · rename_i hij
      subst hij
      split at e
      · cases e
        rw [root_some hp] at hb; cases hb
        simp
      · cases e
    · exact List.mem_append_right _ (R.frz j es e b hb)

/-- and taken up again -/
theorem Rel.thaw {i : Nat} {a : Addr} {ds : List PyData} {vs : Array Value} {m : Nat} (R : Rel X ([a] ++ ρ) μ env σ h) (hp : μ[i]? = some (a, [])) (ha : a ∉ ρ) (ho : ∀ b ∈ Mine.own env, b ∈ ρ)
    (hL : h.get? a = some { cls := .type "list", data := .seq vs m }) (hd : DRs h (okOf ([a] ++ ρ) μ) ds vs.toList) :
    Rel X ρ (μ.set i (a, [a])) env ⟨σ.loc, σ.heap.set i (.lst ds)⟩ h ∧ (∀ b, okOf ([a] ++ ρ) μ b → okOf ρ (μ.set i (a, [a])) b) ∧ (∀ b, b ∈ foot (μ.set i (a, [a])) → b ∈ foot μ ∨ b = a) := by
  have haμ : a ∉ foot μ := R.dis a (by simp)
  obtain ⟨fs, fn⟩ := foot_set a [a] hp R.nod (by simp) (fun b hb => by simp at hb; subst hb; exact .inr haμ)
  have hfs : ∀ b, b ∈ foot (μ.set i (a, [a])) ↔ b ∈ foot μ ∨ b = a := fun b => by rw [fs]; simp
  have hrt : ∀ j, root (μ.set i (a, [a])) j = root μ j := root_set hp [a]
  have hok : ∀ b, okOf ([a] ++ ρ) μ b → okOf ρ (μ.set i (a, [a])) b := fun b q => ⟨fun hm => q.1 (List.mem_append_right _ hm), fun hm => by
    rcases (hfs b).mp hm with hm | hm
    · exact q.2 hm
    · subst hm; exact q.1 (by simp)⟩
  have kok : ∀ b ob, okOf ([a] ++ ρ) μ b → h.get? b = some ob → h.get? b = some ob ∧ okOf ρ (μ.set i (a, [a])) b := fun b ob q e => ⟨e, hok b q⟩
  have hpr : ∀ j b, root μ j = some b → root (μ.set i (a, [a])) j = some b := fun j b e => by rw [hrt]; exact e
  refine ⟨⟨R.base, fun b hb => R.freshR b (List.mem_append_right _ hb), fun b hb => ?_, fun b hb => R.liveR b (List.mem_append_right _ hb), fun b hb => ?_, fn, fun b hb hm => ?_, ho, R.above, ?_, by simp [R.len], fun j k b h1 h2 => R.inj j k b (by rw [← hrt]; exact h1) (by rw [← hrt]; exact h2), ?_, ?_⟩, hok, fun b hb => (hfs b).mp hb⟩
  · rcases (hfs b).mp hb with hb | hb
    · exact R.freshM b hb
    · subst hb; exact R.freshR b (by simp)
  · rcases (hfs b).mp hb with hb | hb
    · exact R.liveM b hb
    · subst hb; exact R.liveR b (by simp)
  · rcases (hfs b).mp hm with hm | hm
    · exact R.dis b (List.mem_append_right _ hb) hm
    · subst hm; exact ha hb
  · obtain ⟨m, cm, F, l⟩ := R.frame
    refine ⟨m, cm, F, fun x v e => ?_⟩
    obtain ⟨val, h1, h2⟩ := l x v e
    exact ⟨val, h1, h2.mono hpr kok⟩
  · intro j o e
    rw [List.getElem?_set] at e
    split at e
    · rename_i hij
      subst hij
      split at e
      · cases e
        refine ⟨(a, [a]), ?_, vs, m, rfl, hL, DRs.mono kok hd⟩
        rw [List.getElem?_set_self (List.getElem?_eq_some_iff.mp hp).1]
      · cases e
    · rename_i hij
      obtain ⟨p, h1, h2⟩ := R.objs j o e
      refine ⟨p, by rw [List.getElem?_set_ne hij]; exact h1, h2.mono hpr kok fun _ _ _ e => e⟩
  · intro j es e b hb
    rw [List.getElem?_set] at e
    rw [hrt] at hb
    split at e
    · split at e
      · cases e
      · cases e
    · rename_i hij
      rcases List.mem_append.mp (R.frz j es e b hb) with hm | hm
      · simp at hm; subst hm
        exact absurd (R.inj i j b (by rw [root_some hp]) hb) hij
      · exact hm

/-- from the laid-by world back -/
theorem thaw_core (R : Rel X ρ μ env σ s.heap) {i : Nat} {ds : List PyData} (hi : σ.heap[i]? = some (.lst ds)) {a : Addr} (hp : μ[i]? = some (a, [a])) {μ₁ : Mu} {s' : Shared} {σ' : St}
    (st : Step (wrt env) (μ.set i (a, [])) μ₁ s s') {ρ' : List Addr} (hρ : ∀ b ∈ ρ', b ∈ ρ ∨ s.heap.get? b = none) (hoρ : ∀ b ∈ own env, b ∈ ρ') (R' : Rel X ([a] ++ ρ') μ₁ env σ' s'.heap) :
    ∃ μ₂, Step (wrt env) μ μ₂ s s' ∧ Rel X ρ' μ₂ env ⟨σ'.loc, σ'.heap.set i (.lst ds)⟩ s'.heap ∧ (∀ b, okOf ([a] ++ ρ') μ₁ b → okOf ρ' μ₂ b) ∧ (∀ j b, root μ₁ j = some b → root μ₂ j = some b) := by
  have ham : a ∈ foot μ := foot_get hp (by simp)
  have haρ : a ∉ ρ := fun hm => R.dis a hm ham
  obtain ⟨p, h1, vs, m, h2, h3, h4⟩ := R.objs i _ hi
  rw [hp] at h1; cases h1
  have haρ' : a ∉ ρ' := fun hm => by
    rcases hρ a hm with hm | hm
    · exact haρ hm
    · have h3' : s.heap.get? a = _ := h3
      rw [hm] at h3'; cases h3'
  obtain ⟨fs, fn⟩ := foot_set a [] hp R.nod (by simp) (by simp)
  have hfs : ∀ b, b ∈ foot (μ.set i (a, [])) ↔ b ∈ foot μ ∧ b ≠ a := fun b => by rw [fs]; simp
  have hlt : i < μ.length := (List.getElem?_eq_some_iff.mp hp).1
  have hao : a ∉ own env := R.frzOff h3
  have hp1 : μ₁[i]? = some (a, []) := by
    obtain ⟨r, hr⟩ := st.pre
    rw [← hr, List.getElem?_append_left (by simpa using hlt), List.getElem?_set_self hlt]
  have hL : s'.heap.get? a = some { cls := .type "list", data := .seq vs m } := st.keep a _ h3 (fun hm => ((hfs a).mp hm).2 rfl) (fun hm => hao (wrt_own hm))
  have hd : DRs s'.heap (okOf ([a] ++ ρ') μ₁) ds vs.toList := DRs.mono (fun b o q e => by
    have q0 : b ∉ [a] ++ ρ' := fun hm => by
      rcases List.mem_append.mp hm with hm | hm
      · simp at hm; subst hm; exact q.2 ham
      · rcases hρ b hm with hm | hm
        · exact q.1 hm
        · rw [e] at hm; cases hm
    have q1 : okOf ([a] ++ ρ') (μ.set i (a, [])) b := ⟨q0, fun hm => q.2 ((hfs b).mp hm).1⟩
    exact st.ok (ρ := [a] ++ ρ') (fun x hx => List.mem_append_right _ (hoρ x (wrt_own hx))) b o q1 e) h4
  obtain ⟨RR, hok, hft⟩ := R'.thaw hp1 haρ' hoρ hL hd
  refine ⟨_, ⟨st.same, fun b o e hm ho => st.keep b o e (fun hm' => hm ((hfs b).mp hm').1) ho, st.live, ?_, fun b hb => ?_⟩, RR, hok, fun j b e => by rw [root_set hp1]; exact e⟩
  · obtain ⟨r, hr⟩ := st.pre
    refine ⟨r, ?_⟩
    rw [← hr, List.set_append_left _ _ (by simpa using hlt), List.set_set]
    congr 1
    apply List.ext_getElem?
    intro j
    rw [List.getElem?_set]
    split
    · rename_i hij
      subst hij
      first | (rw [if_pos hlt, hp]) | exact hp | (simp [hlt, hp])
    · rfl
  · rcases hft b hb with hm | hm
    · rcases st.new b hm with h | h
      · exact .inl ((hfs b).mp h).1
      · exact .inr h
    · subst hm; exact .inl ham


/-! what may be walked over -/
theorem Itr_list {ax : Addr} {vs : Array Value} {ds : List PyData} {k : Nat} (ga : Ga k A) (hL : s.heap.IsList ax vs) (hds : DRs s.heap (okOf ρ μ) ds vs.toList) (h1 : ax ∉ foot μ) (h2 : ax ∉ own env) :
    Itr X A (own env) μ s.heap (okOf ρ μ) s.heap.objs.size (ds.map .dat) (s.heap.push { cls := .type "list_iterator", data := .fields #[.ref ax, .int 0 0] }) := by
  have ln := hds.length
  rw [Array.length_toList] at ln
  have hne : ax ≠ s.heap.objs.size := by obtain ⟨o, ho, _⟩ := hL; exact Nat.ne_of_lt (Heap.lt_size ho)
  have hW := Walks.list (prog := X.prog) (w := X.w) ga.handled s.heap.objs.size ax hne vs
  rw [ln] at hW
  refine Itr.dat (fresh_size _) (fun _ _ e => Heap.get?_push_of_some _ e) ⟨_, _, _, hW, by simp, fun b hb hbI => ?_, ⟨⟨_, Heap.get?_push_size _ rfl, rfl, rfl⟩, hL.at fun o e => Heap.get?_push_of_some _ e⟩, fun i v hi hv => ?_, fun i h st => ?_⟩
  · simp at hb
    rcases hb with rfl | rfl
    · exact absurd rfl hbI
    · exact ⟨h1, h2, by obtain ⟨o, ho, _⟩ := hL; exact ⟨o, ho⟩⟩
  · obtain ⟨d, hd, hr⟩ := hds.getV (k := i) (v := v) (by rw [Array.getElem?_toList]; exact hv)
    exact ⟨d, hd, hr⟩
  · obtain ⟨o, g1, g2, g3⟩ := st.1
    exact ⟨o, _, _, g1, g2, g3, by decide⟩

theorem Itr_tuple {ax : Addr} {vs : Array Value} {ds : List PyData} {k : Nat} (ga : Ga k A) (hL : s.heap.IsTuple ax vs) (hds : DRs s.heap (okOf ρ μ) ds vs.toList) (h1 : ax ∉ foot μ) (h2 : ax ∉ own env) :
    Itr X A (own env) μ s.heap (okOf ρ μ) s.heap.objs.size (ds.map .dat) (s.heap.push { cls := .type "tuple_iterator", data := .fields #[.ref ax, .int 0 0] }) := by
  have ln := hds.length
  rw [Array.length_toList] at ln
  have hne : ax ≠ s.heap.objs.size := by obtain ⟨o, ho, _⟩ := hL; exact Nat.ne_of_lt (Heap.lt_size ho)
  have hW := Walks.tuple (prog := X.prog) (w := X.w) ga.handled s.heap.objs.size ax hne vs
  rw [ln] at hW
  refine Itr.dat (fresh_size _) (fun _ _ e => Heap.get?_push_of_some _ e) ⟨_, _, _, hW, by simp, fun b hb hbI => ?_, ⟨⟨_, Heap.get?_push_size _ rfl, rfl, rfl⟩, by obtain ⟨o, ho, r⟩ := hL; exact ⟨o, Heap.get?_push_of_some _ ho, r⟩⟩, fun i v hi hv => ?_, fun i h st => ?_⟩
  · simp at hb
    rcases hb with rfl | rfl
    · exact absurd rfl hbI
    · exact ⟨h1, h2, by obtain ⟨o, ho, _⟩ := hL; exact ⟨o, ho⟩⟩
  · obtain ⟨d, hd, hr⟩ := hds.getV (k := i) (v := v) (by rw [Array.getElem?_toList]; exact hv)
    exact ⟨d, hd, hr⟩
  · obtain ⟨o, g1, g2, g3⟩ := st.1
    exact ⟨o, _, _, g1, g2, g3, by decide⟩

theorem asc128 {x : Str} (ha : asc x = true) : x.cps.all (· < 128) = true := by
  rw [← Array.all_toList, List.all_eq_true]
  intro c hc
  have := asc_lt ha c hc
  exact decide_eq_true (by omega)

theorem Itr_str {x : Str} {t : Tok} {k : Nat} (ga : Ga k A) (ha : asc x = true) :
    Itr X A (own env) μ s.heap (okOf ρ μ) s.heap.objs.size ((chars x).map .dat) (s.heap.push { cls := .type "str_ascii_iterator", data := .fields #[.str x t, .int 0 0] }) := by
  have hW := Walks.strAscii (prog := X.prog) (w := X.w) ga.handled s.heap.objs.size x t
  have hlen : x.cps.size = (chars x).length := by simp [chars]
  rw [hlen] at hW
  refine Itr.dat (fresh_size _) (fun _ _ e => Heap.get?_push_of_some _ e) ⟨_, _, _, hW, by simp, fun b hb hbI => ?_, ⟨_, Heap.get?_push_size _ rfl, rfl, rfl⟩, fun i v hi hv => ?_, fun i h st => ?_⟩
  · simp at hb; exact absurd hb hbI
  · obtain ⟨c, u, h1, rfl⟩ := hv
    refine ⟨.str ⟨#[c]⟩, ?_, ?_⟩
    · unfold chars
      rw [List.getElem?_map, Array.getElem?_toList, h1]; rfl
    · simp only [DR]
      refine ⟨?_, u, rfl⟩
      unfold asc at ha ⊢
      rw [List.all_eq_true] at ha
      simp only [List.all_cons, List.all_nil, Bool.and_true]
      exact ha c (mem_of_at h1)
  · obtain ⟨o, g1, g2, g3⟩ := st
    exact ⟨o, _, _, g1, g2, g3, by decide⟩

theorem Itr_range {lo hi : Int} {k : Nat} (ga : Ga k A) :
    Itr X A (own env) μ s.heap (okOf ρ μ) s.heap.objs.size ((intsD lo hi).map .dat) (s.heap.push { cls := .type "range_iterator", data := .fields #[rawInt lo, rawInt (Builtin.Range.rangeSize lo hi 1), rawInt 1] }) := by
  have hW := Walks.range (prog := X.prog) (w := X.w) ga.handled s.heap.objs.size lo 1 (intsD lo hi).length
  refine Itr.dat (fresh_size _) (fun _ _ e => Heap.get?_push_of_some _ e) ⟨_, _, _, hW, by simp, fun b hb hbI => ?_, ?_, fun i v hi hv => ?_, fun i h st => ?_⟩
  · simp at hb; exact absurd hb hbI
  · have : (s.heap.push { cls := .type "range_iterator", data := .fields #[rawInt lo, rawInt (Builtin.Range.rangeSize lo hi 1), rawInt 1] }).get? s.heap.objs.size = _ := Heap.get?_push_size _ rfl
    show IsRangeIter _ _ _ _ _
    unfold IsRangeIter
    rw [this, rangeSize_eq, intsD_length]
    simp
  · obtain ⟨t, rfl⟩ := hv
    refine ⟨.int (lo + i), ?_, by simp only [DR]; exact ⟨t, by simp⟩⟩
    rw [intsD_length] at hi
    unfold intsD
    rw [List.getElem?_map, List.getElem?_range hi]; rfl
  · exact ⟨_, _, _, st, rfl, rfl, by decide⟩


theorem Walk_any {α β : Type} {v : V} {x : Value} {m : List V → M β} {k : Nat} (ga : Ga k A) (T : Value → (α → Shared → Prop) → Shared → Prop) (hT : ∀ it Q Q' s', (∀ y s'', Q y s'' → Q' y s'') → T it Q s' → T it Q' s')
    (G : List Addr → Mu → β → St → α → Shared → Prop)
    (hG : ∀ {ρ : List Addr} {μ : Mu} {σ : St} {i : Nat} {ds : List PyData} {a : Addr}, Rel X ρ μ env σ s.heap → σ.heap[i]? = some (.lst ds) → μ[i]? = some (a, [a]) → ∀ r σ' y s', G ([a] ++ ρ) (μ.set i (a, [])) r σ' y s' → G ρ μ r ⟨σ'.loc, σ'.heap.set i (.lst ds)⟩ y s')
    (hm : ∀ {ρ : List Addr} {μ : Mu} {σ : St}, Rel X ρ μ env σ s.heap → ∀ I ds h₁ tk, Itr X A (own env) μ s.heap (okOf ρ μ) I ds h₁ → ∀ r σ', m ds σ = some (r, σ') → T (.ref I) (G ρ μ r σ') { s with heap := h₁, toks := tk })
    (R : Rel X ρ μ env σ s.heap) (hv : VR s.heap (okOf ρ μ) μ v x) {r : β} {σ' : St} (e : walkV m v σ = some (r, σ')) :
    wpAny (model X.prog X.w) A (pyIter x) (fun it s₂ => T it (G ρ μ r σ') s₂) (fun _ _ => False) s := by
  cases v with
  | dat d =>
    simp only [walkV] at e
    cases hd : itemsD d with
    | some ds =>
      rw [hd] at e
      unfold itemsD at hd
      split at hd
      · cases hd
        simp only [VR, DR] at hv
        obtain ⟨a, o, vs, nn, rfl, ok, h2, h3, h4, h5⟩ := hv
        have hL : s.heap.IsList a vs := ⟨o, h2, h3, nn, h4⟩
        refine wpAny_pyIter_list hL ?_
        exact hm R _ _ _ s.toks (Itr_list ga hL h5 ok.2 (fun hm => ok.1 (R.own _ hm))) r σ' e
      · cases hd
        simp only [VR, DR] at hv
        obtain ⟨a, o, vs, nn, rfl, ok, h2, h3, h4, h5⟩ := hv
        have hL : s.heap.IsTuple a vs := ⟨o, h2, h3, nn, h4⟩
        refine wpAny_pyIter_tuple hL ?_
        exact hm R _ _ _ s.toks (Itr_tuple ga hL h5 ok.2 (fun hm => ok.1 (R.own _ hm))) r σ' e
      · cases hd
        simp only [VR, DR] at hv
        obtain ⟨ha, t, rfl⟩ := hv
        refine wpAny_pyIter_ascii (asc128 ha) ?_
        exact hm R _ _ _ s.toks (Itr_str ga ha) r σ' e
      · cases hd
    | none => rw [hd] at e; cases e
  | rng lo hi =>
    simp only [walkV] at e
    split at e
    · rename_i hs
      obtain ⟨a, t, u, w, rfl, ok, hr⟩ := hv
      refine wpAny_pyIter_range hr (small_range hs).1 ?_
      exact hm R _ _ _ s.toks (Itr_range ga) r σ' e
    · cases e
  | emp => cases e
  | obj i =>
    simp only [walkV, frozenG] at e
    split at e
    · rename_i ds hi
      split at e
      · cases e
      · rename_i f σ2 h2
        cases e
        obtain ⟨p, g1, vs, mm, g2, g3, g4⟩ := R.objs i _ hi
        obtain ⟨a, h1, rfl⟩ := hv
        rw [root_some g1] at h1; cases h1
        have g1' : μ[i]? = some (p.1, [p.1]) := by rw [g1, ← g2]
        have Rf := R.freeze hi g1'
        obtain ⟨q, k1, ws, mm2, k2, k3, k4⟩ := Rf.objs i (.frz ds) (by rw [List.getElem?_set_self (List.getElem?_eq_some_iff.mp hi).1])
        have k1' : (μ.set i (p.1, []))[i]? = some (p.1, []) := by rw [List.getElem?_set_self (List.getElem?_eq_some_iff.mp g1).1]
        rw [k1'] at k1; cases k1
        have hL : s.heap.IsList p.1 ws := ⟨_, k3, rfl, mm2, rfl⟩
        refine wpAny_pyIter_list hL ?_
        refine hT _ _ _ _ (fun y s'' z => hG R hi g1' _ _ _ _ z) (hm Rf _ _ _ s.toks (Itr_list ga hL k4 (Rf.dis _ (by simp)) (Rf.frzOff k3)) _ _ h2)
    · rename_i ds hi
      obtain ⟨p, g1, vs, mm, g2, g3, g4⟩ := R.objs i _ hi
      obtain ⟨a, h1, rfl⟩ := hv
      rw [root_some g1] at h1; cases h1
      have hL : s.heap.IsList p.1 vs := ⟨_, g3, rfl, mm, rfl⟩
      refine wpAny_pyIter_list hL ?_
      exact hm R _ _ _ s.toks (Itr_list ga hL g4 (R.dis _ (R.frz i ds hi _ (root_some g1))) (R.frzOff g3)) _ _ e
    · cases e

/-- for -/
theorem Ex_For {tgt it : Expr} {body : List Stmt} {pos : Pos} {bind : V → M Unit} {mb : M Fl} {mi : M V} (hi : Ev X n env it mi) (hb : As X n env tgt bind) (hB : Exs X n env body mb) (hset : ∀ x, foldedSetIterable it env x = pure x) :
    Ex X n env (.For tgt it body [] pos) (do let v ← mi; forV bind mb v) := by
  intro A ρ μ σ s ga R f σ' e
  refine mbind_elim e fun v σ1 e1 q => ?_
  refine wpAny_For (wpAny_mono (hi A ρ μ σ s ga R v σ1 e1) (fun x s1 z => ?_) fun _ _ z => z) hset
  first | refine post_elim z fun μ1 st1 R1 v1 => ?_ | obtain ⟨μ1, st1, R1, v1⟩ := z
  refine wpAny_mono (Walk_any (α := Flow) ga (fun it Q s' => codeAny (model X.prog X.w) A (.forLoop tgt it body [] env) (fun r s'' => match r with | .ok x => Q x s'' | .error _ => False) s') (fun it Q Q' s' hq z => codeAny_mono z fun r s'' y => ?_)
    (fun ρ μ r σ' => Post X ρ μ env s1 FlR r σ') (fun R hi hp r σ' y s' z => ?_) (fun R I ds h₁ tk itr r σ' e => For_loop hb hB ga R itr e) R1 v1 q) (fun it s2 z => codeAny_mono z fun r s'' y => ?_) fun _ _ z => z
  · cases r with
    | ok x => exact hq _ _ y
    | error x => exact y
  · first | refine post_elim z fun μ2 st2 R2 v2 => ?_ | obtain ⟨μ2, st2, R2, v2⟩ := z
    obtain ⟨μ3, st3, R3, hok, hrt⟩ := thaw_core R hi hp st2 (fun _ h => .inl h) R.own R2
    refine ⟨μ3, st3, R3, ?_⟩
    cases r with
    | ret w => obtain ⟨y', h1, h2⟩ := v2; exact ⟨y', h1, h2.mono hrt fun a o q e => ⟨e, hok a q⟩⟩
    | _ => exact v2
  · cases r with
    | ok x =>
      obtain ⟨μ2, st2, R2, v2⟩ := y
      exact ⟨μ2, st1.trans st2, R2, v2⟩
    | error x => exact y.elim

end
end Mine
end

section
open PySem
set_option Elab.async false
set_option maxRecDepth 10000
namespace Mine

section
variable {X : Cx} {n : Nat} {env : Env} {P : Prm} {A : Around} {ρ : List Addr} {μ μ' : Mu} {σ : St} {s : Shared} {h h' : Heap}

/-- a list just made, still reserved -/
noncomputable def FreshR (X : Cx) (ρ : List Addr) (μ : Mu) (env : Env) (s : Shared) (ds : List PyData) (σ' : St) : Value → Shared → Prop := fun x s' =>
  ∃ a vs m, x = .ref a ∧ s.heap.get? a = none ∧ Step (wrt env) μ μ s s' ∧ Rel X ([a] ++ ρ) μ env σ' s'.heap ∧ s'.heap.get? a = some { cls := .type "list", data := .seq vs m } ∧ DRs s'.heap (okOf ([a] ++ ρ) μ) ds vs.toList

theorem Rel.noRoot (R : Rel X ρ μ env σ h) {wr : List Addr} (hf : ∀ a ∈ wr, h.get? a = none) : ∀ a ∈ wr, ∀ j, root μ j ≠ some a := fun a ha j hj => by
  obtain ⟨o, e⟩ := R.rootLive hj
  rw [hf a ha] at e; cases e
theorem Rel.notIn (R : Rel X ρ μ env σ h) {a : Addr} (hf : h.get? a = none) : a ∉ ρ ∧ a ∉ foot μ := R.okNew hf

theorem FreshR.dat' {ρ' : List Addr} (R : Rel X ρ μ env σ s.heap) {ds : List PyData} {σ' : St} {x : Value} {s' : Shared} (ho : ∀ b ∈ own env, b ∈ ρ') (hρ : ∀ b ∈ ρ', b ∈ ρ ∨ ∀ vs m, s'.heap.get? b ≠ some { cls := .type "list", data := .seq vs m })
    (f : FreshR X ρ' μ env s ds σ' x s') : Post X ρ' μ env s VRr (.dat (.list ds)) σ' x s' := by
  obtain ⟨a, vs, m, rfl, hf, st, R', hL, hd⟩ := f
  have hfs : ∀ b ∈ [a], s.heap.get? b = none := fun b hb => by simp at hb; subst hb; exact hf
  have ha : a ∉ ρ' := fun hm => by
    rcases hρ a hm with h | h
    · exact (R.notIn hf).1 h
    · exact h vs m hL
  refine ⟨μ, st, R'.leave ho (fun b hb => by simp at hb; subst hb; exact ha) (R.noRoot hfs) fun _ _ _ e => e, ?_⟩
  show DR _ _ _ _
  simp only [DR]
  exact ⟨a, _, vs, m, rfl, ⟨ha, (R.notIn hf).2⟩, hL, rfl, rfl, DRs.mono (fun b o q e => ⟨e, fun hm => q.1 (List.mem_append_right _ hm), q.2⟩) hd⟩
theorem FreshR.dat (R : Rel X ρ μ env σ s.heap) {ds : List PyData} {σ' : St} {x : Value} {s' : Shared} (f : FreshR X ρ μ env s ds σ' x s') : Post X ρ μ env s VRr (.dat (.list ds)) σ' x s' :=
  FreshR.dat' R R.own (fun _ h => .inl h) f

/-- a reserved list becomes an object -/
theorem Rel.adopt {a : Addr} {ds : List PyData} {vs : Array Value} {m : Nat} (R : Rel X ([a] ++ ρ) μ env σ h) (ha : a ∉ ρ) (ho : ∀ b ∈ Mine.own env, b ∈ ρ) (hr : ∀ j, root μ j ≠ some a) (hL : h.get? a = some { cls := .type "list", data := .seq vs m })
    (hd : DRs h (okOf ([a] ++ ρ) μ) ds vs.toList) : Rel X ρ (μ ++ [(a, [a])]) env ⟨σ.loc, σ.heap ++ [.lst ds]⟩ h := by
  have hfl : ∀ b, b ∈ foot (μ ++ [(a, [a])]) ↔ b ∈ foot μ ∨ b = a := fun b => by rw [foot_append, List.mem_append]; simp [foot]
  have haμ : a ∉ foot μ := R.dis a (by simp)
  have hok : ∀ b o, okOf ([a] ++ ρ) μ b → h.get? b = some o → h.get? b = some o ∧ okOf ρ (μ ++ [(a, [a])]) b := fun b o q e => ⟨e, fun hm => q.1 (List.mem_append_right _ hm), fun hm => by
    rcases (hfl b).mp hm with hm | hm
    · exact q.2 hm
    · subst hm; exact q.1 (by simp)⟩
  have hpre : ∀ i b, root μ i = some b → root (μ ++ [(a, [a])]) i = some b := fun i b => root_prefix (List.prefix_append _ _)
  have hcase : ∀ j b, root (μ ++ [(a, [a])]) j = some b → root μ j = some b ∨ (j = μ.length ∧ b = a) := fun j b hj => by
    unfold root at hj ⊢
    rw [List.getElem?_append] at hj
    split at hj
    · exact .inl hj
    · right
      have hj' : j = μ.length := by
        obtain ⟨p, h1, _⟩ := Option.map_eq_some_iff.mp hj
        have := (List.getElem?_eq_some_iff.mp h1).1
        simp at this; omega
      subst hj'
      simp at hj
      exact ⟨rfl, hj.symm⟩
  refine ⟨R.base, fun b hb => R.freshR b (List.mem_append_right _ hb), fun b hb => ?_, fun b hb => R.liveR b (List.mem_append_right _ hb), fun b hb => ?_, ?_, fun b hb hm => ?_, ho, R.above, ?_, by simp [R.len], fun i j b hi hj => ?_, fun i o e => ?_, fun i es e b hb => ?_⟩
  · rcases (hfl b).mp hb with hb | hb
    · exact R.freshM b hb
    · subst hb; exact R.freshR b (by simp)
  · rcases (hfl b).mp hb with hb | hb
    · exact R.liveM b hb
    · subst hb; exact R.liveR b (by simp)
  · rw [foot_append, List.nodup_append]
    refine ⟨R.nod, by simp [foot], fun x hx y hy => ?_⟩
    simp [foot] at hy
    rintro rfl; subst hy
    exact haμ hx
  · rcases (hfl b).mp hm with hm | hm
    · exact R.dis b (List.mem_append_right _ hb) hm
    · subst hm; exact ha hb
  · obtain ⟨m, cm, F, l⟩ := R.frame
    refine ⟨m, cm, F, fun x v e => ?_⟩
    obtain ⟨val, h1, h2⟩ := l x v e
    exact ⟨val, h1, h2.mono hpre hok⟩
  · rcases hcase i b hi with h1 | ⟨h1, h2⟩ <;> rcases hcase j b hj with h3 | ⟨h3, h4⟩
    · exact R.inj i j b h1 h3
    · subst h4; exact (hr i h1).elim
    · subst h2; exact (hr j h3).elim
    · rw [h1, h3]
  · rw [List.getElem?_append] at e
    split at e
    · rename_i hi
      obtain ⟨p, h1, h2⟩ := R.objs i o e
      exact ⟨p, by rw [List.getElem?_append_left (by rw [R.len]; exact hi)]; exact h1, h2.mono hpre hok fun b _ ob q => q⟩
    · rename_i hi
      have hi' : i = σ.heap.length := by
        have := (List.getElem?_eq_some_iff.mp e).1
        simp at this; omega
      subst hi'
      simp at e; subst e
      refine ⟨(a, [a]), ?_, vs, m, rfl, hL, DRs.mono hok hd⟩
      rw [← R.len, List.getElem?_append_right (Nat.le_refl _)]; simp
  · rw [List.getElem?_append] at e
    split at e
    · rename_i hi
      have hb' : root μ i = some b := by
        unfold root at hb ⊢
        rwa [List.getElem?_append_left (by rw [R.len]; exact hi)] at hb
      rcases List.mem_append.mp (R.frz i es e b hb') with hm | hm
      · simp at hm; subst hm; exact absurd hb' (hr i)
      · exact hm
    · rename_i hi
      have hi' : i = σ.heap.length := by
        have := (List.getElem?_eq_some_iff.mp e).1
        simp at this; omega
      subst hi'
      simp at e

theorem FreshR.obj' {ρ' : List Addr} (R : Rel X ρ μ env σ s.heap) {ds : List PyData} {σ' : St} {x : Value} {s' : Shared} (ho : ∀ b ∈ own env, b ∈ ρ') (hρ : ∀ b ∈ ρ', b ∈ ρ ∨ ∀ vs m, s'.heap.get? b ≠ some { cls := .type "list", data := .seq vs m })
    (f : FreshR X ρ' μ env s ds σ' x s') : Post X ρ' μ env s VRr (.obj σ'.heap.length) ⟨σ'.loc, σ'.heap ++ [.lst ds]⟩ x s' := by
  obtain ⟨a, vs, m, rfl, hf, st, R', hL, hd⟩ := f
  have hfs : ∀ b ∈ [a], s.heap.get? b = none := fun b hb => by simp at hb; subst hb; exact hf
  have ha : a ∉ ρ' := fun hm => by
    rcases hρ a hm with h | h
    · exact (R.notIn hf).1 h
    · exact h vs m hL
  refine ⟨μ ++ [(a, [a])], ⟨st.same, st.keep, st.live, List.prefix_append _ _, fun b hb => ?_⟩, R'.adopt ha ho (fun j => R.noRoot hfs a (by simp) j) hL hd, ?_⟩
  · rw [foot_append, List.mem_append] at hb
    rcases hb with hb | hb
    · exact .inl hb
    · simp [foot] at hb; subst hb; exact .inr hf
  · exact ⟨a, by rw [← R'.len]; exact root_last, rfl⟩
/-! the frame of a comprehension -/
noncomputable def clsC (cells : List (Str × Addr)) : List (Str × NameKind) → List (Str × Addr) → List (Str × Addr)
  | [], acc => acc
  | (n, k) :: r, acc => if k == .free then clsC cells r ((n, (cells.lookup n).getD 0) :: acc) else clsC cells r acc

noncomputable def compOk (env : Env) (sc : Scope) : Bool := sc.kind == .function && sc.names.all (fun p => p.2 != .cell && (p.2 != .local || sc.names.lookup p.1 == some .local) &&
  (p.2 != .free || (sc.names.lookup p.1 == some .free && env.kindOf p.1 == some .cell && (env.cells.lookup p.1).isSome))) && decide ((sc.names.map (·.1)).Nodup)

theorem closure_go {env : Env} : ∀ {names : List (Str × NameKind)} {acc : List (Str × Addr)}, (∀ p ∈ names, p.2 = .free → (env.cells.lookup p.1).isSome = true) →
    (forIn names acc fun x r => if x.2 == .free then cellOf env x.1 >>= fun c => pure (ForInStep.yield ((x.1, c) :: r)) else pure (ForInStep.yield r) : Sem (List (Str × Addr))) = pure (clsC env.cells names acc)
  | [], acc, _ => rfl
  | (nm, k) :: r, acc, hk => by
    rw [List.forIn_cons]
    unfold clsC
    cases hf : (k == NameKind.free) with
    | true =>
      simp only [hf, if_true]
      obtain ⟨c, hc⟩ := Option.isSome_iff_exists.mp (hk (nm, k) (.head _) (by simpa using hf))
      have e1 : cellOf env nm = pure c := by unfold cellOf; rw [hc]
      rw [e1]
      simp only [pure_bind]
      rw [closure_go fun p hp => hk p (.tail _ hp), hc]; rfl
    | false =>
      simp only [hf, Bool.false_eq_true, if_false, pure_bind]
      exact closure_go fun p hp => hk p (.tail _ hp)

theorem closure_eq {env : Env} {sc : Scope} (hk : ∀ p ∈ sc.names, p.2 = .free → (env.cells.lookup p.1).isSome = true) : closureFor sc env = pure (clsC env.cells sc.names []) := by
  have e := closure_go (acc := []) hk
  unfold closureFor
  simp only [bind_pure]
  exact e


theorem clsC_mem {cells : List (Str × Addr)} : ∀ {names : List (Str × NameKind)} {acc : List (Str × Addr)} {p : Str × Addr}, p ∈ clsC cells names acc → p ∈ acc ∨ ((p.1, NameKind.free) ∈ names ∧ p.2 = (cells.lookup p.1).getD 0)
  | [], _, _, h => .inl h
  | (nm, k) :: r, acc, p, h => by
    unfold clsC at h
    split at h
    · rename_i hk
      rcases clsC_mem h with h | ⟨h1, h2⟩
      · rcases List.mem_cons.mp h with rfl | h
        · have hk' : k = .free := by simpa using hk
          subst hk'
          exact .inr ⟨.head _, rfl⟩
        · exact .inl h
      · exact .inr ⟨.tail _ h1, h2⟩
    · rcases clsC_mem h with h | ⟨h1, h2⟩
      · exact .inl h
      · exact .inr ⟨.tail _ h1, h2⟩

theorem clsC_keys {cells : List (Str × Addr)} : ∀ {names : List (Str × NameKind)} {acc : List (Str × Addr)}, (clsC cells names acc).map (·.1) = ((names.filter (·.2 == .free)).map (·.1)).reverse ++ acc.map (·.1)
  | [], _ => rfl
  | (nm, k) :: r, acc => by
    unfold clsC
    cases hk : (k == NameKind.free) with
    | true => simp only [hk, if_true, List.filter_cons, List.map_cons, List.reverse_cons]; rw [clsC_keys]; simp
    | false => simp only [hk, Bool.false_eq_true, if_false, List.filter_cons]; exact clsC_keys

theorem lookup_isSome {l : List (Str × Addr)} {x : Str} (h : x ∈ l.map (·.1)) : (l.lookup x).isSome = true := by
  induction l with
  | nil => simp at h
  | cons p l ih =>
    rw [List.lookup_cons]
    cases q : (x == p.1) with
    | true => rfl
    | false =>
      rw [List.map_cons] at h
      rcases List.mem_cons.mp h with rfl | h
      · simp at q
      · exact ih h

theorem lookup_relabel_free {env : Env} (hk : env.scope.kind = .function) : ∀ {names : List (Str × NameKind)} {x : Str}, names.lookup x = some .free → env.kindOf x = some .cell →
    (names.map fun (n, k) => if (k == NameKind.free && env.scope.kind == .function && env.kindOf n == some .cell) then (n, NameKind.cell) else (n, k)).lookup x = some .cell
  | [], _, h, _ => by simp at h
  | (nm, k) :: r, x, h, hc => by
    have ih := @lookup_relabel_free env hk r x
    show List.lookup x ((if (k == NameKind.free && env.scope.kind == .function && env.kindOf nm == some .cell) = true then (nm, NameKind.cell) else (nm, k)) :: _) = _
    cases hx : x == nm with
    | true =>
      have hxe : x = nm := by simpa using hx
      subst hxe
      simp only [List.lookup_cons, hx] at h
      cases h
      rw [if_pos (by rw [hk, hc]; rfl)]
      simp [List.lookup_cons]
    | false =>
      simp only [List.lookup_cons, hx] at h
      by_cases hcc : (k == NameKind.free && env.scope.kind == .function && env.kindOf nm == some .cell) = true
      · rw [if_pos hcc]; simp only [List.lookup_cons, hx]; exact ih h hc
      · rw [if_neg hcc]; simp only [List.lookup_cons, hx]; exact ih h hc

noncomputable def cenvOf (sc : Scope) (C : Addr) (env : Env) : Env := compEnvC sc (clsC env.cells sc.names []) C env

theorem compOk_parts {env : Env} {sc : Scope} (h : compOk env sc = true) : sc.kind = .function ∧ (∀ p ∈ sc.names, p.2 ≠ .cell) ∧ (∀ p ∈ sc.names, p.2 = .local → sc.names.lookup p.1 = some .local) ∧
    (∀ p ∈ sc.names, p.2 = .free → sc.names.lookup p.1 = some .free ∧ env.kindOf p.1 = some .cell ∧ (env.cells.lookup p.1).isSome = true) ∧ (sc.names.map (·.1)).Nodup := by
  unfold compOk at h
  simp only [Bool.and_eq_true, beq_iff_eq, decide_eq_true_eq, List.all_eq_true] at h
  obtain ⟨⟨h1, h2⟩, h3⟩ := h
  refine ⟨h1, fun p hp => ?_, fun p hp hl => ?_, fun p hp hl => ?_, h3⟩
  · have := (h2 p hp).1.1; simpa using this
  · have := (h2 p hp).1.2
    rw [hl] at this
    simpa using this
  · have := (h2 p hp).2
    rw [hl] at this
    rw [Bool.or_eq_true] at this
    rcases this with q | q
    · exact absurd q (by decide)
    · simp only [Bool.and_eq_true, beq_iff_eq] at q
      exact ⟨q.1.1, q.1.2, q.2⟩

theorem cl_in {env : Env} {sc : Scope} (h : compOk env sc = true) {nm : Str} {c : Addr} (hm : (nm, c) ∈ clsC env.cells sc.names []) : env.cells.lookup nm = some c ∧ sc.names.lookup nm = some .free := by
  rcases clsC_mem hm with h1 | ⟨h1, h2⟩
  · cases h1
  · obtain ⟨_, _, _, h3, _⟩ := compOk_parts h
    obtain ⟨g1, g2, g3⟩ := h3 _ h1 rfl
    obtain ⟨c', hc⟩ := Option.isSome_iff_exists.mp g3
    refine ⟨?_, g1⟩
    have h2' : c = (env.cells.lookup nm).getD 0 := h2
    rw [hc] at h2' ⊢
    exact congrArg some h2'.symm

theorem lookup_mem_key {l : List (Str × NameKind)} {x : Str} {k : NameKind} (h : l.lookup x = some k) : (x, k) ∈ l := by
  induction l with
  | nil => simp at h
  | cons p l ih =>
    rw [List.lookup_cons] at h
    cases q : (x == p.1) with
    | true =>
      rw [q] at h; cases h
      have : x = p.1 := by simpa using q
      rw [this]; exact .head _
    | false => rw [q] at h; exact .tail _ (ih h)

/-- the comprehension's frame is one -/
theorem frame_comp {C : Addr} {m cm : Str → Option Value} {sc : Scope} (F : FrameR env h m cm) (hc : compOk env sc = true) (hC : h.Ns C fun _ => none) : FrameR (cenvOf sc C env) h (fun _ => none) cm where
  kind := (compOk_parts hc).1
  globals := F.globals
  builtins := F.builtins
  ns := hC
  cell := fun nm c e => F.cell nm c (cl_in hc (mem_of_lookup e)).1
  cells := fun nm c e => ⟨_, F.cell nm c (cl_in hc e).1⟩
  apart := by
    have hnd : ((clsC env.cells sc.names []).map (·.1)).Nodup := by
      rw [clsC_keys]
      simp only [List.map_nil, List.append_nil]
      refine List.pairwise_reverse.mpr (List.Pairwise.imp (fun hh => Ne.symm hh) ?_)
      exact List.Nodup.sublist (List.Sublist.map _ List.filter_sublist) (compOk_parts hc).2.2.2.2
    rw [List.nodup_iff_pairwise_ne, List.pairwise_map] at hnd
    refine List.Pairwise.imp_of_mem ?_ hnd
    intro a b ha hb hne hab
    obtain ⟨a1, a2⟩ := a
    obtain ⟨b1, b2⟩ := b
    cases hab
    exact hne (pair_ne F.apart (mem_of_lookup (cl_in hc ha).1) (mem_of_lookup (cl_in hc hb).1))

theorem vis_val {C : Addr} {m cm : Str → Option Value} {sc : Scope} {σl : Str → Option V} (F : FrameR env h m cm) (hc : compOk env sc = true) {x : Str} {v : V} (e : vis sc σl x = some v) : σl x = some v ∧ ∀ val, valOf env m cm x = some val → valOf (cenvOf sc C env) (fun _ => none) cm x = some val := by
  unfold vis at e
  split at e
  · rename_i hf
    refine ⟨e, fun val hv => ?_⟩
    have hm := lookup_mem_key hf
    obtain ⟨_, _, _, h3, _⟩ := compOk_parts hc
    obtain ⟨g1, g2, g3⟩ := h3 _ hm rfl
    have hk : (cenvOf sc C env).kindOf x = some .cell := lookup_relabel_free F.kind hf g2
    unfold valOf at hv ⊢
    rw [g2] at hv
    rw [hk]
    simp only [g3, if_true] at hv
    have hs : ((cenvOf sc C env).cells.lookup x).isSome = true := lookup_isSome (by
      show x ∈ (clsC env.cells sc.names []).map (·.1)
      rw [clsC_keys]
      simp only [List.map_nil, List.append_nil, List.mem_reverse, List.mem_map, List.mem_filter]
      exact ⟨(x, .free), ⟨hm, rfl⟩, rfl⟩)
    simp only [hs, if_true]
    exact hv
  · cases e

end
end Mine
end

section
open PySem
set_option Elab.async false
set_option maxRecDepth 10000
namespace Mine

section
variable {X : Cx} {n : Nat} {env : Env} {P : Prm} {A : Around} {ρ : List Addr} {μ μ' : Mu} {σ : St} {s : Shared} {h h' : Heap}

noncomputable abbrev testsOf (ifs : List Expr) (env : Env) : Sem Bool := forIn ifs true fun c r => if r = true then do let ok ← isTrue c env (eval c env); pure (ForInStep.yield ok) else pure (ForInStep.yield r)

theorem compLoop_any {R : Result → Shared → Prop} {elt target iter : Expr} {ifs : List Expr} {scope : Scope} {pos : Pos} {it acc : Value} {env : Env} (I : Nat → Shared → Prop)
    (turn : ∀ n s, I n s → wpAny (model X.prog X.w) A (pyNext it) (fun r s₁ => match r with
      | none => R (.ok .next) s₁
      | some v => wpAny (model X.prog X.w) A (letOwnedTupleGo target it v) (fun _ s₁' => wpAny (model X.prog X.w) A (assign target env v) (fun _ s₂ =>
          wpAny (model X.prog X.w) A (testsOf ifs env) (fun ok s₃ =>
            if ok = true then wpAny (model X.prog X.w) A (eval elt env) (fun x s₄ =>
              wpAny (model X.prog X.w) A (call (.builtin "list.append") [acc, x]) (fun _ s₅ => ∃ m, m < n ∧ I m s₅) (fun _ _ => False) s₄) (fun _ _ => False) s₃
            else ∃ m, m < n ∧ I m s₃) (fun _ _ => False) s₂) (fun _ _ => False) s₁') (fun _ _ => False) s₁) (fun _ _ => False) s)
    (n : Nat) (h : I n s) : codeAny (model X.prog X.w) A (.compLoop (.ListComp elt [⟨target, iter, ifs, 0⟩] scope pos) 0 it acc env) R s := by
  refine codeAny_loop rfl I (fun n s hI => ?_) n h
  show wpAny _ A ((compTurn (.ListComp elt [⟨target, iter, ifs, 0⟩] scope pos) 0 it acc env).onRaise (fun x => do noteFrame x env; theTreesLotGoes x)) _ _ s
  refine wpAny_noted ?_
  rw [compTurn_list]
  refine wpAny_bind (wpAny_standAt (wpAny_bind (wpAny_mono (turn n s hI) (fun r s₁ h₁ => ?_) fun _ _ h' => h'.elim)))
  cases r with
  | none => exact wpAny_pure h₁
  | some v =>
    refine wpAny_bind (wpAny_mono h₁ (fun _ s₁' h₁ => ?_) fun _ _ h' => h'.elim)
    refine wpAny_bind (wpAny_mono h₁ (fun _ s₂ h₂ => wpAny_bind (wpAny_mono h₂ (fun ok s₃ h₃ => ?_) fun _ _ h' => h'.elim)) fun _ _ h' => h'.elim)
    cases ok with
    | false => exact wpAny_pure ⟨rfl, h₃⟩
    | true =>
      exact wpAny_bind (wpAny_bind (wpAny_mono h₃ (fun x s₄ h₄ => wpAny_bind (wpAny_mono h₄ (fun _ s₅ h₅ => wpAny_pure (wpAny_pure ⟨rfl, h₅⟩)) fun _ _ h' => h'.elim)) fun _ _ h' => h'.elim))

/-- the tests -/
theorem forIn_false {env : Env} : ∀ {ifs : List Expr}, (forIn ifs false fun c r => if r = true then do let ok ← isTrue c env (eval c env); pure (ForInStep.yield ok) else pure (ForInStep.yield r) : Sem Bool) = pure false
  | [] => rfl
  | _ :: _ => by
    rw [List.forIn_cons]
    simp only [Bool.false_eq_true, if_false, pure_bind]
    exact forIn_false

theorem Tr_tests : ∀ {ifs : List Expr} {ms : List (M Bool)}, TeL X n env ifs ms → Tr X n env EqR (testsOf ifs env) (allS ms)
  | [], _, .nil => fun A ρ μ σ s ga R => W_pure R rfl
  | c :: ifs, _, .cons (m := m) (ms := ms) h hs => by
    intro A ρ μ σ s ga R
    have ih := Tr_tests hs
    unfold testsOf
    rw [List.forIn_cons]
    simp only [if_true, bind_assoc, pure_bind]
    show W X A ρ μ env s EqR _ ((m >>= fun b => if b = true then allS ms else mpure false) σ)
    refine W_bind (h A ρ μ σ s ga R) fun μ₁ s₁ b σ₁ x st₁ R₁ v₁ => ?_
    have : x = b := v₁
    subst this
    cases x with
    | true => exact ih A ρ μ₁ σ₁ s₁ ga R₁
    | false =>
      show W X A ρ μ₁ env s₁ EqR (forIn ifs false _) _
      rw [forIn_false]
      exact W_pure R₁ rfl

theorem Step.transF {wr : List Addr} {s₁ s₂ : Shared} (a : Step [] μ μ s s₁) (b : Step wr μ μ' s₁ s₂) (hf : ∀ x ∈ wr, s.heap.get? x = none) : Step [] μ μ s s₂ := by
  obtain ⟨h1, t1, e1⟩ := a.same
  obtain ⟨h2, t2, e2⟩ := b.same
  refine ⟨⟨h2, t2, by rw [e2, e1]⟩, fun x o e hm ho => ?_, fun x o e => ?_, List.prefix_refl _, fun _ h => .inl h⟩
  · refine b.keep x o (a.keep x o e hm ho) hm fun hw => ?_
    rw [hf x hw] at e; cases e
  · obtain ⟨o1, q⟩ := a.live x o e
    exact b.live x o1 q

/-- a change of things that were not there at first -/
theorem Step.fresh {wr : List Addr} {s₁ : Shared} {h₂ : Heap} {tk : Nat} (a : Step [] μ μ s s₁) (hf : ∀ x ∈ wr, s.heap.get? x = none) (k : ∀ b o, b ∉ wr → s₁.heap.get? b = some o → h₂.get? b = some o) : Step [] μ μ s { s₁ with heap := h₂, toks := tk } := by
  obtain ⟨h1, t1, e1⟩ := a.same
  refine ⟨⟨h₂, tk, by rw [e1]⟩, fun x o e hm ho => k x o (fun hw => ?_) (a.keep x o e hm ho), fun x o e => ?_, List.prefix_refl _, fun _ h => .inl h⟩
  · rw [hf x hw] at e; cases e
  · obtain ⟨o1, q⟩ := a.live x o e
    refine ⟨o1, k x o1 (fun hw => ?_) q⟩
    rw [hf x hw] at e; cases e

theorem Step.weak {ow : List Addr} {s₁ : Shared} (a : Step [] μ μ' s s₁) : Step ow μ μ' s s₁ := ⟨a.same, fun b o e hm _ => a.keep b o e hm (by simp), a.live, a.pre, a.new⟩


noncomputable def CompQ (X : Cx) (env : Env) (s : Shared) (ρ : List Addr) (μ : Mu) (es : List PyData) (σ' : St) (p : Addr × Value) (s' : Shared) : Prop :=
  s.heap.get? p.1 = none ∧ (∃ m, s'.heap.Ns p.1 m) ∧ FreshR X ([p.1] ++ ρ) μ env s es σ' p.2 s'

noncomputable def compT (X : Cx) (A : Around) (e : Expr) (sc : Scope) (env : Env) (it : Value) (Q : Addr × Value → Shared → Prop) (s : Shared) : Prop :=
  wpAny (model X.prog X.w) A (newList []) (fun acc s₃ => wpAny (model X.prog X.w) A (newFunctionEnv sc env.globals (clsC env.cells sc.names []) [] env.qual none .none (some env)) (fun cenv s₄ =>
    codeAny (model X.prog X.w) A (.compStart e 0 it acc { cenv with scope := relabel sc env }) (fun r s' => match r with | .ok _ => Q (cenv.locals, acc) s' | .error _ => False) s₄) (fun _ _ => False) s₃) (fun _ _ => False) s

theorem Comp_block {elt tgt iter : Expr} {ifs : List Expr} {sc : Scope} {pos : Pos} {bind : V → M Unit} {tests : List (M Bool)} {me : M V} (hc : compOk env sc = true)
    (hb : ∀ C, As X n (cenvOf sc C env) tgt bind) (ht : ∀ C, TeL X n (cenvOf sc C env) ifs tests) (he : ∀ C, Ev X n (cenvOf sc C env) elt me) (ga : Ga n A) (R : Rel X ρ μ env σ s.heap) {I : Addr} {ds : List V} {h₁ : Heap} {tk : Nat}
    (it : Itr X A (own env) μ s.heap (okOf ρ μ) I ds h₁) {es : List PyData} {σ' : St} (e : compS sc bind tests me ds σ = some (es, σ')) :
    compT X A (.ListComp elt [⟨tgt, iter, ifs, 0⟩] sc pos) sc env (.ref I) (CompQ X env s ρ μ es σ') { s with heap := h₁, toks := tk } := by
  obtain ⟨fp, P, Ss, hW, hIf, hfp, hst, hP, hlive⟩ := it.walk
  obtain ⟨hck, hcc, hcl, hcf, _⟩ := compOk_parts hc
  unfold compS at e
  split at e
  · cases e
  · rename_i es' σe hgo
    split at e
    · rename_i hbig
      cases e
      unfold compT
      refine wpAny_newObj_type (wpAny_newFunctionEnv hcc (by intro y hy; simp at hy) (fun h₂ hns₂ hsb₂ => ?_) hck)
      dsimp only at hns₂ hsb₂ ⊢
      generalize hH : h₁.push { cls := .type "list", dict := none, data := .seq ([] : List Value).toArray } = H at hns₂ hsb₂ ⊢
      generalize hCe : H.objs.size = C at hns₂ hsb₂ ⊢
      generalize hDe : h₁.objs.size = D at hns₂ hsb₂ ⊢
      have hCD : C = D + 1 := by rw [← hCe, ← hDe, ← hH, Heap.size_push]
      have hIs : I < D := by
        rw [← hDe]
        obtain ⟨o, _, _, q, _⟩ := hlive 0 h₁ hst
        exact Heap.lt_size q
      have hDC : D ≠ C := by rw [hCD]; exact Nat.ne_of_lt (Nat.lt_succ_self D)
      have hID : I ≠ D := Nat.ne_of_lt hIs
      have hIC : I ≠ C := by rw [hCD]; exact Nat.ne_of_lt (Nat.lt_succ_of_lt hIs)
      have hfr : ∀ b, D ≤ b → s.heap.get? b = none := fun b hb' => by
        cases q : s.heap.get? b with
        | none => rfl
        | some o =>
          have := Heap.lt_size (it.keep b o q)
          rw [hDe] at this; exact absurd this (Nat.not_lt.mpr hb')
      have hfC := hfr C (by rw [hCD]; exact Nat.le_succ D)
      have hfD := hfr D (Nat.le_refl _)
      have hwr : ∀ b ∈ [C, D, I], s.heap.get? b = none := all3 hfC hfD it.fresh
      have old₁ : ∀ b o, h₁.get? b = some o → h₂.get? b = some o := fun b o q => by
        have hlt := Heap.lt_size q
        rw [hDe] at hlt
        refine (hsb₂.2 b (by rw [hCD]; exact Nat.ne_of_lt (Nat.lt_succ_of_lt hlt))).trans (Heap.get?_push_of_some _ ?_)
        rw [← hH]; exact Heap.get?_push_of_some _ q
      have keep₂ : ∀ b o, s.heap.get? b = some o → h₂.get? b = some o := fun b o q => old₁ b o (it.keep b o q)
      have hD₂ : h₂.get? D = some { cls := .type "list", data := .seq #[] 0 } := by
        refine (hsb₂.2 D hDC).trans (Heap.get?_push_of_some _ ?_)
        rw [← hH, ← hDe]; exact Heap.get?_push_size _ rfl
      have hnsC : h₂.Ns C fun _ => none := hns₂
      have liveC : ∃ o, h₂.get? C = some o := by obtain ⟨o, _, _, q, _⟩ := hnsC; exact ⟨o, q⟩
      have hSt₂ : Ss 0 h₂ := hW.frame _ _ _ hst fun b _ o q => old₁ b o q
      have hl₂ : ∀ b ∈ [C, D, I], ∃ o, h₂.get? b = some o := all3 liveC ⟨_, hD₂⟩ (by obtain ⟨o, _, _, q, _⟩ := hlive 0 h₂ hSt₂; exact ⟨o, q⟩)
      have Rr : Rel X ([C, D, I] ++ ρ) μ env σ h₂ := Rel.reserve (R.ext keep₂) (h₂ := s.heap) hwr R keep₂ hl₂
      have hnoroot : ∀ b ∈ [C, D, I], ∀ j, root μ j ≠ some b := R.noRoot hwr
      have hnotρ : ∀ b ∈ [C, D, I], b ∉ ρ ∧ b ∉ foot μ := fun b hb' => R.notIn (hwr b hb')
      have hownc : ∀ b ∈ own (cenvOf sc C env), b ∈ [C] ++ ρ := fun b hb' => by
        rcases List.mem_cons.mp hb' with rfl | hb'
        · exact .head _
        · obtain ⟨⟨nm, c⟩, h1, rfl⟩ := List.mem_map.mp hb'
          exact List.mem_append_right _ (R.own _ (cell_mem (cl_in hc h1).1))
      have hwrtc : wrt (cenvOf sc C env) = [C] := rfl
      have habove : X.base.objs.size ≤ C := by
        have h1 := R.above
        obtain ⟨m, cm, F, _⟩ := R.frame
        obtain ⟨o, _, _, q, _⟩ := F.ns
        have h2 := Heap.lt_size (it.keep _ _ q)
        rw [hDe] at h2
        rw [hCD]; exact Nat.le_succ_of_le (Nat.le_of_lt (Nat.lt_of_le_of_lt h1 h2))
      have Rc : Rel X ([C, D, I] ++ ρ) μ (cenvOf sc C env) ⟨vis sc σ.loc, σ.heap⟩ h₂ := by
        refine Rr.reframe (fun b hb' => up3a (hownc b hb')) habove ?_
        · obtain ⟨m, cm, F, l⟩ := Rr.frame
          refine ⟨_, cm, frame_comp F hc hnsC, fun x v ev => ?_⟩
          obtain ⟨g1, g2⟩ := vis_val (C := C) F hc ev
          obtain ⟨val, g3, g4⟩ := l x v g1
          exact ⟨val, g2 val g3, g4⟩
      have loop : ∀ s₃ : Shared, s₃ = { s with heap := h₂, toks := tk + ([] : List (Str × Value)).length } →
          codeAny (model X.prog X.w) A (.compLoop (.ListComp elt [⟨tgt, iter, ifs, 0⟩] sc pos) 0 (.ref I) (.ref D) (cenvOf sc C env)) (fun r s' => match r with | .ok _ => CompQ X env s ρ μ es ⟨σ.loc, σe.heap⟩ (C, .ref D) s' | .error _ => False) s₃ := by
        rintro s₃ rfl
        refine compLoop_any (fun k s' => ∃ i σ₁ dn ys m rest, k = ds.length + 1 - i ∧ i ≤ ds.length ∧ Step [] μ μ s s' ∧ Rel X ([C, D, I] ++ ρ) μ (cenvOf sc C env) σ₁ s'.heap ∧ Ss i s'.heap ∧
          s'.heap.get? D = some { cls := .type "list", data := .seq ys m } ∧ DRs s'.heap (okOf ([C, D, I] ++ ρ) μ) dn ys.toList ∧ compGo bind tests me (ds.drop i) σ₁ = some (rest, σe) ∧ dn ++ rest = es) ?_ (ds.length + 1)
          ⟨0, _, [], #[], 0, es, rfl, Nat.zero_le _, .grow keep₂, Rc, hSt₂, hD₂, by simp [DRs], hgo, rfl⟩
        intro k s' H
        refine wrap fun G kG => ?_
        obtain ⟨i, σ₁, dn, ys, m, rest, hk, hi, st, R₂, hSt, hDl, hdn, hgo', hes⟩ := H
        by_cases hlt : i < ds.length
        · refine kG (hW.item i s' _ _ hlt hSt fun v h₃ tk₃ hv hSt₃ hk₃ => ?_)
          clear kG
          refine wrap fun G kG => ?_
          obtain ⟨d, hd, hdr⟩ := hP i v hlt hv
          have hdrop : ds.drop i = d :: ds.drop (i + 1) := by
            rw [List.drop_eq_getElem_cons hlt]
            rw [List.getElem?_eq_getElem hlt] at hd
            cases hd; rfl
          rw [hdrop] at hgo'
          simp only [compGo] at hgo'
          have it₃ := hlive _ _ hSt₃
          have hI1 : ∀ b ∈ [I], b ∈ [C, D, I] := all1 in3c
          have R₃ : Rel X ([C, D, I] ++ ρ) μ (cenvOf sc C env) σ₁ h₃ := R₂.setRes (wr := [I]) (fun a ha => List.mem_append_left _ (hI1 a ha)) (all1 fun hm => off1 hIC (hnotρ I in3c).1 (hownc I hm)) (all1 (by obtain ⟨o, _, _, q, _⟩ := it₃; exact ⟨o, q⟩)) (fun a ha => hnoroot a (hI1 a ha)) hk₃
          have st₃ : Step [] μ μ s { s' with heap := h₃, toks := tk₃ } := st.fresh (wr := [I]) (fun b hb' => hwr b (hI1 b hb')) hk₃
          have hD₃ : h₃.get? D = some { cls := .type "list", data := .seq ys m } := hk₃ D _ (notMem1 (Ne.symm hID)) hDl
          have hdn₃ : DRs h₃ (okOf ([C, D, I] ++ ρ) μ) dn ys.toList := DRs.mono (fun a o q e => ⟨hk₃ a o (fun hm => q.1 (List.mem_append_left _ (hI1 a hm))) e, q⟩) hdn
          have hv₃ : VR h₃ (okOf ([C, D, I] ++ ρ) μ) μ d v := VR.mono (fun _ _ e => e) (fun a o ok q => ⟨st₃.keep a o q ok.2 (by simp), fun hm => by
            rcases List.mem_append.mp hm with hm | hm
            · rw [hwr a hm] at q; cases q
            · exact ok.1 hm, ok.2⟩) hdr
          split at hgo'
          · cases hgo'
          · rename_i r σm hm
            split at hgo'
            · cases hgo'
            · rename_i σ₂ hcut
              split at hgo'
              · cases hgo'
              · rename_i rest' σe' hrest
                cases hgo'
                refine mbind_elim hm fun u σb g1 hm => ?_
                refine mbind_elim hm fun okk σt g2 hm => ?_
                rw [← R₂.len] at hcut
                refine kG (letOwned it₃ ?_)
                clear kG
                refine wpAny_mono (hb C A _ μ σ₁ { s' with heap := h₃, toks := tk₃ } d v ga R₃ hv₃ u σb g1) (fun _ s₄ z => ?_) fun _ _ z => z
                first | refine post_elim z fun μ₄ st₄ R₄ _ => ?_ | obtain ⟨μ₄, st₄, R₄, _⟩ := z
                refine wpAny_mono (Tr_tests (ht C) A _ μ₄ σb s₄ ga R₄ okk σt g2) (fun c s₅ z => ?_) fun _ _ z => z
                refine wrap fun G kG => ?_
                obtain ⟨μ₅, st₅, R₅, hc⟩ := z
                have st₅' := st₄.trans st₅
                -- what holds behind a turn
                have fin : ∀ {μ₆ : Mu} {s₆ : Shared}, Step (wrt (cenvOf sc C env)) μ μ₆ { s' with heap := h₃, toks := tk₃ } s₆ → Rel X ([C, D, I] ++ ρ) μ₆ (cenvOf sc C env) σm s₆.heap →
                    Step [] μ μ s s₆ ∧ Rel X ([C, D, I] ++ ρ) μ (cenvOf sc C env) σ₂ s₆.heap ∧ Ss (i + 1) s₆.heap ∧ s₆.heap.get? D = some { cls := .type "list", data := .seq ys m } ∧ DRs s₆.heap (okOf ([C, D, I] ++ ρ) μ) dn ys.toList := by
                  intro μ₆ s₆ st₆ R₆
                  have kp : ∀ b o, b ∉ foot μ → b ≠ C → h₃.get? b = some o → s₆.heap.get? b = some o := fun b o q1 q2 q3 => st₆.keep b o q3 q1 (by rw [hwrtc]; exact notMem1 q2)
                  refine ⟨st₃.transF st₆ (by rw [hwrtc]; exact all1 hfC), R₆.cut st₆.pre hcut, hW.frame _ _ _ hSt₃ fun b hb' o q => ?_, kp D _ (hnotρ D in3b).2 hDC hD₃, DRs.mono (fun a o q e => ⟨kp a o q.2 (fun hm => q.1 (hm ▸ List.mem_append_left _ in3a)) e, q⟩) hdn₃⟩
                  by_cases hbI : b = I
                  · exact kp b o (hbI ▸ (hnotρ I in3c).2) (hbI ▸ hIC) q
                  · obtain ⟨q1, q2, o', q3⟩ := hfp b hb' hbI
                    exact kp b o q1 (fun hm => nomatch (hm ▸ q3).symm.trans hfC) q
                rw [hc] at kG
                clear hc
                cases okk with
                | false =>
                  cases hm
                  obtain ⟨f1, f2, f3, f4, f5⟩ := fin st₅' R₅
                  rw [if_neg (by decide)] at kG
                  exact kG ⟨ds.length + 1 - (i + 1), by omega, i + 1, σ₂, dn, ys, m, _, rfl, hlt, f1, f2, f3, f4, f5, hrest, hes⟩
                | true =>
                  simp only [if_true] at hm kG
                  refine mbind_elim hm fun x σx g3 hm => ?_
                  refine mbind_elim hm fun dd σy g4 hm => ?_
                  cases hm
                  cases x with
                  | dat d' =>
                    cases g4
                    refine kG (wpAny_mono (he C A _ μ₅ σt s₅ ga R₅ _ _ g3) (fun y s₆ z => ?_) fun _ _ z => z)
                    clear kG
                    refine wrap fun G kG => ?_
                    first | refine post_elim z fun μ₆ st₆ R₆ v₆ => ?_ | obtain ⟨μ₆, st₆, R₆, v₆⟩ := z
                    have st₆' := st₅'.trans st₆
                    obtain ⟨f1, f2, f3, f4, f5⟩ := fin st₆' R₆
                    have hy : DR s₆.heap (okOf ([C, D, I] ++ ρ) μ) dd y := VR.cut (v := .dat dd) st₆'.pre v₆ rfl
                    have hlen := f5.length
                    rw [Array.length_toList] at hlen
                    have hle : dn.length ≤ big := by
                      have := congrArg List.length hes
                      rw [List.length_append] at this
                      omega
                    refine kG (wpAny_list_append_plain ⟨m, f4⟩ (fun h₇ hp hs => ?_) (by rw [hlen]; exact Nat.le_trans hle big_le))
                    obtain ⟨m', hp⟩ := hp
                    have k₇ := sameBut1 hs
                    have hD1 : ∀ b ∈ [D], b ∈ [C, D, I] := all1 in3b
                    refine ⟨ds.length + 1 - (i + 1), by omega, i + 1, σ₂, dn ++ [dd], ys.push y, m', rest', rfl, hlt, f1.fresh (tk := s₆.toks) (wr := [D]) (fun b hb' => hwr b (hD1 b hb')) k₇, f2.setRes (wr := [D]) (fun a ha => List.mem_append_left _ (hD1 a ha)) (all1 fun hm => off1 hDC (hnotρ D in3b).1 (hownc D hm)) (all1 ⟨_, hp⟩) (fun a ha => hnoroot a (hD1 a ha)) k₇, hW.frame _ _ _ f3 fun b hb' o q => ?_, hp, ?_, hrest, by simpa using hes⟩
                    · refine k₇ b o (fun hm => ?_) q
                      have hm := List.mem_singleton.mp hm
                      by_cases hbI : b = I
                      · exact hID (hbI.symm.trans hm)
                      · obtain ⟨q1, q2, o', q3⟩ := hfp b hb' hbI
                        exact nomatch (hm ▸ q3).symm.trans hfD
                    · have kk : ∀ a o, okOf ([C, D, I] ++ ρ) μ a → s₆.heap.get? a = some o → h₇.get? a = some o ∧ okOf ([C, D, I] ++ ρ) μ a := fun a o q e => ⟨k₇ a o (fun hm => q.1 (List.mem_append_left _ (hD1 a hm))) e, q⟩
                      have := (DRs.mono kk f5).append (DRs.one (DR.mono kk hy))
                      simpa using this
                  | obj j => cases g4
                  | rng j k => cases g4
                  | emp => cases g4
        · have hin : i = ds.length := by omega
          rw [hin, List.drop_length] at hgo'
          rw [hin] at hSt
          have hgo' : some (([] : List PyData), σ₁) = some (rest, σe) := hgo'
          refine kG (hW.done s' _ _ hSt fun h₃ tk₃ hk₃ => ?_)
          clear kG
          refine wrap fun G kG => ?_
          cases hgo'
          rw [List.append_nil] at hes
          have hI1 : ∀ b ∈ [I], b ∈ [C, D, I] := all1 in3c
          have st₃ : Step [] μ μ s { s' with heap := h₃, toks := tk₃ } := st.fresh (wr := [I]) (fun b hb' => hwr b (hI1 b hb')) hk₃
          have Rl : Rel X ([D] ++ ([C] ++ ρ)) μ (cenvOf sc C env) σe h₃ := by
            exact Rel.leave (wr := [I]) (R₂.congr fun a => perm3) (fun a ha => List.mem_append_right _ (hownc a ha)) (all1 (off1 hID (off1 hIC (hnotρ I in3c).1))) (fun a ha => hnoroot a (hI1 a ha)) hk₃
          rw [hes] at hdn
          refine kG ⟨hfC, ?_, D, ys, m, rfl, hfD, st₃.weak, Rl.reframe (fun a ha => List.mem_append_right _ (List.mem_append_right _ (R.own a ha))) R.above ?_, hk₃ D _ (notMem1 (Ne.symm hID)) hDl, ?_⟩
          · obtain ⟨m', cm', F', _⟩ := Rl.frame
            exact ⟨m', F'.ns⟩
          · obtain ⟨m', cm', F', l⟩ := R.frame
            refine ⟨m', cm', F'.at fun b hb' o q => st₃.keep b o q (R.dis b (R.own b hb')) (by simp), fun x v ev => ?_⟩
            obtain ⟨val, q1, q2⟩ := l x v ev
            exact ⟨val, q1, q2.mono (fun _ _ e => e) fun a o q e => ⟨st₃.keep a o e q.2 (by simp), off1 (fun hm => nomatch (hm ▸ e).symm.trans hfD) (off1 (fun hm => nomatch (hm ▸ e).symm.trans hfC) q.1), q.2⟩⟩
          · exact DRs.mono (fun a o q e => ⟨hk₃ a o (fun hm => q.1 (List.mem_append_left _ (hI1 a hm))) e, fun hm => q.1 (perm3.mpr (List.mem_append_right _ hm)), q.2⟩) hdn
      exact codeAny_compStart_list (loop _ rfl) (hW.self 0 _ _ _ hSt₂ (loop _ rfl))
    · cases e

end
end Mine
end

section
open PySem
set_option Elab.async false
set_option maxRecDepth 10000
namespace Mine

section
variable {X : Cx} {n : Nat} {env : Env} {P : Prm} {A : Around} {ρ : List Addr} {μ μ' : Mu} {σ : St} {s : Shared} {h h' : Heap}

theorem Step.freshO {ow wr : List Addr} {s₁ : Shared} {h₂ : Heap} {tk : Nat} (a : Step ow μ μ' s s₁) (hf : ∀ x ∈ wr, s.heap.get? x = none) (k : ∀ b o, b ∉ wr → s₁.heap.get? b = some o → h₂.get? b = some o) : Step ow μ μ' s { s₁ with heap := h₂, toks := tk } := by
  obtain ⟨h1, t1, e1⟩ := a.same
  refine ⟨⟨h₂, tk, by rw [e1]⟩, fun x o e hm ho => k x o (fun hw => ?_) (a.keep x o e hm ho), fun x o e => ?_, a.pre, a.new⟩
  · rw [hf x hw] at e; cases e
  · obtain ⟨o1, q⟩ := a.live x o e
    refine ⟨o1, k x o1 (fun hw => ?_) q⟩
    rw [hf x hw] at e; cases e

theorem ns_notList {C : Addr} {m : Str → Option Value} (hn : h.Ns C m) {vs : Array Value} {k : Nat} : h.get? C ≠ some { cls := .type "list", data := .seq vs k } := by
  obtain ⟨o, es, ep, h1, h2, _⟩ := hn
  intro q
  rw [q] at h1; cases h1; cases h2

theorem Rel.nsNoRoot (R : Rel X ρ μ env σ h) {C : Addr} (hC : C ∈ ρ) {m : Str → Option Value} (hn : h.Ns C m) (j : Nat) : root μ j ≠ some C := fun hj => by
  obtain ⟨o, es, ep, h1, h2, _⟩ := hn
  unfold root at hj
  obtain ⟨p, g1, rfl⟩ := Option.map_eq_some_iff.mp hj
  have hlt : j < σ.heap.length := by rw [← R.len]; exact (List.getElem?_eq_some_iff.mp g1).1
  obtain ⟨q, g2, g3⟩ := R.objs j _ (List.getElem?_eq_getElem hlt)
  rw [g1] at g2; cases g2
  generalize σ.heap[j] = ob at g3
  cases ob with
  | lst ds => obtain ⟨vs, n, _, h4, _⟩ := g3; rw [h4] at h1; cases h1; cases h2
  | frz ds => obtain ⟨vs, n, _, h4, _⟩ := g3; rw [h4] at h1; cases h1; cases h2
  | inst l => obtain ⟨d, _, h4, _⟩ := g3; rw [h4] at h1; cases h1; cases h2
  | dctS kvs => exact R.dis _ hC (foot_get g1 (by rw [g3.1]; exact .head _))
  | dctI kvs => exact R.dis _ hC (foot_get g1 (by rw [g3.1]; exact .head _))

theorem FreshR.leaveC (R : Rel X ρ μ env σ s.heap) {C : Addr} (hC : s.heap.get? C = none) {ds : List PyData} {σ' : St} {x : Value} {s' : Shared} {m : Str → Option Value} (hn : s'.heap.Ns C m) (f : FreshR X ([C] ++ ρ) μ env s ds σ' x s') (hs : Heap.SameBut C s'.heap h') :
    FreshR X ρ μ env s ds σ' x { s' with heap := h' } := by
  obtain ⟨a, vs, k, rfl, hf, st, R', hL, hd⟩ := f
  have hne : a ≠ C := fun q => by subst q; exact ns_notList hn hL
  have hCs : ∀ b ∈ [C], s.heap.get? b = none := fun b hb => by simp at hb; subst hb; exact hC
  have kk : ∀ b o, b ∉ [C] → s'.heap.get? b = some o → h'.get? b = some o := fun b o hb e => (hs.2 b (fun q => hb (by simp [q]))).trans e
  refine ⟨a, vs, k, rfl, hf, st.freshO (tk := s'.toks) hCs kk, ?_, kk a _ (by simpa using hne) hL, DRs.mono (fun b o q e => ⟨kk b o (fun hm => q.1 (by simp at hm; subst hm; simp)) e, fun hm => q.1 ?_, q.2⟩) hd⟩
  · refine Rel.leave (wr := [C]) (R'.congr fun b => ?_) (fun b hb => List.mem_append_right _ (R.own b hb)) (fun b hb hm => ?_) (R.noRoot hCs) kk
    · simp only [List.mem_append, List.mem_cons, List.not_mem_nil, or_false]
      constructor
      · rintro (q | q | q)
        · exact .inr (.inl q)
        · exact .inl q
        · exact .inr (.inr q)
      · rintro (q | q | q)
        · exact .inr (.inl q)
        · exact .inl q
        · exact .inr (.inr q)
    · simp at hb; subst hb
      rcases List.mem_append.mp hm with hm | hm
      · simp at hm; exact hne hm.symm
      · exact (R.notIn hC).1 hm
  · rcases List.mem_append.mp hm with hm | hm
    · exact List.mem_append_left _ hm
    · exact List.mem_append_right _ (List.mem_append_right _ hm)

noncomputable def FreshX (X : Cx) (ρ : List Addr) (μ : Mu) (env : Env) (s : Shared) (ds : List PyData) (σ' : St) : Value → Shared → Prop := fun x s' =>
  ∃ μ₁ s₁ σ₁, Step (wrt env) μ μ₁ s s₁ ∧ Rel X ρ μ₁ env σ₁ s₁.heap ∧ FreshR X ρ μ₁ env s₁ ds σ' x s'
theorem FreshX.dat {ds : List PyData} {σ' : St} {x : Value} {s' : Shared} (f : FreshX X ρ μ env s ds σ' x s') : Post X ρ μ env s VRr (.dat (.list ds)) σ' x s' := by
  obtain ⟨μ₁, s₁, σ₁, st, R, f⟩ := f
  obtain ⟨μ₂, st₂, R₂, v₂⟩ := f.dat R
  exact ⟨μ₂, st.trans st₂, R₂, v₂⟩
theorem compT_mono {e : Expr} {sc : Scope} {it : Value} {Q Q' : Addr × Value → Shared → Prop} (hq : ∀ y s', Q y s' → Q' y s') (z : compT X A e sc env it Q s) : compT X A e sc env it Q' s := by
  unfold compT at *
  refine wpAny_mono z (fun acc s₃ z => wpAny_mono z (fun cenv s₄ z => codeAny_mono z fun r s' z => ?_) fun _ _ z => z) fun _ _ z => z
  cases r with
  | ok f => exact hq _ _ z
  | error x => exact z

/-- a comprehension, whatever is done with its list -/
theorem Comp_core {elt tgt iter : Expr} {ifs : List Expr} {sc : Scope} {pos p : Pos} {bind : V → M Unit} {tests : List (M Bool)} {me mi : M V} (hc : compOk env sc = true) (hi : Ev X n env iter mi)
    (hb : ∀ C, As X n (cenvOf sc C env) tgt bind) (ht : ∀ C, TeL X n (cenvOf sc C env) ifs tests) (he : ∀ C, Ev X n (cenvOf sc C env) elt me) (hset : ∀ x, foldedSetIterable iter env x = pure x) (ga : Ga n A) (R : Rel X ρ μ env σ s.heap)
    {es : List PyData} {σ1 σ' : St} {v : V} (e1 : mi σ = some (v, σ1)) (e2 : compV sc bind tests me v σ1 = some (es, σ')) {use : Option (Value → Sem Unit)} {Q : Value → Shared → Prop}
    (hQ : ∀ μ₁ s₁ C acc s', Step (wrt env) μ μ₁ s s₁ → Rel X ρ μ₁ env σ1 s₁.heap → CompQ X env s₁ ρ μ₁ es σ' (C, acc) s' → ∀ f, compPost (model X.prog X.w) A (fun _ _ => False) use Q acc C (.ok f) s') :
    wpAny (model X.prog X.w) A (comprehension (.ListComp elt [⟨tgt, iter, ifs, 0⟩] sc pos) sc env p (newList []) false (eval iter env) use) Q (fun _ _ => False) s := by
  obtain ⟨hck, hcc, hcl, hcf, _⟩ := compOk_parts hc
  refine wpAny_comprehension_free (cl := clsC env.cells sc.names []) rfl hset (closure_eq fun p hp hf => (hcf p hp hf).2.2) hck hcl ?_
  refine wpAny_mono (hi A ρ μ σ s ga R v σ1 e1) (fun x s1 z => ?_) fun _ _ z => z
  first | refine post_elim z fun μ1 st1 R1 v1 => ?_ | obtain ⟨μ1, st1, R1, v1⟩ := z
  refine wpAny_mono (Walk_any (α := Addr × Value) ga (fun it Q s' => compT X A (.ListComp elt [⟨tgt, iter, ifs, 0⟩] sc pos) sc env it Q s') (fun it Q Q' s' hq z => compT_mono hq z)
    (fun ρ μ r σ' => CompQ X env s1 ρ μ r σ') (fun R hi hp r σ' y s' z => ?_) (fun R I ds h₁ tk itr r σ' e => Comp_block hc hb ht he ga R itr e) R1 v1 e2) (fun it s2 z => ?_) fun _ _ z => z
  · rename_i ρ2 μ2 σ2 i2 ds2 a2
    obtain ⟨hCf, hns, a, vs, k, hy, hf, st, R', hL, hd⟩ := z
    have hrho : ∀ b ∈ [a] ++ ([y.1] ++ ρ2), b ∈ ρ2 ∨ s1.heap.get? b = none := fun b hb => by
      simp only [List.mem_append, List.mem_cons, List.not_mem_nil, or_false] at hb
      rcases hb with hb | hb | hb
      · subst hb; exact .inr hf
      · subst hb; exact .inr hCf
      · exact .inl hb
    obtain ⟨μ3, st3, R3, hok, hrt⟩ := thaw_core (ρ' := [a] ++ ([y.1] ++ ρ2)) R hi hp st hrho (fun b hb => List.mem_append_right _ (List.mem_append_right _ (R.own b hb))) (R'.congr fun b => by
      simp only [List.mem_append, List.mem_cons, List.not_mem_nil, or_false]
      constructor
      · rintro (q | q | q | q)
        · exact .inr (.inl q)
        · exact .inr (.inr (.inl q))
        · exact .inl q
        · exact .inr (.inr (.inr q))
      · rintro (q | q | q | q)
        · exact .inr (.inr (.inl q))
        · exact .inl q
        · exact .inr (.inl q)
        · exact .inr (.inr (.inr q)))
    have hμ : μ2 = μ3 := st3.pre.eq_of_length (by
      have q1 := R3.len
      have q2 := R'.len
      simp only [List.length_set] at q1 q2
      rw [q1, q2])
    subst hμ
    refine ⟨hCf, hns, a, vs, k, hy, hf, st3, R3, hL, DRs.mono (fun b o q e => ⟨e, hok b ⟨fun hm => q.1 ?_, q.2⟩⟩) hd⟩
    simp only [List.mem_append, List.mem_cons, List.not_mem_nil, or_false] at hm ⊢
    rcases hm with q | q | q | q
    · exact .inr (.inr (.inl q))
    · exact .inl q
    · exact .inr (.inl q)
    · exact .inr (.inr (.inr q))
  · unfold compT at z
    refine wpAny_mono z (fun acc s₃ z => wpAny_mono z (fun cenv s₄ z => codeAny_mono z fun r s' z => ?_) fun _ _ z => z) fun _ _ z => z
    cases r with
    | ok f => exact hQ μ1 s1 cenv.locals acc s' st1 R1 z f
    | error x => exact z.elim


theorem Fl_ListComp {elt tgt iter : Expr} {ifs : List Expr} {sc : Scope} {pos : Pos} {bind : V → M Unit} {tests : List (M Bool)} {me mi : M V} (hc : compOk env sc = true) (hi : Ev X n env iter mi)
    (hb : ∀ C, As X n (cenvOf sc C env) tgt bind) (ht : ∀ C, TeL X n (cenvOf sc C env) ifs tests) (he : ∀ C, Ev X n (cenvOf sc C env) elt me) (hset : ∀ x, foldedSetIterable iter env x = pure x) (ga : Ga n A) (R : Rel X ρ μ env σ s.heap)
    {es : List PyData} {σ1 σ' : St} {v : V} (e1 : mi σ = some (v, σ1)) (e2 : compV sc bind tests me v σ1 = some (es, σ')) :
    wpAny (model X.prog X.w) A (eval (.ListComp elt [⟨tgt, iter, ifs, 0⟩] sc pos) env) (FreshX X ρ μ env s es σ') (fun _ _ => False) s := by
  rw [eval_ListComp]
  refine Comp_core hc hi hb ht he hset ga R e1 e2 fun μ₁ s₁ C acc s' st R₁ q f => ?_
  obtain ⟨hCf, ⟨m, hns⟩, fr⟩ := q
  exact ⟨m, hns, fun h' hs => ⟨μ₁, s₁, σ1, st, R₁, fr.leaveC R₁ hCf hns hs⟩⟩

/-- a name is bound to a comprehension's list, by the other road -/
theorem Ex_CompName {elt tgt iter : Expr} {ifs : List Expr} {sc : Scope} {pos yp spos : Pos} {y : Str} {bind : V → M Unit} {tests : List (M Bool)} {me mi : M V} (own? : Bool) (hc : compOk env sc = true) (hi : Ev X n env iter mi)
    (hb : ∀ C, As X n (cenvOf sc C env) tgt bind) (ht : ∀ C, TeL X n (cenvOf sc C env) ifs tests) (he : ∀ C, Ev X n (cenvOf sc C env) elt me) (hset : ∀ x, foldedSetIterable iter env x = pure x) (hy : stOk env y = true)
    (hsw : swapsWith (.ListComp elt [⟨tgt, iter, ifs, 0⟩] sc pos) (some (.Name y yp)) spos.line env = pure true) :
    Ex X n env (.Assign [.Name y yp] (.ListComp elt [⟨tgt, iter, ifs, 0⟩] sc pos) spos) (do
      let it ← mi
      let ds ← compV sc bind tests me it
      let v ← bif own? then newObj (.lst ds) else mpure (.dat (.list ds))
      setLoc y v
      mpure .next) := by
  intro A ρ μ σ s ga R r σ' q
  refine mbind_elim q fun v σ1 e1 q1 => ?_
  refine mbind_elim q1 fun ds σ2 e2 q2 => ?_
  refine mbind_elim q2 fun w σ3 e3 q3 => ?_
  refine mbind_elim q3 fun u σ4 e4 q4 => ?_
  cases q4
  rw [exec_Assign_Name_used _ _ _ _ hsw]
  refine wpAny_bind (wpAny_standAt (wpAny_bind ?_))
  show wpAny _ A (do let _ ← comprehension (.ListComp elt [⟨tgt, iter, ifs, 0⟩] sc pos) sc env _ (newList []) false (eval iter env) (some (assign (.Name y yp) env))) _ _ s
  refine wpAny_bind (wpAny_mono (Comp_core (use := some (assign (.Name y yp) env)) (Q := fun _ s' => Post X ρ μ env s FlR .next σ' .next s') hc hi hb ht he hset ga R e1 e2 fun μ₁ s₁ C acc s' st R₁ q f => ?_) (fun _ s' hq => wpAny_pure (wpAny_pure hq)) fun _ _ e => e)
  obtain ⟨hCf, ⟨m, hns⟩, fr⟩ := q
  -- the name is bound while the frame still lies there
  have hoC : ∀ b ∈ own env, b ∈ [C] ++ ρ := fun b hb => List.mem_append_right _ (R₁.own b hb)
  have hρC : ∀ b ∈ [C] ++ ρ, b ∈ ρ ∨ ∀ vs m, s'.heap.get? b ≠ some { cls := .type "list", data := .seq vs m } := fun b hb => by
    rcases List.mem_append.mp hb with hb | hb
    · simp at hb; subst hb; exact .inr fun vs k => ns_notList hns
    · exact .inl hb
  have hpost : Post X ([C] ++ ρ) μ₁ env s₁ VRr w σ3 acc s' := by
    cases own? with
    | true => cases e3; exact FreshR.obj' R₁ hoC hρC fr
    | false => cases e3; exact FreshR.dat' R₁ hoC hρC fr
  show wpAny _ A (assign (.Name y yp) env acc) _ _ s'
  obtain ⟨μ₂, st₂, R₂, v₂⟩ := hpost
  refine wpAny_mono (As_Name (n := n) (p := yp) hy A ([C] ++ ρ) μ₂ σ3 s' w acc ga R₂ v₂ u _ e4) (fun _ s'' z => ?_) fun _ _ z => z
  first | refine post_elim z fun μ₃ st₃ R₃ _ => ?_ | obtain ⟨μ₃, st₃, R₃, _⟩ := z
  have hCo : C ∉ own env := fun hm => (R₁.notIn hCf).1 (R₁.own C hm)
  obtain ⟨o, es, ep, h1, h2, h3⟩ := hns
  have hC'' : s''.heap.get? C = some o := st₃.keep C o h1 (R₂.dis C (by simp)) (fun hm => hCo (wrt_own hm))
  refine ⟨m, ⟨o, es, ep, hC'', h2, h3⟩, fun h' hs => ?_⟩
  have hCs : ∀ b ∈ [C], s₁.heap.get? b = none := fun b hb => by simp at hb; subst hb; exact hCf
  have kk : ∀ b o, b ∉ [C] → s''.heap.get? b = some o → h'.get? b = some o := fun b o hb e => (hs.2 b (fun q => hb (by simp [q]))).trans e
  refine ⟨μ₃, st.trans ((st₂.trans st₃).freshO (tk := s''.toks) hCs kk), Rel.leave R₃ R₁.own (fun b hb => (R₁.notIn (hCs b hb)).1) (fun b hb j hj => ?_) kk, rfl⟩
  simp at hb; subst hb
  exact R₃.nsNoRoot (List.mem_append_left _ (.head _)) ⟨o, es, ep, hC'', h2, h3⟩ j hj

end
end Mine
end

section
open PySem
set_option Elab.async false
set_option maxRecDepth 10000
namespace Mine

structure SameEnv (se env : Env) : Prop where
  scope : se.scope = env.scope
  cells : ∀ x, (se.cells.lookup x).isSome = (env.cells.lookup x).isSome
  func : se.func.isSome = env.func.isSome

theorem SameEnv.kindOf {se env : Env} (h : SameEnv se env) (x : Str) : se.kindOf x = env.kindOf x := by unfold Env.kindOf; rw [h.scope]
theorem SameEnv.gKind {se env : Env} (h : SameEnv se env) (x : Str) : Mine.gKind se x = Mine.gKind env x := by unfold Mine.gKind; rw [h.kindOf]
theorem SameEnv.stOk {se env : Env} (h : SameEnv se env) (x : Str) : Mine.stOk se x = Mine.stOk env x := by unfold Mine.stOk; rw [h.kindOf, h.cells, h.func]
theorem SameEnv.typOk {se env : Env} (h : SameEnv se env) (e : Expr) (x : Str) : Mine.typOk se e x = Mine.typOk env e x := by unfold Mine.typOk; rw [h.gKind, h.gKind]
theorem SameEnv.compOk {se env : Env} (h : SameEnv se env) (sc : Scope) : Mine.compOk se sc = Mine.compOk env sc := by
  unfold Mine.compOk
  have : (fun p : Str × NameKind => p.2 != .cell && (p.2 != .local || sc.names.lookup p.1 == some .local) && (p.2 != .free || (sc.names.lookup p.1 == some .free && se.kindOf p.1 == some .cell && (se.cells.lookup p.1).isSome))) =
      (fun p : Str × NameKind => p.2 != .cell && (p.2 != .local || sc.names.lookup p.1 == some .local) && (p.2 != .free || (sc.names.lookup p.1 == some .free && env.kindOf p.1 == some .cell && (env.cells.lookup p.1).isSome))) := by
    funext p; rw [h.kindOf, h.cells]
  rw [this]

theorem lookup_key {l : List (Str × Addr)} {x : Str} (h : (l.lookup x).isSome = true) : x ∈ l.map (·.1) := by
  obtain ⟨c, hc⟩ := Option.isSome_iff_exists.mp h
  exact List.mem_map.mpr ⟨_, mem_of_lookup hc, rfl⟩
theorem isSome_keys {l k : List (Str × Addr)} (h : l.map (·.1) = k.map (·.1)) (x : Str) : (l.lookup x).isSome = (k.lookup x).isSome := by
  rw [Bool.eq_iff_iff]
  exact ⟨fun q => lookup_isSome (by rw [← h]; exact lookup_key q), fun q => lookup_isSome (by rw [h]; exact lookup_key q)⟩

theorem SameEnv.comp {se env : Env} (h : SameEnv se env) (sc : Scope) (C : Addr) : SameEnv (cenvOf sc 0 se) (cenvOf sc C env) := by
  refine ⟨?_, fun x => ?_, rfl⟩
  · show relabel sc se = relabel sc env
    unfold relabel
    have : (fun p : Str × NameKind => if (p.2 == .free && se.scope.kind == .function && se.kindOf p.1 == some .cell) = true then (p.1, NameKind.cell) else (p.1, p.2)) =
        (fun p : Str × NameKind => if (p.2 == .free && env.scope.kind == .function && env.kindOf p.1 == some .cell) = true then (p.1, NameKind.cell) else (p.1, p.2)) := by
      funext p; rw [h.kindOf, h.scope]
    show { sc with names := sc.names.map fun p => _ } = { sc with names := sc.names.map fun p => _ }
    rw [this]
  · refine isSome_keys ?_ x
    show (clsC se.cells sc.names []).map (·.1) = (clsC env.cells sc.names []).map (·.1)
    rw [clsC_keys, clsC_keys]

noncomputable def noSet : Expr → Bool
  | .Set .. => false
  | _ => true
theorem folded_no {e : Expr} {env : Env} (h : noSet e = true) (x : Value) : foldedSetIterable e env x = pure x := by
  cases e <;> first | rfl | cases h

end Mine
end

section
open PySem
set_option Elab.async false
set_option maxRecDepth 10000
namespace Mine

/-! what the nodes compute, as programs of our own -/
noncomputable def thenM (a b : M Fl) : M Fl := do
  let f ← a
  match f with
  | .next => b
  | f => mpure f
noncomputable def endM : M Fl := mpure .next
noncomputable def retM (m : M V) : M Fl := do
  let v ← m
  mpure (.ret v)
noncomputable def exprM (m : M V) : M Fl := do
  let _ ← m
  mpure .next
noncomputable def asgM (x : Str) (m : M V) : M Fl := do
  let v ← m
  setLoc x v
  mpure .next
noncomputable def asgItM (Q : Prm) (o i m : M V) : M Fl := do
  let v ← m
  (do
    let ov ← o
    let iv ← i
    setItemS Q ov iv v)
  mpure .next
noncomputable def asgAttrM (o : M V) (name : Str) (m : M V) : M Fl := do
  let v ← m
  (do
    let ov ← o
    setAttrS ov name v)
  mpure .next
noncomputable def asgAllM (o m : M V) : M Fl := do
  let v ← m
  (do
    let ov ← o
    setAllS ov v)
  mpure .next
noncomputable def two (A B : V → M Unit) : V → M Unit
  | .dat (.tuple [a, b]) => do
    A (.dat a)
    B (.dat b)
  | _ => mfail
noncomputable def setItA (Q : Prm) (o i : M V) (v : V) : M Unit := do
  let ov ← o
  let iv ← i
  setItemS Q ov iv v
noncomputable def augM (x : Str) (op : Operator) (m : M V) : M Fl := do
  let old ← nameS x
  let v ← m
  let a ← asDat old
  let b ← asDat v
  let d ← mopt (binD op a b)
  setLoc x (.dat d)
  mpure .next
noncomputable def delM (Q : Prm) (o i : M V) : M Fl := do
  let ov ← o
  let iv ← i
  delItemS Q ov iv
  mpure .next
noncomputable def ifM (t : M Bool) (a b : M Fl) : M Fl := do
  let c ← t
  bif c then a else b
noncomputable def forM (bind : V → M Unit) (body : M Fl) (it : M V) : M Fl := do
  let v ← it
  forV bind body v

noncomputable def datM (d : PyData) : M V := mpure (.dat d)
noncomputable def binM (op : Operator) (a b : M V) : M V := do
  let x ← a
  let y ← b
  binS op x y
noncomputable def ifxM (t : M Bool) (a b : M V) : M V := do
  let c ← t
  bif c then a else b
noncomputable def tupM (Q : Prm) (ms : List (M V)) : M V := do
  let ds ← listS Q ms
  mpure (.dat (.tuple ds))
noncomputable def genM (sc : Scope) (bind : V → M Unit) (tests : List (M Bool)) (elt it : M V) : M (List PyData) := do
  let v ← it
  compV sc bind tests elt v
noncomputable def lcM (sc : Scope) (bind : V → M Unit) (tests : List (M Bool)) (elt it : M V) : M V := do
  let ds ← genM sc bind tests elt it
  mpure (.dat (.list ds))
noncomputable def typM (op : CmpOp) (m : M V) (t : Str) : M V := do
  let v ← m
  let n ← typeN v
  match op with
  | .Is => mpure (.dat (.bool (n = t)))
  | .IsNot => mpure (.dat (.bool !(n = t)))
  | _ => mfail
noncomputable def cmpM (Q : Prm) (op : CmpOp) (a b : M V) : M V := do
  let x ← a
  let y ← b
  cmpS Q op x y
noncomputable def strM (f : Str → Str) (o : M V) : M V := do
  let ov ← o
  strF f ov
noncomputable def lmM (F : List PyData → List V → Option (PyData × List PyData)) (o : M V) (args : List (M V)) : M V := do
  let ov ← o
  lstG ov
  let vs ← seqS args
  lstF F ov vs
noncomputable def imM (Q : Prm) (o : M V) (name : Str) (args : List (M V)) (kws : List (Str × M V)) : M V := do
  let ov ← o
  instG ov
  let vs ← seqS args
  let ks ← kwS kws
  Q.mt name ov vs ks
noncomputable def mkM (Q : Prm) (ms : List (M V)) : M V := do
  let vs ← seqS ms
  Q.make vs
noncomputable def bltM (F : List V → M V) (ms : List (M V)) : M V := do
  let vs ← seqS ms
  F vs
noncomputable def attrM (o : M V) (name : Str) : M V := do
  let ov ← o
  attrS ov name
noncomputable def itemM (Q : Prm) (o i : M V) : M V := do
  let ov ← o
  let iv ← i
  itemS Q ov iv
noncomputable def sliceM (o : M V) (lo hi : Option (M V)) : M V := do
  let ov ← o
  let a ← optS lo
  let b ← optS hi
  sliceS ov a b
noncomputable def truT (m : M V) : M Bool := do
  let v ← m
  truthS v
noncomputable def ownLstM (Q : Prm) (ms : List (M V)) : M V := do
  let ds ← listS Q ms
  newObj (.lst ds)
noncomputable def fscope (names : List (Str × NameKind)) : Scope := ⟨.function, names, false, false, []⟩

end Mine
end

section
open PySem
set_option Elab.async false
set_option maxRecDepth 10000
namespace Mine

theorem massoc {α β γ : Type} (m : M α) (f : α → M β) (g : β → M γ) : (m >>= f) >>= g = m >>= fun x => f x >>= g := by
  funext σ
  show mbind (mbind m f) g σ = mbind m (fun x => mbind (f x) g) σ
  unfold mbind
  cases m σ with
  | none => rfl
  | some p => rfl

/-! what a text computes, in every frame of its kind -/
noncomputable def EvR (X : Cx) (n : Nat) (se : Env) (e : Expr) (m : M V) : Prop := ∀ env, SameEnv se env → Ev X n env e m
noncomputable def TeR (X : Cx) (n : Nat) (se : Env) (e : Expr) (m : M Bool) : Prop := ∀ env, SameEnv se env → Te X n env e m
noncomputable def EvLR (X : Cx) (n : Nat) (se : Env) (e : List Expr) (m : List (M V)) : Prop := ∀ env, SameEnv se env → EvL X n env e m
noncomputable def TeLR (X : Cx) (n : Nat) (se : Env) (e : List Expr) (m : List (M Bool)) : Prop := ∀ env, SameEnv se env → TeL X n env e m
noncomputable def EvOR (X : Cx) (n : Nat) (se : Env) (e : Option Expr) (m : Option (M V)) : Prop := ∀ env, SameEnv se env → EvO X n env e m
noncomputable def EvKR (X : Cx) (n : Nat) (se : Env) (e : List Keyword) (m : List (Str × M V)) : Prop := ∀ env, SameEnv se env → EvK X n env e m
noncomputable def AsR (X : Cx) (n : Nat) (se : Env) (e : Expr) (m : V → M Unit) : Prop := ∀ env, SameEnv se env → As X n env e m
noncomputable def ExR (X : Cx) (n : Nat) (se : Env) (e : Stmt) (m : M Fl) : Prop := ∀ env, SameEnv se env → Ex X n env e m
noncomputable def ExsR (X : Cx) (n : Nat) (se : Env) (e : List Stmt) (m : M Fl) : Prop := ∀ env, SameEnv se env → Exs X n env e m

section
variable {X : Cx} {n : Nat} {se : Env} {P : Prm} {e l r t b o i : Expr} {es : List Expr} {m a c d : M V} {ms : List (M V)} {pos p q : Pos} {x y f name : Str} {mt mb mc : M Bool}

theorem L_nil : EvLR X n se [] [] := fun _ _ => .nil
theorem L_cons (h : EvR X n se e m) (k : EvLR X n se es ms) : EvLR X n se (e :: es) (m :: ms) := fun v hs => .cons (h v hs) (k v hs)
theorem TL_nil : TeLR X n se [] [] := fun _ _ => .nil
theorem TL_cons {ms : List (M Bool)} (h : TeR X n se e mt) (k : TeLR X n se es ms) : TeLR X n se (e :: es) (mt :: ms) := fun v hs => .cons (h v hs) (k v hs)
theorem OP_none : EvOR X n se none none := fun _ _ => .none
theorem K_nil : EvKR X n se [] [] := fun _ _ => .nil
theorem K_cons {ks : List Keyword} {km : List (Str × M V)} (h : EvR X n se e m) (k : EvKR X n se ks km) : EvKR X n se (⟨some x, e, p⟩ :: ks) ((x, m) :: km) := fun v hs => .cons (h v hs) (k v hs)

theorem D_int {j : Int} {k : Nat} : EvR X n se (.Constant (.int j) k pos) (datM (.int j)) := fun _ _ => Ev_Constant
theorem D_bool {j : Bool} {k : Nat} : EvR X n se (.Constant (.bool j) k pos) (datM (.bool j)) := fun _ _ => Ev_Constant
theorem D_none {k : Nat} : EvR X n se (.Constant .none k pos) (datM .none) := fun _ _ => Ev_Constant
theorem D_str {k : Nat} (h : asc x = true) : EvR X n se (.Constant (.str x) k pos) (datM (.str x)) := fun v hs => by
  have e : constS (.str x) = datM (.str x) := if_pos h
  rw [← e]; exact Ev_Constant
theorem D_name : EvR X n se (.Name x pos) (nameS x) := fun _ _ => Ev_Name
theorem D_bin {op : Operator} (h : EvR X n se l a) (k : EvR X n se r c) : EvR X n se (.BinOp l op r pos) (binM op a c) := fun v hs => Ev_BinOp (h v hs) (k v hs)
theorem D_ifx (h : TeR X n se t mt) (k : EvR X n se b a) (j : EvR X n se o c) : EvR X n se (.IfExp t b o pos) (ifxM mt a c) := fun v hs => Ev_IfExp (h v hs) (k v hs) (j v hs)
theorem D_tup {k : Nat} (h : EvLR X n se es ms) (hst : es.all noStar = true) : EvR X n se (.Tuple es k pos) (tupM P ms) := fun v hs => Ev_Tuple (h v hs) hst
theorem O_lst (h : EvLR X n se es ms) (hst : es.all noStar = true) : EvR X n se (.List es pos) (ownLstM P ms) := fun v hs A ρ μ σ s ga R r σ' q => by
  refine mbind_elim q fun ds σ1 e1 q1 => ?_
  cases q1
  exact wpAny_mono (Fl_List (h v hs) hst ga R e1) (fun _ _ f => f.obj) fun _ _ z => z

/-- a comprehension's parts -/
structure CompP (X : Cx) (n : Nat) (se : Env) (elt tgt iter : Expr) (ifs : List Expr) (sc : Scope) (bind : V → M Unit) (tests : List (M Bool)) (me mi : M V) : Prop where
  c : compOk se sc = true
  i : EvR X n se iter mi
  b : AsR X n (cenvOf sc 0 se) tgt bind
  t : TeLR X n (cenvOf sc 0 se) ifs tests
  e : EvR X n (cenvOf sc 0 se) elt me
  s : noSet iter = true
section
variable {elt tgt iter : Expr} {ifs : List Expr} {sc : Scope} {bind : V → M Unit} {tests : List (M Bool)} {me mi : M V}
theorem Fl_cp (cp : CompP X n se elt tgt iter ifs sc bind tests me mi) {env : Env} (hs : SameEnv se env) {A : Around} {ρ : List Addr} {μ : Mu} {σ : St} {s : Shared} (ga : Ga n A) (R : Rel X ρ μ env σ s.heap) {es : List PyData} {σ' : St} (q : genM sc bind tests me mi σ = some (es, σ')) :
    wpAny (model X.prog X.w) A (eval (.ListComp elt [⟨tgt, iter, ifs, 0⟩] sc pos) env) (FreshX X ρ μ env s es σ') (fun _ _ => False) s := by
  refine mbind_elim q fun v σ2 e2 e3 => ?_
  exact Fl_ListComp (by rw [← hs.compOk]; exact cp.c) (cp.i env hs) (fun C => cp.b _ (hs.comp sc C)) (fun C => cp.t _ (hs.comp sc C)) (fun C => cp.e _ (hs.comp sc C)) (folded_no cp.s) ga R e2 e3
theorem D_lc (cp : CompP X n se elt tgt iter ifs sc bind tests me mi) : EvR X n se (.ListComp elt [⟨tgt, iter, ifs, 0⟩] sc pos) (lcM sc bind tests me mi) := fun v hs A ρ μ σ s ga R r σ' q => by
  refine mbind_elim q fun ds σ1 e1 q1 => ?_
  cases q1
  exact wpAny_mono (Fl_cp cp hs ga R e1) (fun _ _ f => f.dat) fun _ _ z => z
noncomputable def swapB (env : Env) (sc : Scope) (y : Str) (yp p : Pos) : Bool := env.blockKind == .function && env.kindOf y == some .local && yp.line == p.line && !(sc.names.any fun (n, k) => n == y && (k == .local || k == .cell))
theorem swaps_comp {env : Env} {gens : List Comprehension} {yp : Pos} {k : Nat} : swapsWith (.ListComp elt gens sc p) (some (.Name y yp)) k env = pure (swapB env sc y yp p) := rfl

theorem X_asgLc {yp : Pos} (cp : CompP X n se elt tgt iter ifs sc bind tests me mi) (hy : stOk se y = true) : ExR X n se (.Assign [.Name y yp] (.ListComp elt [⟨tgt, iter, ifs, 0⟩] sc pos) p) (asgM y (lcM sc bind tests me mi)) := fun env hs => by
  have hy' : stOk env y = true := by rw [← hs.stOk]; exact hy
  cases hsw : swapB env sc y yp pos with
  | false => exact Ex_Assign (D_lc cp env hs) (As_Name hy') rfl (by rw [swaps_comp, hsw]) rfl
  | true =>
    have q := Ex_CompName (X := X) (n := n) (pos := pos) (yp := yp) (spos := p) false (by rw [← hs.compOk]; exact cp.c) (cp.i env hs) (fun C => cp.b _ (hs.comp sc C)) (fun C => cp.t _ (hs.comp sc C)) (fun C => cp.e _ (hs.comp sc C)) (folded_no cp.s) hy' (by rw [swaps_comp, hsw])
    have e : asgM y (lcM sc bind tests me mi) = (do
      let it ← mi
      let ds ← compV sc bind tests me it
      let v ← bif false then newObj (.lst ds) else mpure (.dat (.list ds))
      setLoc y v
      mpure .next) := by
      unfold asgM lcM genM
      simp only [massoc]
      rfl
    rw [e]; exact q
theorem X_allLc (cp : CompP X n se elt tgt iter ifs sc bind tests me mi) (h : EvR X n se o a) {sp tp : Pos} : ExR X n se (.Assign [.Subscript o (.Slice none none none sp) tp] (.ListComp elt [⟨tgt, iter, ifs, 0⟩] sc pos) p) (asgAllM a (lcM sc bind tests me mi)) :=
  fun env hs => Ex_Assign (D_lc cp env hs) (As_All (h env hs)) rfl rfl rfl
end

theorem D_cmp (ok : CxOk X) (pok : PrmOk X n P) {op : CmpOp} (h : EvR X (n + 1) se l a) (k : EvR X (n + 1) se r c) (hm : noMark op r = true) : EvR X (n + 1) se (.Compare l [op] [r] pos) (cmpM P op a c) := fun v hs => Ev_Compare ok pok (h v hs) (k v hs) hm
theorem D_item (ok : CxOk X) (pok : PrmOk X n P) (h : EvR X (n + 1) se o a) (k : EvR X (n + 1) se i c) (hm : noSlice i = true) : EvR X (n + 1) se (.Subscript o i pos) (itemM P a c) := fun v hs => Ev_Subscript ok pok (h v hs) (k v hs) hm
theorem D_slice {lo hi : Option Expr} {ml mh : Option (M V)} (h : EvR X n se o a) (k : EvOR X n se lo ml) (j : EvOR X n se hi mh) : EvR X n se (.Subscript o (.Slice lo hi none p) pos) (sliceM a ml mh) := fun v hs => Ev_Slice (h v hs) (k v hs) (j v hs)
theorem D_im (ok : CxOk X) (pok : PrmOk X n P) {ks : List Keyword} {km : List (Str × M V)} (h : EvR X (n + 1) se o a) (k : EvLR X (n + 1) se es ms) (j : EvKR X (n + 1) se ks km) (hm : methOk o es ks p pos = true) :
    EvR X (n + 1) se (.Call (.Attribute o name p) es ks pos) (imM P a name ms km) := fun v hs => Ev_InstM ok pok (h v hs) (k v hs) (j v hs) hm
theorem D_sm {id : String} {f : Str → Str} (hS : SMok X name id f) (h : EvR X n se o a) (hm : methOk o [] [] p pos = true) : EvR X n se (.Call (.Attribute o name p) [] [] pos) (strM f a) := fun v hs => Ev_StrM hS (h v hs) hm
theorem D_lm {id : String} {F : List PyData → List V → Option (PyData × List PyData)} (hG : LGok X name id) (hF : LMok X id F) (h : EvR X n se o a) (k : EvLR X n se es ms) (hm : methOk o es [] p pos = true) :
    EvR X n se (.Call (.Attribute o name p) es [] pos) (lmM F a ms) := fun v hs => Ev_LstM hG hF (h v hs) (k v hs) hm
theorem D_len (ok : CxOk X) (pok : PrmOk X n P) (h : EvLR X (n + 1) se es ms) (hst : es.all noStar = true) (hk : gKind se (Str.ofString "len") = true) : EvR X (n + 1) se (.Call (.Name (Str.ofString "len") p) es [] pos) (bltM (lenB P) ms) := fun v hs => Ev_BltB ok (val_len ok) (h v hs) hst (by rw [← hs.gKind]; exact hk) fun ga R hv => W_lenB ok pok ga R hv
theorem D_strB (ok : CxOk X) (h : EvLR X (n + 1) se es ms) (hst : es.all noStar = true) (hk : gKind se (Str.ofString "str") = true) : EvR X (n + 1) se (.Call (.Name (Str.ofString "str") p) es [] pos) (bltM strB ms) := fun v hs => Ev_BltT ok (val_str ok) (h v hs) hst (by rw [← hs.gKind]; exact hk) fun ga R hv => W_strB R hv
theorem D_range (ok : CxOk X) (h : EvLR X (n + 1) se es ms) (hst : es.all noStar = true) (hk : gKind se (Str.ofString "range") = true) : EvR X (n + 1) se (.Call (.Name (Str.ofString "range") p) es [] pos) (bltM rangeB ms) := fun v hs => Ev_BltT ok (val_range ok) (h v hs) hst (by rw [← hs.gKind]; exact hk) fun ga R hv => W_rangeB R hv
theorem D_mk (ok : CxOk X) (pok : PrmOk X n P) (h : EvLR X (n + 1) se es ms) (hst : es.all noStar = true) (hk : gKind se (Str.ofString "Headers") = true) : EvR X (n + 1) se (.Call (.Name (Str.ofString "Headers") p) es [] pos) (mkM P ms) := fun v hs => Ev_Make ok pok (h v hs) hst (by rw [← hs.gKind]; exact hk)
theorem D_attr (ok : CxOk X) : EvR X n se (.Attribute (.Name x p) name pos) (attrM (nameS x) name) := fun _ _ => Ev_Attr ok

/-! tests -/
theorem T_cmp (ok : CxOk X) (pok : PrmOk X n P) {op : CmpOp} (h : EvR X (n + 1) se l a) (k : EvR X (n + 1) se r c) (hm : noMark op r = true) : TeR X (n + 1) se (.Compare l [op] [r] pos) (truT (cmpM P op a c)) := fun v hs => Te_Compare ok pok (h v hs) (k v hs) hm
theorem T_typ (ok : CxOk X) {op : CmpOp} {tp cp : Pos} (h : EvR X n se e m) (hc : typOk se e x = true) : TeR X n se (.Compare (.Call (.Name (Str.ofString "type") p) [e] [] pos) [op] [.Name x tp] cp) (truT (typM op m x)) := fun v hs => Te_Typ ok (h v hs) (by rw [← hs.typOk]; exact hc)
theorem T_plain (h : EvR X n se e m) (hp : plainTest e = true) : TeR X n se e (truT m) := fun v hs => Te_plain hp (h v hs)
theorem T_bool {op : BoolOp} {ms : List (M Bool)} (h : TeLR X n se es ms) : TeR X n se (.BoolOp op es pos) (allTS op ms) := fun v hs => Te_BoolOp (h v hs)

/-! targets -/
theorem A_name (hk : stOk se x = true) : AsR X n se (.Name x p) (setLoc x) := fun v hs => As_Name (by rw [← hs.stOk]; exact hk)
theorem A_two {k : Nat} {A B : V → M Unit} (h : AsR X n se t A) (j : AsR X n se b B) (hst : (noStar t && noStar b) = true) : AsR X n se (.Tuple [t, b] k p) (two A B) := fun v hs => by
  have q := As_Tuple (k := k) (p := p) (h v hs) (j v hs) hst
  intro A' ρ μ σ s v z ga R hv
  have q := q A' ρ μ σ s v z ga R hv
  cases v with
  | dat d =>
    cases d with
    | tuple l =>
      match l, q with
      | [a, b], q => exact q
      | [], q => exact q
      | [_], q => exact q
      | _ :: _ :: _ :: _, q => exact q
    | _ => exact q
  | _ => exact q

/-! statements -/
theorem X_expr (h : EvR X n se e m) (hc : noComp e = true) : ExR X n se (.Expr e pos) (exprM m) := fun v hs => Ex_Expr (h v hs) hc
theorem X_ret (h : EvR X n se e m) : ExR X n se (.Return (some e) pos) (retM m) := fun v hs => Ex_Return (h v hs)
theorem X_fail {st : Stmt} : ExR X n se st mfail := fun v hs A ρ μ σ s ga R r σ' q => by cases q
theorem X_asg (h : EvR X n se e m) (hk : stOk se x = true) (hc : noComp e = true) : ExR X n se (.Assign [.Name x p] e pos) (asgM x m) := fun v hs =>
  Ex_Assign (h v hs) (A_name hk v hs) rfl (swaps_no hc _ _) (swapped_no rfl)
theorem X_asgIt (ok : CxOk X) (pok : PrmOk X n P) (h : EvR X (n + 1) se e m) (k : EvR X (n + 1) se o a) (j : EvR X (n + 1) se i c) (hc : noComp e = true) : ExR X (n + 1) se (.Assign [.Subscript o i p] e pos) (asgItM P a c m) := fun v hs =>
  Ex_Assign (h v hs) (As_Sub ok pok (k v hs) (j v hs)) rfl (swaps_no hc _ _) (swapped_no rfl)
theorem X_asgAttr (ok : CxOk X) (h : EvR X n se e m) (k : EvR X n se o a) (hc : noComp e = true) : ExR X n se (.Assign [.Attribute o name p] e pos) (asgAttrM a name m) := fun v hs =>
  Ex_Assign (h v hs) (As_Attr ok (k v hs)) rfl (swaps_no hc _ _) (swapped_no rfl)
theorem X_aug {op : Operator} (h : EvR X n se e m) (hk : stOk se x = true) (ho : augOk op = true) : ExR X n se (.AugAssign (.Name x p) op e pos) (augM x op m) := fun v hs => Ex_Aug (h v hs) (by rw [← hs.stOk]; exact hk) ho
theorem X_del (ok : CxOk X) (pok : PrmOk X n P) (h : EvR X (n + 1) se o a) (k : EvR X (n + 1) se i c) : ExR X (n + 1) se (.Delete [.Subscript o i p] pos) (delM P a c) := fun v hs => Ex_Delete ok pok (h v hs) (k v hs)
theorem X_if {ts fs : List Stmt} {mT mF : M Fl} (h : TeR X n se t mt) (k : ExsR X n se ts mT) (j : ExsR X n se fs mF) : ExR X n se (.If t ts fs pos) (ifM mt mT mF) := fun v hs => Ex_If (h v hs) (k v hs) (j v hs)
theorem X_for {ts : List Stmt} {mT : M Fl} {bind : V → M Unit} (h : EvR X n se e m) (k : AsR X n se t bind) (j : ExsR X n se ts mT) (hs' : noSet e = true) : ExR X n se (.For t e ts [] pos) (forM bind mT m) := fun v hs => Ex_For (h v hs) (k v hs) (j v hs) (folded_no hs')
theorem S_nil : ExsR X n se [] endM := fun _ _ => Exs_nil
theorem S_cons {st : Stmt} {rs : List Stmt} {mS mR : M Fl} (h : ExR X n se st mS) (k : ExsR X n se rs mR) : ExsR X n se (st :: rs) (thenM mS mR) := fun v hs => Exs_cons (h v hs) (k v hs)
end
end Mine
end

section
open PySem
set_option Elab.async false
set_option maxRecDepth 10000
namespace Mine

section
variable {X : Cx} {n : Nat} {se : Env} {P : Prm} {e t b : Expr} {m : M V} {pos p q : Pos} {x y : Str}

end
end Mine
end

section
open PySem
set_option Elab.async false
set_option maxRecDepth 10000
namespace Mine

theorem cellsFrom_keys : ∀ {names : List (Str × NameKind)} {k : Nat} {acc : List (Str × Addr)}, (cellsFrom k names acc).map (·.1) = ((names.filter (·.2 == .cell)).map (·.1)).reverse ++ acc.map (·.1)
  | [], _, _ => rfl
  | (nm, kd) :: r, k, acc => by
    unfold cellsFrom
    cases hk : (kd == NameKind.cell) with
    | true => simp only [hk, if_true, List.filter_cons, List.map_cons, List.reverse_cons]; rw [cellsFrom_keys]; simp
    | false => simp only [hk, Bool.false_eq_true, if_false, List.filter_cons]; exact cellsFrom_keys

theorem lookup_of_mem {l : List (Str × Addr)} (hn : (l.map (·.1)).Nodup) {x : Str} {c : Addr} (hm : (x, c) ∈ l) : l.lookup x = some c := by
  induction l with
  | nil => cases hm
  | cons p l ih =>
    rw [List.map_cons, List.nodup_cons] at hn
    rw [List.lookup_cons]
    rcases List.mem_cons.mp hm with e | hm
    · subst e; simp
    · have : (x == p.1) = false := by
        rw [Bool.eq_false_iff]; intro q
        have q := beq_iff_eq.mp q
        exact hn.1 (q ▸ List.mem_map.mpr ⟨_, hm, rfl⟩)
      rw [this]; exact ih hn.2 hm

theorem bindL_miss {k : Str → Option NameKind} : ∀ {binds : List (Str × Value)} {m : Str → Option Value} {x : Str}, x ∉ binds.map (·.1) → bindL k binds m x = m x
  | [], _, _, _ => rfl
  | (nm, v) :: r, m, x, h => by
    rw [List.map_cons, List.mem_cons, not_or] at h
    unfold bindL
    rw [bindL_miss h.2]
    split
    · exact if_neg h.1
    · rfl
theorem bindC_miss {k : Str → Option NameKind} : ∀ {binds : List (Str × Value)} {m : Str → Option Value} {x : Str}, x ∉ binds.map (·.1) → bindC k binds m x = m x
  | [], _, _, _ => rfl
  | (nm, v) :: r, m, x, h => by
    rw [List.map_cons, List.mem_cons, not_or] at h
    unfold bindC
    rw [bindC_miss h.2]
    split
    · rfl
    · exact if_neg h.1
theorem bindL_get {k : Str → Option NameKind} {x : Str} {val : Value} (hk : k x = some .local) : ∀ {binds : List (Str × Value)} {m : Str → Option Value}, (binds.map (·.1)).Nodup → binds.lookup x = some val → bindL k binds m x = some val
  | [], _, _, h => by simp at h
  | (nm, v) :: r, m, hn, h => by
    rw [List.map_cons, List.nodup_cons] at hn
    rw [List.lookup_cons] at h
    unfold bindL
    cases q : (x == nm) with
    | true =>
      rw [q] at h; cases h
      have q := beq_iff_eq.mp q
      subst q
      rw [bindL_miss hn.1, if_pos hk]; simp
    | false => rw [q] at h; exact bindL_get hk hn.2 h
theorem bindC_get {k : Str → Option NameKind} {x : Str} {val : Value} (hk : k x ≠ some .local) : ∀ {binds : List (Str × Value)} {m : Str → Option Value}, (binds.map (·.1)).Nodup → binds.lookup x = some val → bindC k binds m x = some val
  | [], _, _, h => by simp at h
  | (nm, v) :: r, m, hn, h => by
    rw [List.map_cons, List.nodup_cons] at hn
    rw [List.lookup_cons] at h
    unfold bindC
    cases q : (x == nm) with
    | true =>
      rw [q] at h; cases h
      have q := beq_iff_eq.mp q
      subst q
      rw [bindC_miss hn.1, if_neg hk]; simp
    | false => rw [q] at h; exact bindC_get hk hn.2 h

/-- names with values, abstract and real -/
theorem zip_val {h : Heap} {ok : Addr → Prop} {μ : Mu} {x : Str} {v : V} : ∀ {ps : List Str} {vs : List V} {xs : List Value}, VRl h ok μ vs xs → bindP ps vs x = some v → ∃ val, (ps.zip xs).lookup x = some val ∧ VR h ok μ v val
  | [], _, _, _, e => by simp [bindP] at e
  | p :: ps, [], _, _, e => by simp [bindP] at e
  | p :: ps, w :: vs, _, hv, e => by
    obtain ⟨y, r, rfl, h1, h2⟩ := hv
    unfold bindP at e
    rw [List.zip_cons_cons, List.lookup_cons] at e ⊢
    cases q : (x == p) with
    | true => rw [q] at e; cases e; exact ⟨y, rfl, h1⟩
    | false => rw [q] at e; exact zip_val h2 e

structure FnOk (X : Cx) (f : Addr) (fd : FuncData) (body : List Stmt) (ps : List Str) : Prop where
  at_ : ∃ o, X.base.get? f = some o ∧ o.data = .func fd
  code : X.base.CodeRec fd.code fd.qualname
  body : fd.body = .stmts body
  clo : fd.closure = []
  glob : fd.globals = mainGlobals
  blt : fd.builtins = builtinsNs
  kind : fd.scope.kind = .function
  co : fd.scope.isCoroutine = false
  gen : fd.scope.isGenerator = false
  nod : (fd.scope.names.map (·.1)).Nodup
  pnod : ps.Nodup
  pk : ∀ p ∈ ps, fd.scope.names.lookup p = some .local ∨ fd.scope.names.lookup p = some .cell

noncomputable def fnEnv (sc : Scope) : Env := { scope := sc, locals := 0, globals := 0, cells := cellsFrom 0 sc.names [], func := some 0 }

theorem fnEnv_same (fd : FuncData) (L a : Addr) : SameEnv (fnEnv fd.scope) (callEnvC fd L a) :=
  ⟨rfl, isSome_keys (by show (cellsFrom 0 fd.scope.names []).map (·.1) = (cellsFrom (L + 1) fd.scope.names []).map (·.1); rw [cellsFrom_keys, cellsFrom_keys]), rfl⟩

section
variable {X : Cx} {n : Nat} {env : Env} {P : Prm} {A : Around} {ρ : List Addr} {μ μ' : Mu} {σ : St} {s : Shared} {h h' : Heap}

theorem Rel.cellNoRoot (R : Rel X ρ μ env σ h) {C : Addr} {v : Option Value} (hn : h.IsCell C v) (j : Nat) : root μ j ≠ some C := fun hj => by
  obtain ⟨o, h1, h2⟩ := hn
  unfold root at hj
  obtain ⟨p, g1, rfl⟩ := Option.map_eq_some_iff.mp hj
  have hlt : j < σ.heap.length := by rw [← R.len]; exact (List.getElem?_eq_some_iff.mp g1).1
  obtain ⟨q, g2, g3⟩ := R.objs j _ (List.getElem?_eq_getElem hlt)
  rw [g1] at g2; cases g2
  generalize σ.heap[j] = ob at g3
  cases ob with
  | lst ds => obtain ⟨vs, n, _, h4, _⟩ := g3; rw [h4] at h1; cases h1; cases h2
  | frz ds => obtain ⟨vs, n, _, h4, _⟩ := g3; rw [h4] at h1; cases h1; cases h2
  | inst l => obtain ⟨d, _, h4, _⟩ := g3; rw [h4] at h1; cases h1; cases h2
  | dctS kvs => obtain ⟨o, _, _, h4, _, h5⟩ := DctR.live g3; rw [h4] at h1; cases h1; rw [h5] at h2; cases h2
  | dctI kvs => obtain ⟨o, _, _, h4, _, h5⟩ := DctR.live g3; rw [h4] at h1; cases h1; rw [h5] at h2; cases h2

theorem Step.transG {wr : List Addr} {s₁ s₂ : Shared} (a : Step [] μ μ s s₁) (b : Step wr μ μ' s₁ s₂) (hf : ∀ x ∈ wr, s.heap.get? x = none) : Step [] μ μ' s s₂ := by
  obtain ⟨h1, t1, e1⟩ := a.same
  obtain ⟨h2, t2, e2⟩ := b.same
  refine ⟨⟨h2, t2, by rw [e2, e1]⟩, fun x o e hm ho => ?_, fun x o e => ?_, b.pre, fun x hx => ?_⟩
  · refine b.keep x o (a.keep x o e hm ho) hm fun hw => ?_
    rw [hf x hw] at e; cases e
  · obtain ⟨o1, q⟩ := a.live x o e
    exact b.live x o1 q
  · rcases b.new x hx with h | h
    · exact .inl h
    · right
      cases q : s.heap.get? x with
      | none => rfl
      | some o =>
        obtain ⟨o1, q1⟩ := a.live x o q
        rw [h] at q1; cases q1

noncomputable def flowV : Flow → Value
  | .ret v => v
  | _ => .none

theorem FlR.val {ok : Addr → Prop} {fl : Fl} {x : Flow} (v2 : FlR h ok μ fl x) : VR h ok μ (retV fl) (flowV x) := by
  cases fl with
  | ret v => obtain ⟨y, h1, hy⟩ := v2; subst h1; exact hy
  | next => have h1 : x = Flow.next := v2; subst h1; simp only [VR, DR, retV, flowV]
  | brk => have h1 : x = Flow.brk := v2; subst h1; simp only [VR, DR, retV, flowV]
  | cont => have h1 : x = Flow.cont := v2; subst h1; simp only [VR, DR, retV, flowV]

set_option maxHeartbeats 1000000 in
/-- a def is entered -/
theorem Call_in (ok : CxOk X) {f : Addr} {fd : FuncData} {body : List Stmt} {ps : List Str} {mb : M Fl} (fo : FnOk X f fd body ps) (hB : ∀ env', SameEnv (fnEnv fd.scope) env' → Exs X (n + 1) env' body mb) (ga : Ga (n + 2) A) (R : Rel X ρ μ env σ s.heap)
    {vs : List V} {ys : List Value} (hv : VRl s.heap (okOf ρ μ) μ vs ys) {r : V} {σ' : St} (e : callB ps mb vs σ = some (r, σ')) {E : Value → Shared → Prop} :
    wpAny (model X.prog X.w) A.in1 (newFunctionEnv fd.scope fd.globals fd.closure (ps.zip ys) (fd.qualname ++ ".<locals>.") (some f) fd.code none fd.builtins)
      (fun ev s₂ => s₂.heap.NoLimit ∧ codeAny (model X.prog X.w) A (.func body ev) (fun q s' => match q with | .ok (.ret v) => Post X ρ μ env s VRr r σ' v s' | .ok _ => False | .error _ => False) s₂) E s := by
  unfold callB at e
  split at e
  · rename_i hlen
    cases hbody : mb ⟨bindP ps vs, σ.heap⟩ with
    | none => rw [hbody] at e; cases e
    | some p =>
      obtain ⟨fl, σ2⟩ := p
      rw [hbody] at e
      have hyl := hv.length
      have hzk : (ps.zip ys).map (·.1) = ps := by
        rw [List.map_fst_zip]
        omega
      rw [fo.clo]
      have hkeys : ∀ k, ((cellsFrom k fd.scope.names []).map (·.1)).Nodup := fun k => by
        rw [cellsFrom_keys]
        simp only [List.map_nil, List.append_nil]
        refine List.pairwise_reverse.mpr (List.Pairwise.imp (fun hh => Ne.symm hh) ?_)
        exact List.Nodup.sublist (List.Sublist.map _ List.filter_sublist) fo.nod
      have hcellin : ∀ k x, fd.scope.names.lookup x = some .cell → ((cellsFrom k fd.scope.names []).lookup x).isSome = true := fun k x hx => lookup_isSome (by
        rw [cellsFrom_keys]
        simp only [List.map_nil, List.append_nil, List.mem_reverse, List.mem_map, List.mem_filter]
        exact ⟨(x, .cell), ⟨lookup_mem_key hx, rfl⟩, rfl⟩)
      refine wpAny_newFunctionEnv_cells fo.kind (fun p hp => ?_) fun env' he' s₁ ic => ?_
      · have hp1 : p.1 ∈ ps := by rw [← hzk]; exact List.mem_map.mpr ⟨p, hp, rfl⟩
        rcases fo.pk p.1 hp1 with h | h
        · exact .inl h
        · exact .inr ⟨h, hcellin _ _ h⟩
      · have he'' : env' = callEnvC fd s.heap.objs.size f := he'
        refine ⟨(ok.nolimit.keeps R.base).keeps ic.toInCall.keep, codeAny_func ?_⟩
        have hEs : SameEnv (fnEnv fd.scope) env' := by rw [he'']; exact fnEnv_same fd _ _
        have hkd : env'.scope = fd.scope := by rw [he'']; rfl
        have hloc : env'.locals = s.heap.objs.size := by rw [he'']; rfl
        have hcls : env'.cells = cellsFrom (s.heap.objs.size + 1) fd.scope.names [] := by rw [he'']; rfl
        have hfr : ∀ b ∈ own env', s.heap.get? b = none := fun b hb' => by
          have hge : s.heap.objs.size ≤ b := by
            rcases List.mem_cons.mp hb' with rfl | hb'
            · exact Nat.le_of_eq hloc.symm
            · obtain ⟨⟨nm, c⟩, h1, rfl⟩ := List.mem_map.mp hb'
              have := ic.above nm c h1
              rw [hloc] at this
              exact Nat.le_of_lt this
          cases q : s.heap.get? b with
          | none => rfl
          | some o => exact absurd (Heap.lt_size q) (Nat.not_lt.mpr hge)
        have hcellsIs : ∀ nm c, (nm, c) ∈ env'.cells → ∃ v, s₁.heap.IsCell c v := fun nm c hm => ⟨_, ic.cell nm c (lookup_of_mem (by rw [hcls]; exact hkeys _) hm)⟩
        have F' : FrameR env' s₁.heap (bindL env'.kindOf (ps.zip ys) fun _ => none) (bindC env'.kindOf (ps.zip ys) fun _ => none) :=
          ⟨by rw [hkd]; exact fo.kind, by rw [he'']; exact fo.glob, by rw [he'']; exact fo.blt, ic.toInCall.ns, ic.cell, hcellsIs, ic.apart⟩
        have hlv : ∀ b ∈ own env', ∃ o, s₁.heap.get? b = some o := fun b hb' => by
          rcases List.mem_cons.mp hb' with rfl | hb'
          · obtain ⟨o, _, _, q, _⟩ := F'.ns; exact ⟨o, q⟩
          · obtain ⟨⟨nm, c⟩, h1, rfl⟩ := List.mem_map.mp hb'
            obtain ⟨v, o, q, _⟩ := hcellsIs nm c h1
            exact ⟨o, q⟩
        obtain ⟨hh, tk, rfl⟩ := ic.toInCall.same
        have Rr : Rel X (own env' ++ ρ) μ env σ hh := Rel.reserve (R.ext ic.toInCall.keep) (h₂ := s.heap) hfr R ic.toInCall.keep hlv
        have Rc : Rel X (own env' ++ ρ) μ env' ⟨bindP ps vs, σ.heap⟩ hh := by
          refine Rr.reframe (fun b hb' => List.mem_append_left _ hb') ?_ ⟨_, _, F', fun x v ev => ?_⟩
          · rw [hloc]
            have h1 := R.above
            obtain ⟨m, cm, F, _⟩ := R.frame
            obtain ⟨o, _, _, q, _⟩ := F.ns
            exact Nat.le_of_lt (Nat.lt_of_le_of_lt h1 (Heap.lt_size q))
          · obtain ⟨val, g1, g2⟩ := zip_val hv ev
            have hxp : x ∈ ps := by rw [← hzk]; exact List.mem_map.mpr ⟨_, mem_of_lookup g1, rfl⟩
            refine ⟨val, ?_, g2.mono (fun _ _ e => e) fun a o q e => ⟨ic.toInCall.keep a o e, fun hm => ?_, q.2⟩⟩
            · have hkx : env'.kindOf x = fd.scope.names.lookup x := by unfold Env.kindOf; rw [hkd]
              unfold valOf
              rcases fo.pk x hxp with h | h
              · rw [hkx, h]
                exact bindL_get (by rw [hkx, h]) (by rw [hzk]; exact fo.pnod) g1
              · rw [hkx, h]
                simp only [hcls, hcellin _ x h, if_true]
                exact bindC_get (by rw [hkx, h]; decide) (by rw [hzk]; exact fo.pnod) g1
            · rcases List.mem_append.mp hm with hm | hm
              · rw [hfr a hm] at e; cases e
              · exact q.1 hm
        have st₁ : Step [] μ μ s { s with heap := hh, toks := tk } := .grow ic.toInCall.keep
        refine wpAny_mono (hB env' hEs (A.deeper env') _ μ ⟨bindP ps vs, σ.heap⟩ { s with heap := hh, toks := tk } ga.deeper Rc fl σ2 hbody) (fun x s' z => ?_) fun _ _ z => z.elim
        first | refine post_elim z fun μ2 st2 R2 v2 => ?_ | obtain ⟨μ2, st2, R2, v2⟩ := z
        have hwf : ∀ b ∈ wrt env', s.heap.get? b = none := fun b hb' => hfr b (wrt_own hb')
        have stG := st₁.transG st2 hwf
        -- the value
        have hval := FlR.val v2
        have hout : ∀ b ∈ own env', b ∉ ρ := fun b hb' => (R.notIn (hfr b hb')).1
        have hframe : ∀ {μ3 : Mu}, μ <+: μ3 → (∀ b ∈ foot μ3, b ∈ foot μ ∨ s.heap.get? b = none) → ∃ m cm, FrameR env s'.heap m cm ∧ ∀ x v, σ.loc x = some v → ∃ val, valOf env m cm x = some val ∧ VR s'.heap (okOf (own env' ++ ρ) μ3) μ3 v val := by
          intro μ3 pre hnew
          obtain ⟨m, cm, F, l⟩ := R.frame
          refine ⟨m, cm, F.at fun b hb' o q => stG.keep b o q (R.dis b (R.own b hb')) (by simp), fun x v ev => ?_⟩
          obtain ⟨val, q1, q2⟩ := l x v ev
          refine ⟨val, q1, q2.mono (fun _ _ => root_prefix pre) fun a o q e => ⟨stG.keep a o e q.2 (by simp), fun hm => ?_, fun hm => ?_⟩⟩
          · rcases List.mem_append.mp hm with hm | hm
            · rw [hfr a hm] at e; cases e
            · exact q.1 hm
          · rcases hnew a hm with hm | hm
            · exact q.2 hm
            · rw [e] at hm; cases hm
        have hnoR : ∀ {μ3 : Mu} {σ3 : St}, Rel X (own env' ++ ρ) μ3 env' σ3 s'.heap → ∀ a ∈ own env', ∀ j, root μ3 j ≠ some a := fun R3 a ha j => by
          obtain ⟨m, cm, F3, _⟩ := R3.frame
          rcases List.mem_cons.mp ha with rfl | ha
          · exact R3.nsNoRoot (R3.own _ (.head _)) F3.ns j
          · obtain ⟨⟨nm, c⟩, h1, rfl⟩ := List.mem_map.mp ha
            obtain ⟨v, q⟩ := F3.cells nm c h1
            exact R3.cellNoRoot q j
        have okdown : ∀ {μ3 : Mu} a o, okOf (own env' ++ ρ) μ3 a → s'.heap.get? a = some o → s'.heap.get? a = some o ∧ okOf ρ μ3 a := fun a o q e => ⟨e, fun hm => q.1 (List.mem_append_right _ hm), q.2⟩
        dsimp only at e
        split at e
        · rename_i σ3 hc
          cases e
          have hokv : okV σ.heap.length (retV fl) = true := by
            cases q : okV σ.heap.length (retV fl) with
            | true => rfl
            | false => rw [q] at hc; cases hc
          rw [hokv, if_pos rfl] at hc
          rw [← R.len] at hokv hc
          have R3 := R2.cut st2.pre hc
          have R4 : Rel X (own env' ++ ρ) μ env ⟨σ.loc, σ3.heap⟩ s'.heap := R3.reframe (fun b hb' => List.mem_append_right _ (R.own b hb')) R.above (hframe (List.prefix_refl _) fun _ h => .inl h)
          have fin : Post X ρ μ env s VRr (retV fl) ⟨σ.loc, σ3.heap⟩ (flowV x) s' := ⟨μ, stG.cut.weak, R4.leave R.own hout (hnoR R3) fun _ _ _ e => e, (hval.cut st2.pre hokv).mono (fun _ _ e => e) okdown⟩
          cases x <;> exact fin
        · cases e
          have R4 : Rel X (own env' ++ ρ) μ2 env ⟨σ.loc, σ2.heap⟩ s'.heap := R2.reframe (fun b hb' => List.mem_append_right _ (R.own b hb')) R.above (hframe st2.pre fun b hb' => stG.new b hb')
          have fin : Post X ρ μ env s VRr (retV fl) ⟨σ.loc, σ2.heap⟩ (flowV x) s' := ⟨μ2, stG.weak, R4.leave R.own hout (hnoR R2) fun _ _ _ e => e, hval.mono (fun _ _ e => e) okdown⟩
          cases x <;> exact fin
  · cases e


/-- how the arguments come to the names: things may be laid down for it -/
noncomputable def Binds (X : Cx) (ρ : List Addr) (μ : Mu) (s : Shared) (fd : FuncData) (args : Args) (ps : List Str) (vs : List V) : Prop :=
  ∀ (A : Around) (E : Value → Shared → Prop) (Q : List (Str × Value) → Shared → Prop), (∀ (h : Heap) (tk : Nat) (ys : List Value), (∀ b o, s.heap.get? b = some o → h.get? b = some o) → VRl h (okOf ρ μ) μ vs ys → Q (ps.zip ys) { s with heap := h, toks := tk }) →
    wpAny (model X.prog X.w) A (bindArgs fd args) Q E s
theorem Binds.of {fd : FuncData} {args : Args} {ps : List Str} {vs : List V} {ys : List Value} (hv : VRl s.heap (okOf ρ μ) μ vs ys) (hb : BindsTo s fd args (ps.zip ys)) : Binds X ρ μ s fd args ps vs :=
  fun A E Q hq => hb _ _ _ _ (hq s.heap s.toks ys (fun _ _ e => e) hv)

/-- a def is called -/
theorem Call_code (ok : CxOk X) {f : Addr} {fd : FuncData} {body : List Stmt} {ps : List Str} {mb : M Fl} (fo : FnOk X f fd body ps) (hB : ∀ env', SameEnv (fnEnv fd.scope) env' → Exs X (n + 1) env' body mb) (ga : Ga (n + 2) A) (R : Rel X ρ μ env σ s.heap)
    {vs : List V} {xs : List Value} {kx : List (Str × Value)} (hb : Binds X ρ μ s fd ⟨xs, kx⟩ ps vs) :
    ∀ r σ', callB ps mb vs σ = some (r, σ') → codeAny (model X.prog X.w) A (.call (.ref f) ⟨xs, kx⟩) (fun q s' => match q with | .ok (.ret v) => Post X ρ μ env s VRr r σ' v s' | .ok _ => False | .error _ => False) s := by
  intro r σ' e
  obtain ⟨o, ho, hd⟩ := fo.at_
  refine codeAny_call_function ga.room (R.base f o ho) hd fo.co fo.gen fo.body (fo.code.keeps R.base) (hb _ _ _ fun h tk ys hk hv => ?_)
  refine wpAny_mono (Call_in (s := { s with heap := h, toks := tk }) ok fo hB ga (R.ext hk) hv e) (fun ev s₂ z => ⟨z.1, codeAny_mono z.2 fun q s' y => ?_⟩) fun _ _ z => z
  cases q with
  | ok x =>
    cases x with
    | ret v => exact post_up (.grow hk) y
    | _ => exact y
  | error x => exact y

theorem Call_body (ok : CxOk X) {f : Addr} {fd : FuncData} {body : List Stmt} {ps : List Str} {mb : M Fl} (fo : FnOk X f fd body ps) (hB : ∀ env', SameEnv (fnEnv fd.scope) env' → Exs X (n + 1) env' body mb) (ga : Ga (n + 2) A) (R : Rel X ρ μ env σ s.heap)
    {vs : List V} {xs : List Value} {kx : List (Str × Value)} (hb : Binds X ρ μ s fd ⟨xs, kx⟩ ps vs) : W X A ρ μ env s VRr (call (.ref f) xs kx) (callB ps mb vs σ) :=
  fun r σ' e => wpAny_call (codeAny_mono (Call_code ok fo hB ga R hb r σ' e) fun q s' z => by
    cases q with
    | ok x => cases x <;> exact z
    | error x => exact z)

end
end Mine
end

section
open PySem
set_option Elab.async false
set_option maxRecDepth 100000
namespace Mine

theorem slot_search : Slot "re.Pattern" "search" "re.Pattern.search" :=
  .of (owner := "re.Pattern") (n := "search") (by rw [typeLookup_type, builtinLookup_eq_fast]; kernel_rfl) (by decide +kernel) (by decide +kernel) (by decide +kernel)
    (by first | exact .inl (by decide +kernel) | exact .inr (by decide +kernel)) (by rw [isSubtype_type]; kernel_rfl)
theorem type_search : typeOf (.builtin "re.Pattern.search") = pure (.type "method_descriptor") := by show builtinType _ = _; rw [builtinType_eq_fast]; kernel_rfl
theorem entry_search : entryFor table "re.Pattern.search" = some Builtin.«re.Pattern.search» := entryFor_of_tree (by kernel_rfl)
theorem plain_pattern : PlainAttrs "re.Pattern" :=
  ⟨⟨"object.__getattribute__", by rw [typeLookup_type, builtinLookup_eq_fast]; kernel_rfl, by decide +kernel⟩, by rw [typeLookup_type, builtinLookup_eq_fast]; kernel_rfl⟩
theorem args_search (a b : Value) : argsOk "re.Pattern.search" ⟨[a, b], []⟩ := by
  unfold argsOk; kernel_rfl


/-! the machine on printable text -/
open PySem.Sre

noncomputable def codeOk (code : Array Nat) : Prop := (∀ c seen, 32 ≤ c → c < 127 → ∃ seen', inSet code c code.size 5 true seen = .ok (false, seen')) ∧ (∀ m : Sre.M, m.code = code → m.hasFirstSet = true)

theorem admitted_none {m : Sre.M} (hc : ∀ c seen, 32 ≤ c → c < 127 → ∃ seen', inSet m.code c m.code.size 5 true seen = .ok (false, seen')) (ht : ∀ i, i < m.lim → 32 ≤ m.text.getD i 0 ∧ m.text.getD i 0 < 127) :
    ∀ (fuel s : Nat) (seen : Seen), ∃ seen', Sre.M.admitted m fuel s seen = .ok (none, seen')
  | 0, s, seen => ⟨seen, rfl⟩
  | fuel + 1, s, seen => by
    unfold Sre.M.admitted
    split
    · exact ⟨seen, rfl⟩
    · rename_i hs
      obtain ⟨h1, h2⟩ := ht s (by omega)
      obtain ⟨seen', e⟩ := hc _ seen h1 h2
      rw [e]
      exact admitted_none hc ht fuel (s + 1) seen'

theorem attempt_none {m : Sre.M} (hf : m.hasFirstSet = true) (hc : ∀ c seen, 32 ≤ c → c < 127 → ∃ seen', inSet m.code c m.code.size 5 true seen = .ok (false, seen')) (ht : ∀ i, i < m.lim → 32 ≤ m.text.getD i 0 ∧ m.text.getD i 0 < 127) (k : Nat) (first : Bool) :
    ∃ seen', m.attemptFrom k first = ({ m with seen := seen' } : Sre.M).say false := by
  unfold Sre.M.attemptFrom
  rw [hf]
  simp only [Bool.not_true, Bool.false_eq_true, if_false]
  obtain ⟨seen', e⟩ := admitted_none hc ht (m.lim + 1 - k) k m.seen
  rw [e]
  exact ⟨seen', rfl⟩

theorem search_said {code text : Array Nat} {groups : Nat} (hc : codeOk code) (ht : ∀ c ∈ text.toList, 32 ≤ c ∧ c < 127) :
    (forSearch code text groups 0 text.size false).answer = some false ∧ (forSearch code text groups 0 text.size false).frames = [] ∧ (forSearch code text groups 0 text.size false).outcome = none := by
  have ht' : ∀ i, i < text.size → 32 ≤ text.getD i 0 ∧ text.getD i 0 < 127 := fun i hi => by
    have : text.getD i 0 = text[i] := by simp [Array.getD, hi]
    rw [this]
    exact ht _ (by simp)
  unfold forSearch
  dsimp only
  split
  · exact ⟨rfl, rfl, rfl⟩
  · generalize hm : Sre.M.attemptFrom _ 0 true = m
    obtain ⟨seen', e⟩ : ∃ seen', m = _ := by
      rw [← hm]
      exact attempt_none (hc.2 _ rfl) hc.1 ht' 0 true
    rw [e]
    exact ⟨rfl, rfl, rfl⟩

theorem search_run {code text : Array Nat} {groups : Nat} (hc : codeOk code) (ht : ∀ c ∈ text.toList, 32 ≤ c ∧ c < 127) : ((forSearch code text groups 0 text.size false).runFor Builtin.Re.reTurnSteps).outcome = some .failed := by
  obtain ⟨h1, h2, h3⟩ := search_said (groups := groups) hc ht
  generalize forSearch code text groups 0 text.size false = m at h1 h2 h3
  unfold Builtin.Re.reTurnSteps
  unfold Sre.M.runFor
  rw [h3]
  simp only [Option.isSome_none, Bool.false_eq_true, if_false]
  have hs : m.step = { m with outcome := some .failed } := by
    unfold Sre.M.step
    rw [h1, h2, h3]
    simp
  rw [hs]
  unfold Sre.M.runFor
  simp

theorem wp_drive {M : Model} {A : Around} {E : Value → Shared → Prop} {s : Shared} {m : Sre.M} {Q : Option Sre.M → Shared → Prop} (hm : (m.runFor Builtin.Re.reTurnSteps).outcome = some .failed) (hq : Q none s) : wpAny M A (Builtin.Re.reRunToEnd m) Q E s := by
  unfold Builtin.Re.reRunToEnd
  have e1 : Builtin.Re.reDrive (2 ^ 64) m = pure (m.runFor Builtin.Re.reTurnSteps) := by
    show Builtin.Re.reDrive (18446744073709551615 + 1) m = _
    rw [Builtin.Re.reDrive]
    simp only [hm, Option.isSome_some, if_true]
  rw [e1]
  refine wpAny_bind (wpAny_pure ?_)
  generalize m.runFor Builtin.Re.reTurnSteps = m' at hm
  have loop : ∀ (l : List Nat) (Q' : PUnit → Shared → Prop), Q' ⟨⟩ s → wpAny M A (forIn l PUnit.unit fun i _ => if m'.seen.has i = true then do rule (Sre.names.getD i ""); pure (ForInStep.yield PUnit.unit) else pure (ForInStep.yield PUnit.unit)) Q' E s := by
    intro l
    induction l with
    | nil => intro Q' h; exact wpAny_pure h
    | cons i l ih =>
      intro Q' h
      rw [List.forIn_cons]
      split
      · exact wpAny_bind (wpAny_bind (wpAny_rule (wpAny_pure (ih Q' h))))
      · exact wpAny_bind (wpAny_pure (ih Q' h))
  refine wpAny_bind (loop _ _ ?_)
  rw [hm]
  exact wpAny_pure hq

end Mine
end

section
open PySem
set_option Elab.async false
set_option maxRecDepth 100000
namespace Mine
open PySem.Sre

theorem named_search (v : Value) : Builtin.Re.reNamed "re.Pattern.search" "search" ["string", "pos", "endpos"] 1 [v] [] = pure [some v, none, none] := by kernel_rfl

noncomputable def patObj (pat fl : Value) (c : Addr) : Obj := { cls := .type "re.Pattern", data := .fields #[pat, fl, .int 0 0, .none, .none, .ref c, .int 0 0] }

theorem call_search {prog : Program} {w : World} {A : Around} {E : Value → Shared → Prop} {s : Shared} {p c : Addr} {pat fl : Value} {cv : Array Value} {k : Nat} {oc : Obj} {x : Str} {t : Tok} {Q : Value → Shared → Prop} (hp : s.heap.get? p = some (patObj pat fl c)) (hc : s.heap.get? c = some oc) (hcd : oc.data = .seq cv k)
    (hok : codeOk ((cv.map Builtin.Re.reRawOf).map (·.toNat))) (ha : asc x = true) (hl : x.cps.size ≤ big) (hq : Q .none s) : wpAny (model prog w) A (call (.builtin "re.Pattern.search") [.ref p, .str x t]) Q E s := by
  refine wpAny_call_entry slot_search ⟨_, hp, rfl⟩ entry_search ?_ (args_search _ _)
  unfold Builtin.«re.Pattern.search» Builtin.Re.reTarget
  refine wpAny_bind ?_
  dsimp only
  rw [named_search]
  refine wpAny_bind (wpAny_pure ?_)
  refine wpAny_bind (wpAny_pure ?_)
  refine wpAny_bind (wpAny_pure ?_)
  refine wpAny_bind (wpAny_fieldsOf hp rfl ?_)
  unfold Builtin.Re.reTextOf
  refine wpAny_bind ?_
  refine wpAny_bind (m := asStr? (.str x t)) (wpAny_pure ?_)
  refine wpAny_pure ?_
  rw [if_neg (show ¬ (_ = true) from by show ¬ ((0 == 0 && 0 == 1) = true); decide), if_neg (show ¬ (_ = true) from by show ¬ ((0 == 1 && 0 == 0) = true); decide)]
  refine wpAny_bind (m := Builtin.Re.reNoCollectionInside (.str x t) 0) (wpAny_pure ?_)
  unfold Builtin.Re.reRawItems
  refine wpAny_bind (wpAny_bind (wpAny_seqItems hc hcd (wpAny_pure (wpAny_pure ?_))))
  unfold Builtin.Re.reAnswer
  have h1 : min (2 ^ 63 - 1 : Int).toNat x.cps.size = x.cps.size := by unfold big at hl; omega
  show wpAny _ _ (Builtin.Re.reRunToEnd (forSearch ((cv.map Builtin.Re.reRawOf).map (·.toNat)) x.cps 0 (min (Int.toNat 0) x.cps.size) (min (2 ^ 63 - 1 : Int).toNat x.cps.size) false) >>= _) _ _ _
  rw [h1, show min (Int.toNat 0) x.cps.size = 0 by simp]
  refine wpAny_bind (wp_drive (search_run hok (asc_lt ha)) ?_)
  exact wpAny_pure ⟨.none, rfl, hq⟩

theorem bits_ok : ∀ c, c < 127 → 32 ≤ c → (c < 256 && (Nat.testBit (([4294966783, 0, 0, 2147483648, 0, 0, 0, 0] : List Nat).getD (c / 32) 0) (c % 32))) = false := by decide +kernel

noncomputable def code1 : Array Nat := #[14, 10, 4, 1, 1, 22, 0, 31, 16, 127, 0, 13, 7, 22, 0, 31, 16, 127, 0, 1]
noncomputable def code2 : Array Nat := #[14, 14, 4, 1, 1, 9, 4294966783, 0, 0, 2147483648, 0, 0, 0, 0, 0, 13, 11, 9, 4294966783, 0, 0, 2147483648, 0, 0, 0, 0, 0, 1]

theorem code1_ok : codeOk code1 := by
  refine ⟨fun c seen h1 h2 => ?_, fun m hm => by unfold Sre.M.hasFirstSet; rw [hm]; decide⟩
  have e : inSet code1 c code1.size 5 true seen = inSet code1 c 19 8 true (seen.add 22) := by
    show inSet code1 c (19 + 1) 5 true seen = _
    rw [inSet]
    show (if ((0 : Nat) ≤ c && c ≤ 31) = true then _ else _) = _
    rw [if_neg (by simp; omega)]; rfl
  rw [e]
  have e : inSet code1 c (18 + 1) 8 true (seen.add 22) = inSet code1 c 18 10 true ((seen.add 22).add 16) := by
    rw [inSet]
    show (if (c == 127) = true then _ else _) = _
    rw [if_neg (by simp; omega)]; rfl
  rw [e]
  exact ⟨_, rfl⟩

theorem code2_ok : codeOk code2 := by
  refine ⟨fun c seen h1 h2 => ?_, fun m hm => by unfold Sre.M.hasFirstSet; rw [hm]; decide⟩
  have hb := bits_ok c h2 h1
  have e : inSet code2 c code2.size 5 true seen = inSet code2 c 27 14 true (seen.add 9) := by
    show inSet code2 c (27 + 1) 5 true seen = _
    rw [inSet]
    show (if (c < 256 && (code2.getD (5 + (1 + c / 32)) 0).testBit (c % 32)) = true then _ else _) = _
    have hw : code2.getD (5 + (1 + c / 32)) 0 = ([4294966783, 0, 0, 2147483648, 0, 0, 0, 0] : List Nat).getD (c / 32) 0 := by
      have hlt : c / 32 < 4 := by omega
      generalize c / 32 = q at hlt
      match q, hlt with
      | 0, _ => rfl
      | 1, _ => rfl
      | 2, _ => rfl
      | 3, _ => rfl
    rw [hw, hb]; rfl
  rw [e]
  exact ⟨_, rfl⟩

end Mine
end

section
open PySem
set_option Elab.async false
set_option maxRecDepth 10000
namespace Mine

noncomputable def PatOk (X : Cx) (nm : Str) : Prop := ∃ p c pat fl cv k oc, X.mg nm = some (.ref p) ∧ X.base.get? p = some (patObj pat fl c) ∧ X.base.get? c = some oc ∧ oc.data = .seq cv k ∧ codeOk ((cv.map Builtin.Re.reRawOf).map (·.toNat))

noncomputable def sValue : Str := Str.ofString "value"
noncomputable def sName : Str := Str.ofString "name"
noncomputable def sRegex : Str := Str.ofString "regex"

noncomputable def convM : M Fl := fun σ => match σ.loc sValue, σ.loc sName with
  | some (.dat (.str x)), some (.dat (.bool _)) => if x.length ≤ big then some (.ret (.dat (.str x)), ⟨fun y => if y = sRegex then none else σ.loc y, σ.heap⟩) else none
  | _, _ => none

section
variable {X : Cx} {n : Nat} {env : Env} {P : Prm} {A : Around} {ρ : List Addr} {μ μ' : Mu} {σ : St} {s : Shared} {h h' : Heap}

theorem nameS_at {x : Str} {v : V} (hx : x ≠ dbg) (e : σ.loc x = some v) : nameS x σ = some (v, σ) := by
  unfold nameS; rw [if_neg hx]; unfold getLoc; rw [e]; rfl

theorem Exs_conv (ok : CxOk X) (h1 : PatOk X (Str.ofString "_name_disallowed_re")) (h2 : PatOk X (Str.ofString "_value_disallowed_re")) (hk : env.kindOf sRegex = some .local) (hty : typOk env (.Name sValue p2) (Str.ofString "str") = true)
    (hg1 : gKind env (Str.ofString "_name_disallowed_re") = true) (hg2 : gKind env (Str.ofString "_value_disallowed_re") = true) {p1 p3 p4 p5 p6 p7 p8 p9 p10 p11 p12 p13 p14 p15 p16 p17 p18 p19 : Pos} {r1 r2 : List Stmt} (hpos : p13.endLine = p15.line) :
    Exs X n env (.If (.Compare (.Call (.Name (Str.ofString "type") p1) [.Name sValue p2] [] p3) [.Is] [.Name (Str.ofString "str") p4] p5)
      [.Assign [.Name sRegex p6] (.IfExp (.Name sName p7) (.Name (Str.ofString "_name_disallowed_re") p8) (.Name (Str.ofString "_value_disallowed_re") p9) p10) p11,
       .If (.Call (.Attribute (.Name sRegex p12) (Str.ofString "search") p13) [.Name sValue p14] [] p15) r1 [] p16, .Return (some (.Name sValue p17)) p18] [] p19 :: r2) convM := by
  intro A ρ μ σ s ga R f σ' e
  unfold convM at e
  split at e
  · rename_i x b hv hn
    split at e
    · rename_i hl
      cases e
      have nv : nameS sValue σ = some (.dat (.str x), σ) := nameS_at (by decide) hv
      have nn : nameS sName σ = some (.dat (.bool b), σ) := nameS_at (by decide) hn
      refine wpAny_execs_cons (wpAny_If ?_)
      have q1 : (do let v ← typS .Is (nameS sValue) (Str.ofString "str"); truthS v) σ = some (true, σ) := by
        show mbind (mbind (nameS sValue) _) _ σ = _
        unfold mbind
        rw [nv]
        rfl
      refine wpAny_mono (Te_Typ ok Ev_Name hty A ρ μ σ s ga R true σ q1) (fun c s1 z => ?_) fun _ _ z => z
      obtain ⟨μ1, st1, R1, rfl⟩ := z
      rw [if_pos rfl]
      -- the pattern is chosen
      have hpat : ∃ p, wpAny (model X.prog X.w) A (eval (.IfExp (.Name sName p7) (.Name (Str.ofString "_name_disallowed_re") p8) (.Name (Str.ofString "_value_disallowed_re") p9) p10) env) (fun y s2 => y = .ref p ∧ ∃ μ2, Step (wrt env) μ1 μ2 s1 s2 ∧ Rel X ρ μ2 env σ s2.heap) (fun _ _ => False) s1 ∧
          ∃ c pat fl cv k oc, X.base.get? p = some (patObj pat fl c) ∧ X.base.get? c = some oc ∧ oc.data = .seq cv k ∧ codeOk ((cv.map Builtin.Re.reRawOf).map (·.toNat)) := by
        have q2 : (do let v ← nameS sName; truthS v) σ = some (b, σ) := by
          show mbind (nameS sName) _ σ = _
          unfold mbind
          rw [nn]
          rfl
        cases b with
        | true =>
          obtain ⟨p, c, pat, fl, cv, k, oc, g1, g2, g3, g4, g5⟩ := h1
          refine ⟨p, ?_, c, pat, fl, cv, k, oc, g2, g3, g4, g5⟩
          rw [arm_eval_IfExp]
          refine wpAny_bind (wpAny_mono (Te_plain (X := X) (n := n) rfl Ev_Name A ρ μ1 σ s1 ga R1 true σ q2) (fun c s2 z => ?_) fun _ _ z => z)
          obtain ⟨μ2, st2, R2, rfl⟩ := z
          rw [if_pos rfl]
          exact Name_glob ok R2 hg1 (by unfold gval; rw [g1]) ⟨rfl, μ2, st2, R2⟩
        | false =>
          obtain ⟨p, c, pat, fl, cv, k, oc, g1, g2, g3, g4, g5⟩ := h2
          refine ⟨p, ?_, c, pat, fl, cv, k, oc, g2, g3, g4, g5⟩
          rw [arm_eval_IfExp]
          refine wpAny_bind (wpAny_mono (Te_plain (X := X) (n := n) rfl Ev_Name A ρ μ1 σ s1 ga R1 false σ q2) (fun c s2 z => ?_) fun _ _ z => z)
          obtain ⟨μ2, st2, R2, rfl⟩ := z
          rw [if_neg (by decide)]
          exact Name_glob ok R2 hg2 (by unfold gval; rw [g1]) ⟨rfl, μ2, st2, R2⟩
      obtain ⟨p, hev, c, pat, fl, cv, k, oc, g2, g3, g4, g5⟩ := hpat
      refine wpAny_execs_cons (wpAny_Assign_Name (wpAny_mono hev (fun y s2 z => ?_) fun _ _ z => z))
      obtain ⟨rfl, μ2, st2, R2⟩ := z
      obtain ⟨m, cm, F, l⟩ := R2.frame
      refine wpAny_storeName_local hk F.ns (fun h3 hns hsb => ?_) (by rw [F.kind]; rfl)
      have hlv : ∃ o, h3.get? env.locals = some o := by obtain ⟨o, _, _, q, _⟩ := hns; exact ⟨o, q⟩
      have F3 : FrameR env h3 (fun z => if z = sRegex then some (.ref p) else m z) cm := ⟨F.kind, F.globals, F.builtins, hns, fun nm c e => IsCell.keep hsb (cells_ne_locals F ⟨nm, mem_of_lookup e⟩) (F.cell nm c e), fun nm c e => by
        obtain ⟨w, q⟩ := F.cells nm c e; exact ⟨w, IsCell.keep hsb (cells_ne_locals F ⟨nm, e⟩) q⟩, F.apart⟩
      have R3 : Rel X ρ μ2 env ⟨fun y => if y = sRegex then none else σ.loc y, σ.heap⟩ h3 := R2.store (.head _) hsb hlv ⟨_, cm, F3, fun z w ew => by
        split at ew
        · cases ew
        · rename_i hz
          obtain ⟨val, q1, q2⟩ := l z w ew
          refine ⟨val, ?_, q2⟩
          unfold valOf at q1 ⊢
          split at q1
          · simp only [if_neg hz]; exact q1
          · exact q1
          · cases q1⟩
      have st3 : Step (wrt env) μ2 μ2 s2 { s2 with heap := h3, toks := s2.toks + 1 } := .store (.head _) hsb hlv
      have stA := (st1.trans st2).trans st3
      refine wpAny_execs_cons (wpAny_If ?_)
      rw [isTrue_plainE rfl]
      have hv3 : (fun y => if y = sRegex then none else σ.loc y) sValue = some (.dat (.str x)) := by
        show (if sValue = sRegex then none else σ.loc sValue) = _
        rw [if_neg (by decide)]; exact hv
      have nv3 : nameS sValue ⟨fun y => if y = sRegex then none else σ.loc y, σ.heap⟩ = some (.dat (.str x), ⟨fun y => if y = sRegex then none else σ.loc y, σ.heap⟩) := nameS_at (by decide) hv3
      have hp3 : h3.get? p = some (patObj pat fl c) := R3.base p _ g2
      refine wpAny_bind ?_
      rw [arm_eval_Call, attributeBase_plain rfl]
      refine wpAny_bind (wpAny_Name (wpAny_loadName_local F.kind hk hns (v := .ref p) (by simp) ?_) (by decide))
      refine wpAny_bind (wpAny_standAt ?_)
      unfold methodCall
      rw [form_true (X := X) (n := n) (es := [.Name sValue p14]) rfl .nil (by show 1 + 0 < 20; decide)]
      refine wpAny_bind (wpAny_holding ?_)
      refine getMethod_builtin (T := "re.Pattern") (name := Str.ofString "search") (id := "re.Pattern.search") ⟨_, hp3, rfl⟩ plain_pattern slot_search type_search (fun a ea => by cases ea; exact ⟨_, hp3, rfl⟩) ?_
      have hpp : methodCallPos true (.Name sRegex p12) env p13 p15 = pure p15 := by
        unfold methodCallPos
        rw [if_pos (by simp [hpos])]
      show wpAny _ _ (methodCallPos true (.Name sRegex p12) env p13 p15 >>= _) _ _ _
      rw [hpp]
      refine wpAny_bind (wpAny_pure ?_)
      refine Calls.callWith_builtin (star_any (es := [.Name sValue p14]) rfl) ?_
      have sq : seqS [nameS sValue] ⟨fun y => if y = sRegex then none else σ.loc y, σ.heap⟩ = some ([.dat (.str x)], ⟨fun y => if y = sRegex then none else σ.loc y, σ.heap⟩) := by
        show mbind (nameS sValue) _ _ = _
        unfold mbind
        rw [nv3]; rfl
      refine wpAny_mono (W_args (X := X) (n := n) (ks := []) (EvL.cons Ev_Name .nil) rfl .nil ga (s := { s2 with heap := h3, toks := s2.toks + 1 }) R3 sq rfl) (fun ar s4 z => ?_) fun _ _ z => z
      obtain ⟨μ4, st4, R4, ⟨y, rr, v1, v2, v3⟩, k4⟩ := z
      rw [show ar.kw = [] from k4, v1, show rr = [] from v3]
      have v2' : DR _ _ _ _ := v2
      simp only [DR] at v2'
      obtain ⟨ha, t, rfl⟩ := v2'
      refine call_search (R4.base p _ g2) (R4.base c _ g3) g4 g5 ha hl ?_
      refine wpAny_bind (wpAny_standAt (wpAny_holding (PyProof.Rows.truthy_none ?_)))
      rw [if_neg (by decide)]
      refine wpAny_execs_nil ?_
      refine wpAny_execs_cons (wpAny_Return_some (wpAny_mono (Ev_Name (X := X) (n := n) A ρ μ4 _ s4 ga R4 _ _ nv3) (fun y s5 z => ?_) fun _ _ z => z))
      first | refine post_elim z fun μ5 st5 R5 v5 => ?_ | obtain ⟨μ5, st5, R5, v5⟩ := z
      exact ⟨μ5, (stA.trans st4).trans st5, R5, y, rfl, v5⟩
    · cases e
  · cases e

end
end Mine
end

section
open PySem
set_option Elab.async false
set_option maxRecDepth 10000
namespace Mine

noncomputable def makeM (initM : V → List V → M V) (vs : List V) : M V := do
  let i ← newObj (.inst none)
  let r ← initM i vs
  match r with
  | .dat .none => mpure i
  | _ => mfail

section
variable {X : Cx} {n : Nat} {env : Env} {P : Prm} {A : Around} {ρ : List Addr} {μ μ' : Mu} {σ : St} {s : Shared} {h h' : Heap}

theorem Ga.under (C : Addr) (rest : List Value) (kw : List (Str × Value)) (ga : Ga (n + 1) A) : Ga n (A.under (.builtin "type.__call__" ⟨.ref C :: rest, kw⟩)) :=
  ⟨ga.handled, by have := ga.depth; rw [W.depth_under_kw]; omega, by
    have := ga.units
    have e : (A.under (.builtin "type.__call__" ⟨.ref C :: rest, kw⟩)).units = A.units + 1 := rfl
    rw [e]; omega⟩

theorem W_make (ok : CxOk X) (hm : W.makesIn X.K X.C = true) {fI : Addr} (hi : W.findIn X.K (.ref X.C) "__init__" = some (some (.ref fI))) (hf : W.typeIn X.K (.ref fI) = some (.type "function")) {initM : V → List V → M V}
    (hI : ∀ (env : Env) A ρ μ σ s self x vs xs, Ga n A → Rel X ρ μ env σ s.heap → VR s.heap (okOf ρ μ) μ self x → VRl s.heap (okOf ρ μ) μ vs xs → ∀ r σ', initM self vs σ = some (r, σ') →
      codeAny (model X.prog X.w) A (.call (.ref fI) ⟨x :: xs, []⟩) (fun q s' => match q with | .ok (.ret v) => Post X ρ μ env s VRr r σ' v s' | .ok _ => False | .error _ => False) s)
    (ga : Ga (n + 1) A) (R : Rel X ρ μ env σ s.heap) {vs : List V} {xs : List Value} (hv : VRl s.heap (okOf ρ μ) μ vs xs) : W X A ρ μ env s VRr (call (.ref X.C) xs []) (makeM initM vs σ) := by
  intro r σ' e
  unfold makeM at e
  refine mbind_elim e fun i σ1 e1 q => ?_
  refine mbind_elim q fun rv σ2 e2 q2 => ?_
  have hr : rv = .dat .none ∧ r = i ∧ σ' = σ2 := by
    split at q2
    · cases q2; exact ⟨rfl, rfl, rfl⟩
    · cases q2
  obtain ⟨rfl, rfl, rfl⟩ := hr
  cases e1
  obtain ⟨hh, g, d, t, os⟩ := s
  have K : X.K.In hh := R.kin ok
  refine wpAny_call (W.make_core (W.makes_of K hm) (W.looks_findIn K hi) (fun self => W.bind_fn K self hf) (.inl rfl) ?_)
  have k1 : ∀ b o, hh.get? b = some o → ((hh.push W.emptyDict).push (W.instObj X.C hh.objs.size)).get? b = some o := fun b o e => Heap.get?_push_of_some _ (Heap.get?_push_of_some _ e)
  have hD : ((hh.push W.emptyDict).push (W.instObj X.C hh.objs.size)).get? hh.objs.size = some W.emptyDict := Heap.get?_push_of_some _ (Heap.get?_push_size _ rfl)
  have hx : ((hh.push W.emptyDict).push (W.instObj X.C hh.objs.size)).get? (hh.objs.size + 1) = some (W.instObj X.C hh.objs.size) := by
    have := Heap.get?_push_size (o := W.instObj X.C hh.objs.size) (hh.push W.emptyDict) rfl
    rwa [Heap.size_push] at this
  have fresh : ∀ b, hh.objs.size ≤ b → hh.get? b = none := fun b hb => by
    cases q : hh.get? b with
    | none => rfl
    | some o => exact absurd (Heap.lt_size q) (Nat.not_lt.mpr hb)
  have hfp : ∀ b ∈ [hh.objs.size + 1, hh.objs.size], hh.get? b = none := fun b hb => by
    simp only [List.mem_cons, List.not_mem_nil, or_false] at hb
    rcases hb with rfl | rfl
    · exact fresh _ (Nat.le_succ _)
    · exact fresh _ (Nat.le_refl _)
  have R1 : Rel X ρ (μ ++ [(hh.objs.size + 1, [hh.objs.size + 1, hh.objs.size])]) env ⟨σ.loc, σ.heap ++ [.inst none]⟩ ((hh.push W.emptyDict).push (W.instObj X.C hh.objs.size)) := by
    refine R.newObj hfp ?_ (fun _ q => nomatch q) k1 (fun b hb => ?_) ⟨hh.objs.size, rfl, hx, hD⟩
    · simp
    · simp only [List.mem_cons, List.not_mem_nil, or_false] at hb
      rcases hb with rfl | rfl
      · exact ⟨_, hx⟩
      · exact ⟨_, hD⟩
  have st1 : Step (wrt env) μ (μ ++ [(hh.objs.size + 1, [hh.objs.size + 1, hh.objs.size])]) ⟨hh, g, d, t, os⟩ ⟨(hh.push W.emptyDict).push (W.instObj X.C hh.objs.size), g, d, t, os⟩ :=
    Step.newObj (s := ⟨hh, g, d, t, os⟩) (tk := t) hfp k1
  have hself : VR ((hh.push W.emptyDict).push (W.instObj X.C hh.objs.size)) (okOf ρ (μ ++ [(hh.objs.size + 1, [hh.objs.size + 1, hh.objs.size])])) (μ ++ [(hh.objs.size + 1, [hh.objs.size + 1, hh.objs.size])]) (.obj σ.heap.length) (.ref (hh.objs.size + 1)) :=
    ⟨_, by rw [← R.len]; exact root_last, rfl⟩
  have hv1 := VRl.step R st1 hv
  refine codeAny_mono (hI env _ ρ _ _ ⟨(hh.push W.emptyDict).push (W.instObj X.C hh.objs.size), g, d, t, os⟩ _ _ vs xs (ga.under _ _ _) R1 hself hv1 _ _ e2) fun q s' z => ?_
  cases q with
  | error x => exact z
  | ok x =>
    cases x with
    | ret v =>
      first | refine post_elim z fun μ2 st2 R2 v2 => ?_ | obtain ⟨μ2, st2, R2, v2⟩ := z
      have v2' : DR _ _ _ _ := v2
      simp only [DR] at v2'
      subst v2'
      refine ⟨rfl, μ2, st1.trans st2, R2, ?_⟩
      obtain ⟨a, h1, h2⟩ := hself
      exact ⟨a, root_prefix st2.pre h1, h2⟩
    | _ => exact z

end
end Mine
end

section
open PySem
set_option Elab.async false
set_option maxRecDepth 10000
namespace Mine

noncomputable def fdOf (K : W.Frag) (a : Addr) : FuncData := match K.lookup a with
  | some ⟨_, _, .func fd, _⟩ => fd
  | _ => default
noncomputable def bodyOf (fd : FuncData) : List Stmt := match fd.body with
  | .stmts b => b
  | _ => []
noncomputable def codeChk (K : W.Frag) (fd : FuncData) : Bool := match fd.code with
  | .ref c => (match K.lookup c with
    | some ⟨_, _, .fields vs, _⟩ => (match (vs[1]? : Option Value) with | some (.str q _) => q == fd.qualname | _ => false)
    | _ => false)
  | _ => false
noncomputable def fnChk (K : W.Frag) (f : Addr) (ps : List Str) : Bool := match K.lookup f with
  | some ⟨_, _, .func fd, _⟩ => (match fd.body with | .stmts _ => true | _ => false) && fd.closure.isEmpty && fd.globals == mainGlobals && fd.builtins == builtinsNs && fd.scope.kind == .function && !fd.scope.isCoroutine && !fd.scope.isGenerator &&
      decide ((fd.scope.names.map (·.1)).Nodup) && decide ps.Nodup && ps.all (fun p => fd.scope.names.lookup p == some .local || fd.scope.names.lookup p == some .cell) && codeChk K fd
  | _ => false

theorem codeChk_ok {K : W.Frag} {h : Heap} {fd : FuncData} (hK : K.In h) (e : codeChk K fd = true) : h.CodeRec fd.code fd.qualname := by
  unfold codeChk at e
  split at e
  · rename_i c hc
    split at e
    · rename_i cl dd vs sl hl
      split at e
      · rename_i q t hq
        exact ⟨c, _, vs, t, hc, hK _ _ hl, rfl, by rw [hq, beq_iff_eq.mp e]⟩
      · cases e
    · cases e
  · cases e

theorem fnOk_of {X : Cx} {f : Addr} {ps : List Str} (ok : CxOk X) (e : fnChk X.K f ps = true) : FnOk X f (fdOf X.K f) (bodyOf (fdOf X.K f)) ps := by
  unfold fnChk at e
  split at e
  · rename_i cl dd fd sl hl
    have hfd : fdOf X.K f = fd := by unfold fdOf; rw [hl]
    rw [hfd]
    simp only [Bool.and_eq_true, beq_iff_eq, Bool.not_eq_true', decide_eq_true_eq, List.isEmpty_iff, List.all_eq_true, Bool.or_eq_true] at e
    obtain ⟨⟨⟨⟨⟨⟨⟨⟨⟨⟨h1, h2⟩, h3⟩, h4⟩, h5⟩, h6⟩, h7⟩, h8⟩, h9⟩, h10⟩, h11⟩ := e
    refine ⟨⟨_, ok.kin _ _ hl, rfl⟩, codeChk_ok ok.kin h11, ?_, h2, h3, h4, h5, h6, h7, h8, h9, h10⟩
    unfold bodyOf
    cases hb : fd.body with
    | stmts b => rfl
    | expr b => rw [hb] at h1; cases h1
  · cases e

/-! the methods and defs of a program -/
structure Info where
  f : Addr
  ps : List Str
  dflt : List Const
  den : Prm → M Fl

noncomputable def constV : Const → V
  | .bool b => .dat (.bool b)
  | .int i => .dat (.int i)
  | .str _ => .emp
  | _ => .dat .none

/-- a last parameter that takes the keywords: it cannot be given by place -/
noncomputable def kwD : List Const → Bool
  | [.str _] => true
  | _ => false

/-- the values behind the given ones -/
noncomputable def fill (i : Info) (vs : List V) : List V := if kwD i.dflt && vs.length == i.ps.length then [] else vs ++ (i.dflt.drop (i.dflt.length - (i.ps.length - vs.length))).map constV

noncomputable def runI (P : Prm) (i : Info) (vs : List V) : M V := callB i.ps (i.den P) (fill i vs)

noncomputable def sConv : Str := Str.ofString "_convert_string_type"
noncomputable def sSelf : Str := Str.ofString "self"
noncomputable def convP (self : V) (vs : List V) (ks : List (Str × V)) : M V := match vs, ks with
  | [v], [(k, b)] => if k = sName then callB [sSelf, sValue, sName] convM [self, v, b] else mfail
  | _, _ => mfail

structure Tab where
  mt : Str → Option Info
  fn : Str → Option Info
  init : Info
  fuel : Nat

noncomputable def prm (T : Tab) : Nat → Prm
  | 0 => ⟨fun _ _ => mfail, fun _ _ _ _ => mfail, fun _ => mfail, T.fuel⟩
  | k + 1 => ⟨fun name vs => match T.fn name with
      | some i => runI (prm T k) i vs
      | none => mfail,
    fun name self vs ks => if name = sConv then convP self vs ks else match T.mt name with
      | some i => if ks.isEmpty then runI (prm T k) i (self :: vs) else mfail
      | none => mfail,
    fun vs => makeM (fun self ws => runI (prm T k) T.init (self :: ws)) vs, T.fuel⟩

end Mine
end

section
open PySem
set_option Elab.async false
set_option maxRecDepth 10000
namespace Mine

noncomputable def constVal : Const → Value
  | .bool b => .bool b
  | _ => .none
noncomputable def okConst : Const → Bool
  | .none => true
  | .bool _ => true
  | _ => false

noncomputable def fillV (i : Info) (xs : List Value) : List Value := xs ++ (i.dflt.drop (i.dflt.length - (i.ps.length - xs.length))).map constVal

structure InfoOk (X : Cx) (i : Info) : Prop where
  fn : fnChk X.K i.f i.ps = true
  den : ∀ (n : Nat) (P : Prm), PrmOk X n P → ExsR X (n + 1) (fnEnv (fdOf X.K i.f).scope) (bodyOf (fdOf X.K i.f)) (i.den P)
  bind : ∀ {env : Env} {ρ : List Addr} {μ : Mu} {σ : St} {s : Shared} {vs : List V} {xs : List Value}, X.K.In s.heap → Rel X ρ μ env σ s.heap → VRl s.heap (okOf ρ μ) μ vs xs → i.ps.length = (fill i vs).length → Binds X ρ μ s (fdOf X.K i.f) ⟨xs, []⟩ i.ps (fill i vs)

theorem VRl.append {h : Heap} {ok : Addr → Prop} {μ : Mu} : ∀ {vs ws : List V} {xs ys : List Value}, VRl h ok μ vs xs → VRl h ok μ ws ys → VRl h ok μ (vs ++ ws) (xs ++ ys)
  | [], _, _, _, e, k => by rw [show _ = [] from e]; exact k
  | _ :: _, _, _, _, e, k => by obtain ⟨x, r, rfl, h1, h2⟩ := e; exact ⟨x, _, rfl, h1, h2.append k⟩

theorem VRl_const {h : Heap} {ok : Addr → Prop} {μ : Mu} : ∀ {cs : List Const}, cs.all okConst = true → VRl h ok μ (cs.map constV) (cs.map constVal)
  | [], _ => rfl
  | c :: cs, h => by
    rw [List.all_cons, Bool.and_eq_true] at h
    refine ⟨_, _, rfl, ?_, VRl_const h.2⟩
    cases c with
    | none => simp only [constV, constVal, VR, DR]
    | bool b => simp only [constV, constVal, VR, DR]
    | _ => cases h.1

theorem fill_rel {h : Heap} {ok : Addr → Prop} {μ : Mu} {i : Info} (hc : i.dflt.all okConst = true) {vs : List V} {xs : List Value} (hv : VRl h ok μ vs xs) : VRl h ok μ (fill i vs) (fillV i xs) := by
  have hk : kwD i.dflt = false := by
    unfold kwD
    split
    · rename_i e; rw [e] at hc; cases hc
    · rfl
  unfold fill fillV
  rw [hv.length, hk, Bool.false_and, if_neg (by decide)]
  refine hv.append (VRl_const ?_)
  rw [List.all_eq_true] at hc ⊢
  exact fun c hm => hc c (List.mem_of_mem_drop hm)

theorem callB_len {ps : List Str} {mb : M Fl} {vs : List V} {σ σ' : St} {r : V} (e : callB ps mb vs σ = some (r, σ')) : ps.length = vs.length := by
  unfold callB at e
  split at e
  · assumption
  · cases e

theorem fill_len {i : Info} {vs : List V} (hk : i.dflt.all okConst = true) (h : i.ps.length = (fill i vs).length) : vs.length ≤ i.ps.length ∧ i.ps.length ≤ vs.length + i.dflt.length := by
  have hk : kwD i.dflt = false := by
    unfold kwD
    split
    · rename_i e; rw [e] at hk; cases hk
    · rfl
  unfold fill at h
  rw [hk, Bool.false_and, if_neg (by decide)] at h
  rw [List.length_append, List.length_map, List.length_drop] at h
  omega

section
variable {X : Cx} {n : Nat} {env : Env} {P : Prm} {A : Around} {ρ : List Addr} {μ μ' : Mu} {σ : St} {s : Shared} {h h' : Heap}

theorem runI_code (ok : CxOk X) (pok : PrmOk X n P) {i : Info} (io : InfoOk X i) (ga : Ga (n + 2) A) (R : Rel X ρ μ env σ s.heap) {vs : List V} {xs : List Value} (hv : VRl s.heap (okOf ρ μ) μ vs xs) :
    ∀ r σ', runI P i vs σ = some (r, σ') → codeAny (model X.prog X.w) A (.call (.ref i.f) ⟨xs, []⟩) (fun q s' => match q with | .ok (.ret v) => Post X ρ μ env s VRr r σ' v s' | .ok _ => False | .error _ => False) s := by
  intro r σ' e
  unfold runI at e
  exact Call_code ok (fnOk_of ok io.fn) (io.den n P pok) ga R (io.bind (R.kin ok) R hv (callB_len e)) r σ' e

theorem runI_W (ok : CxOk X) (pok : PrmOk X n P) {i : Info} (io : InfoOk X i) (ga : Ga (n + 2) A) (R : Rel X ρ μ env σ s.heap) {vs : List V} {xs : List Value} (hv : VRl s.heap (okOf ρ μ) μ vs xs) :
    W X A ρ μ env s VRr (call (.ref i.f) xs []) (runI P i vs σ) := fun r σ' e => wpAny_call (codeAny_mono (runI_code ok pok io ga R hv r σ' e) fun q s' z => by
    cases q with
    | ok x => cases x <;> exact z
    | error x => exact z)

structure TabOk (X : Cx) (T : Tab) : Prop where
  mt : ∀ name i, T.mt name = some i → InfoOk X i ∧ mth X name = some i.f
  fn : ∀ name i, T.fn name = some i → InfoOk X i ∧ X.mg name = some (.ref i.f)
  init : InfoOk X T.init
  initF : W.findIn X.K (.ref X.C) "__init__" = some (some (.ref T.init.f))
  initT : W.typeIn X.K (.ref T.init.f) = some (.type "function")
  makes : W.makesIn X.K X.C = true
  head : X.mg (Str.ofString "Headers") = some (.ref X.C)
  conv : ∃ f, mth X sConv = some f ∧ fnChk X.K f [sSelf, sValue, sName] = true ∧ (∀ k env', SameEnv (fnEnv (fdOf X.K f).scope) env' → Exs X k env' (bodyOf (fdOf X.K f)) convM) ∧
    ∀ (s : Shared) x y z, BindsTo s (fdOf X.K f) ⟨[x, y], [(sName, z)]⟩ ([sSelf, sValue, sName].zip [x, y, z])

theorem prm_ok (ok : CxOk X) {T : Tab} (to : TabOk X T) : ∀ k, PrmOk X (3 * k) (prm T k)
  | 0 => ⟨fun _ _ _ _ _ _ _ _ _ _ _ _ _ _ _ _ _ _ _ _ => W_fail, fun _ _ _ _ _ _ => rfl, fun _ _ _ _ => rfl, fun _ _ _ _ e => (by cases e), to.head, fun _ _ _ _ _ _ _ _ _ _ _ => W_fail⟩
  | k + 1 => by
    have ih := prm_ok ok to k
    refine ⟨fun name f hm env A ρ μ σ s self x vs xs ks kx ga R hself hvs hks => ?_, fun name hm σ self vs ks => ?_, fun σ self vs ks => ?_, fun name vs σ r e => ?_, to.head, fun env A ρ μ σ s vs xs ga R hvs => ?_⟩
    · show W X A ρ μ env s VRr _ ((if name = sConv then convP self vs ks else _) σ)
      split
      · rename_i hn
        subst hn
        obtain ⟨f', hf, hfn, hb, hbind⟩ := to.conv
        rw [hm] at hf; cases hf
        unfold convP
        split
        · rename_i v kk b
          obtain ⟨y, r, rfl, hy, hr⟩ := hvs
          rw [show r = [] from hr]
          obtain ⟨z, r', rfl, hz, hr'⟩ := hks
          rw [show r' = [] from hr']
          split
          · rename_i hkk
            subst hkk
            exact Call_body ok (fnOk_of ok hfn) (fun env' hs => hb (3 * k + 1) env' hs) (ga.less (by omega)) R (.of (ys := [x, y, z]) ⟨x, _, rfl, hself, y, _, rfl, hy, z, _, rfl, hz, rfl⟩ (hbind s x y z))
          · exact W_fail
        · exact W_fail
      · cases hi : T.mt name with
        | none => exact W_fail
        | some i =>
          obtain ⟨io, hf⟩ := to.mt name i hi
          rw [hm] at hf; cases hf
          dsimp only
          cases ks with
          | nil =>
            rw [show kx = [] from hks]
            exact runI_W ok ih io (ga.less (by omega)) R ⟨x, xs, rfl, hself, hvs⟩
          | cons a b => exact W_fail
    · show (if name = sConv then convP self vs ks else _) σ = none
      split
      · rename_i hn
        subst hn
        obtain ⟨f', hf, _⟩ := to.conv
        rw [hm] at hf; cases hf
      · cases hi : T.mt name with
        | none => rfl
        | some i =>
          obtain ⟨_, hf⟩ := to.mt name i hi
          rw [hm] at hf; cases hf
    · cases hi : T.mt hdrKey with
      | none =>
        show (if hdrKey = sConv then convP self vs ks else match T.mt hdrKey with | some i => if ks.isEmpty then runI (prm T k) i (self :: vs) else mfail | none => mfail) σ = none
        rw [if_neg (by decide), hi]
        rfl
      | some i =>
        obtain ⟨_, hf⟩ := to.mt hdrKey i hi
        obtain ⟨g1, _⟩ := mth_find hf
        rw [ok.hd] at g1; cases g1
    · have e' : (match T.fn name with | some i => runI (prm T k) i vs | none => mfail) σ = some r := e
      cases hi : T.fn name with
      | none => rw [hi] at e'; cases e'
      | some i =>
        obtain ⟨io, hg⟩ := to.fn name i hi
        obtain ⟨o, ho, hd⟩ := (fnOk_of ok io.fn).at_
        refine ⟨i.f, o, _, hg, ho, hd, fun env A ρ μ s xs ga R hvs => ?_⟩
        show W X A ρ μ env s VRr _ ((match T.fn name with | some i => runI (prm T k) i vs | none => mfail) σ)
        rw [hi]
        exact runI_W ok ih io (ga.less (by omega)) R hvs
    · show W X A ρ μ env s VRr _ (makeM (fun self ws => runI (prm T k) T.init (self :: ws)) vs σ)
      exact W_make (n := 3 * k + 2) ok to.makes to.initF to.initT (fun env A ρ μ σ s self x vs xs ga R hself hvs r σ' e => runI_code ok ih to.init ga R (show VRl s.heap (okOf ρ μ) μ (self :: vs) (x :: xs) from ⟨x, xs, rfl, hself, hvs⟩) r σ' e) (ga.less (by omega)) R hvs

end
end Mine
end

section
open PySem
set_option Elab.async false
set_option maxRecDepth 10000
namespace Mine

section
variable {X : Cx} {n : Nat} {env : Env} {P : Prm} {A : Around} {ρ : List Addr} {μ μ' : Mu} {σ : St} {s : Shared} {h h' : Heap}

theorem law_run (ok : CxOk X) {T : Tab} (to : TabOk X T) (k : Nat) {sc : Scope} (hs : SameEnv (fnEnv sc) env) {body : List Stmt} {den : Prm → M Fl} (hden : ∀ (n : Nat) (P : Prm), PrmOk X n P → ExsR X (n + 1) (fnEnv sc) body (den P)) (ga : Ga (3 * k + 1) A) (R : Rel X ρ μ env σ s.heap) {σ' : St}
    (e : den (prm T k) σ = some (.ret (.dat (.bool true)), σ')) :
    wpAny (model X.prog X.w) A (execs body env) (fun f s' => f = .ret (.bool true) ∧ (∃ hp tk, s' = { s with heap := hp, toks := tk }) ∧ ∃ m, PyProof.Rows.Fr X.base env.locals s'.heap m) (fun _ _ => False) s := by
  refine wpAny_mono (hden _ _ (prm_ok ok to k) env hs A ρ μ σ s ga R _ _ e) (fun f s' z => ?_) fun _ _ z => z
  obtain ⟨μ1, st1, R1, y, rfl, hy⟩ := z
  have hy' : DR _ _ _ _ := hy
  simp only [DR] at hy'
  subst hy'
  exact ⟨rfl, st1.same, R1.fr⟩

/-- the frame of a law without cells -/
theorem start_rel {name : Str} {sc : Scope} {L fa : Addr} {cd : Value} {m : Str → Option Value} {loc : Str → Option V} (F : PyProof.Rows.Fr X.base L h m) (hL : X.base.get? L = none) (hk : sc.kind = .function)
    (hl : ∀ x v, loc x = some v → sc.names.lookup x = some .local ∧ ∃ val, m x = some val ∧ VR X.base (fun a => ∃ o, X.base.get? a = some o) [] v val) :
    Rel X [L] [] (PyProof.Rows.envOf name sc L fa cd) ⟨loc, []⟩ h := by
  have hLl : ∃ o, h.get? L = some o := by obtain ⟨o, _, _, q, _⟩ := F.ns; exact ⟨o, q⟩
  refine ⟨F.keep, fun a ha => ?_, fun a ha => ?_, fun a ha => ?_, fun a ha => ?_, by simp [foot], fun a _ => by simp [foot], fun a ha => ?_, F.above, ⟨m, fun _ => none, ⟨hk, rfl, rfl, F.ns, fun nm c e => ?_, fun nm c e => ?_, .nil⟩, fun x v e => ?_⟩, rfl, fun i j a h1 _ => ?_, fun i o e => ?_, fun i ds e => ?_⟩
  · simp at ha; subst ha; exact hL
  · simp [foot] at ha
  · simp at ha; subst ha; exact hLl
  · simp [foot] at ha
  · rcases List.mem_cons.mp ha with rfl | ha
    · exact .head _
    · cases ha
  · cases e
  · cases e
  · obtain ⟨h1, val, h2, h3⟩ := hl x v e
    refine ⟨val, ?_, h3.mono (fun _ _ e => e) fun a o q e => ⟨F.keep a o e, ?_, by simp [foot]⟩⟩
    · unfold valOf
      have : (PyProof.Rows.envOf name sc L fa cd).kindOf x = some .local := h1
      rw [this]; exact h2
    · simp
      rintro rfl
      rw [hL] at e; cases e
  · simp [root] at h1
  · simp at e
  · simp at e

end
end Mine
end

section
open PySem
set_option Elab.async false
set_option maxRecDepth 10000
namespace Mine

noncomputable def dictOf (K : W.Frag) (a : Addr) : Array DictEntry := match K.lookup a with
  | some ⟨_, _, .dict es _, _⟩ => es
  | _ => #[]
noncomputable def isDict (K : W.Frag) (a : Addr) : Bool := match K.lookup a with
  | some ⟨_, _, .dict _ _, _⟩ => true
  | _ => false

theorem mg_of {K : W.Frag} {h : Heap} {mg : Str → Option Value} {a : Addr} (hK : K.In h) (hg : h.Ns a mg) (hd : isDict K a = true) (x : Str) : mg x = nsFind (dictOf K a) x := by
  obtain ⟨o, es, ep, h1, h2, _, h4⟩ := hg
  unfold isDict at hd
  split at hd
  · rename_i cl dd es' n sl hl
    have := hK _ _ hl
    rw [this] at h1
    cases h1
    cases h2
    rw [← h4 x]
    unfold dictOf
    rw [hl]
  · cases hd

theorem len1 {xs : List Value} (h : xs.length = 1) : ∃ x, xs = [x] := by
  cases xs with
  | nil => cases h
  | cons x r => cases r with
    | nil => exact ⟨x, rfl⟩
    | cons y r => simp at h
theorem len2 {xs : List Value} (h : xs.length = 2) : ∃ x y, xs = [x, y] := by
  cases xs with
  | nil => cases h
  | cons x r =>
    obtain ⟨y, rfl⟩ := len1 (xs := r) (by simpa using h)
    exact ⟨x, y, rfl⟩
theorem len3 {xs : List Value} (h : xs.length = 3) : ∃ x y z, xs = [x, y, z] := by
  cases xs with
  | nil => cases h
  | cons x r =>
    obtain ⟨y, z, rfl⟩ := len2 (xs := r) (by simpa using h)
    exact ⟨x, y, z, rfl⟩
noncomputable def BindOk (X : Cx) (i : Info) : Prop := ∀ (s : Shared) xs, X.K.In s.heap → xs.length ≤ i.ps.length → i.ps.length ≤ xs.length + i.dflt.length → BindsTo s (fdOf X.K i.f) ⟨xs, []⟩ (i.ps.zip (fillV i xs))
theorem InfoOk.plain {X : Cx} {i : Info} (fn : fnChk X.K i.f i.ps = true) (den : ∀ (n : Nat) (P : Prm), PrmOk X n P → ExsR X (n + 1) (fnEnv (fdOf X.K i.f).scope) (bodyOf (fdOf X.K i.f)) (i.den P)) (cs : i.dflt.all okConst = true) (bind : BindOk X i) : InfoOk X i :=
  ⟨fn, den, fun {_ _ _ _ s _ xs} hK _ hv hl => by
    obtain ⟨h1, h2⟩ := fill_len cs hl
    rw [← hv.length] at h1 h2
    exact .of (fill_rel cs hv) (bind s xs hK h1 h2)⟩
theorem bind1 {X : Cx} {f : Addr} {p : Str} {D : Prm → M Fl} (hb : ∀ x, bindArgs (fdOf X.K f) ⟨[x], []⟩ = pure [(p, x)]) : BindOk X ⟨f, [p], [], D⟩ := by
  intro s xs _ h1 h2
  obtain ⟨x, rfl⟩ := len1 (xs := xs) (Nat.le_antisymm h1 h2)
  exact .of_eq (hb x)
theorem bind2 {X : Cx} {f : Addr} {p q : Str} {D : Prm → M Fl} (hb : ∀ x y, bindArgs (fdOf X.K f) ⟨[x, y], []⟩ = pure [(p, x), (q, y)]) : BindOk X ⟨f, [p, q], [], D⟩ := by
  intro s xs _ h1 h2
  obtain ⟨x, y, rfl⟩ := len2 (xs := xs) (Nat.le_antisymm h1 h2)
  exact .of_eq (hb x y)
theorem bind3 {X : Cx} {f : Addr} {p q r : Str} {D : Prm → M Fl} (hb : ∀ x y z, bindArgs (fdOf X.K f) ⟨[x, y, z], []⟩ = pure [(p, x), (q, y), (r, z)]) : BindOk X ⟨f, [p, q, r], [], D⟩ := by
  intro s xs _ h1 h2
  obtain ⟨x, y, z, rfl⟩ := len3 (xs := xs) (Nat.le_antisymm h1 h2)
  exact .of_eq (hb x y z)
/-- a last parameter with None for default -/
theorem bind2d {X : Cx} {f : Addr} {p q : Str} {D : Prm → M Fl} (h0 : ∀ (s : Shared) x y, X.K.In s.heap → BindsTo s (fdOf X.K f) ⟨[x, y], []⟩ [(p, x), (q, y)]) (h1 : ∀ (s : Shared) x, X.K.In s.heap → BindsTo s (fdOf X.K f) ⟨[x], []⟩ [(p, x), (q, .none)]) :
    BindOk X ⟨f, [p, q], [.none], D⟩ := by
  intro s xs hK g1 g2
  have g1' : xs.length ≤ 2 := g1
  have g2' : 2 ≤ xs.length + 1 := g2
  rcases (show xs.length = 2 ∨ xs.length = 1 by omega) with h | h
  · obtain ⟨x, y, rfl⟩ := len2 h; exact h0 s x y hK
  · obtain ⟨x, rfl⟩ := len1 h; exact h1 s x hK
theorem bind3d {X : Cx} {f : Addr} {p q r : Str} {D : Prm → M Fl} (h0 : ∀ (s : Shared) x y z, X.K.In s.heap → BindsTo s (fdOf X.K f) ⟨[x, y, z], []⟩ [(p, x), (q, y), (r, z)]) (h1 : ∀ (s : Shared) x y, X.K.In s.heap → BindsTo s (fdOf X.K f) ⟨[x, y], []⟩ [(p, x), (q, y), (r, .none)]) :
    BindOk X ⟨f, [p, q, r], [.none], D⟩ := by
  intro s xs hK g1 g2
  have g1' : xs.length ≤ 3 := g1
  have g2' : 3 ≤ xs.length + 1 := g2
  rcases (show xs.length = 3 ∨ xs.length = 2 by omega) with h | h
  · obtain ⟨x, y, z, rfl⟩ := len3 h; exact h0 s x y z hK
  · obtain ⟨x, y, rfl⟩ := len2 h; exact h1 s x y hK

/-- a pattern that lies written out -/
noncomputable def PatAt (K : W.Frag) (p : Addr) (code : Array Nat) : Prop := ∃ a b c cl dd cv n sl, K.lookup p = some ⟨.type "re.Pattern", none, .fields #[a, b, .int 0 0, .none, .none, .ref c, .int 0 0], #[]⟩ ∧ K.lookup c = some ⟨cl, dd, .seq cv n, sl⟩ ∧ (cv.map Builtin.Re.reRawOf).map (·.toNat) = code
theorem patOk_of {X : Cx} {nm : Str} {p : Addr} {code : Array Nat} (hK : X.K.In X.base) (hg : X.mg nm = some (.ref p)) (e : PatAt X.K p code) (hc : codeOk code) : PatOk X nm := by
  obtain ⟨a, b, c, cl, dd, cv, n, sl, h1, h2, h3⟩ := e
  exact ⟨p, c, a, b, cv, n, _, hg, hK _ _ h1, hK _ _ h2, rfl, by rw [h3]; exact hc⟩

end Mine
end

section
open PySem
set_option Elab.async false
set_option maxRecDepth 10000
namespace Mine

theorem bind_at {α β : Type} {m : M α} {f : α → M β} {σ σ' : St} {a : α} (h : m σ = some (a, σ')) : (m >>= f) σ = f a σ' := by
  show mbind m f σ = _
  unfold mbind; rw [h]
theorem name_at {x : Str} {v : V} {σ : St} (hx : (x == dbg) = false) (e : σ.loc x = some v) : nameS x σ = some (v, σ) := by
  unfold nameS
  rw [if_neg (by intro h; subst h; simp at hx)]
  unfold getLoc; rw [e]; rfl

theorem cut_same {n : Nat} {σ σ₁ : St} (h : cutM n σ = some σ₁) (hl : σ.heap.length = n) : σ₁.heap = σ.heap := by
  unfold cutM at h
  split at h
  · cases h
    simp only
    rw [← hl, List.take_length]
  · cases h

theorem callB_same {ps : List Str} {mb : M Fl} {vs : List V} {σ σ' : St} {f : Fl} (hl : ps.length = vs.length) (h : mb ⟨bindP ps vs, σ.heap⟩ = some (f, σ')) (hh : σ'.heap.length = σ.heap.length) : callB ps mb vs σ = some (retV f, ⟨σ.loc, σ'.heap⟩) := by
  unfold callB
  rw [if_pos hl, h]
  dsimp only
  split
  · rename_i σ₁ hc
    split at hc
    · rw [cut_same hc hh]
    · cases hc
  · rfl

theorem convP_at {self : V} {x : Str} {b : Bool} {σ : St} (hx : x.length ≤ big) : convP self [.dat (.str x)] [(sName, .dat (.bool b))] σ = some (.dat (.str x), σ) := by
  have e0 : convP self [.dat (.str x)] [(sName, .dat (.bool b))] = callB [sSelf, sValue, sName] convM [self, .dat (.str x), .dat (.bool b)] := by
    simp [convP]
  rw [e0]
  have := callB_same (ps := [sSelf, sValue, sName]) (mb := convM) (vs := [self, .dat (.str x), .dat (.bool b)]) (σ := σ) (f := .ret (.dat (.str x)))
    (σ' := ⟨fun y => if y = sRegex then none else bindP [sSelf, sValue, sName] [self, .dat (.str x), .dat (.bool b)] y, σ.heap⟩) rfl (by
      unfold convM
      have h1 : bindP [sSelf, sValue, sName] [self, .dat (.str x), .dat (.bool b)] sValue = some (.dat (.str x)) := by
        unfold bindP
        simp only [List.zip_cons_cons, List.lookup_cons]
        rw [show (sValue == sSelf) = false by decide, show (sValue == sValue) = true by decide]
      have h2 : bindP [sSelf, sValue, sName] [self, .dat (.str x), .dat (.bool b)] sName = some (.dat (.bool b)) := by
        unfold bindP
        simp only [List.zip_cons_cons, List.lookup_cons]
        rw [show (sName == sSelf) = false by decide, show (sName == sValue) = false by decide, show (sName == sName) = true by decide]
      simp only [h1, h2, if_pos hx]) rfl
  rw [this]
  rfl


noncomputable def turnM (bind : V → M Unit) (tests : List (M Bool)) (elt : M V) (v : V) : M (Option PyData) := do
  bind v
  let ok ← allS tests
  if ok then (do let x ← elt; let d ← asDat x; mpure (some d)) else mpure none

theorem cut_all {hp : List AObj} {loc : Str → Option V} (hwf : hp.all (okO hp.length) = true) : cutM hp.length ⟨loc, hp⟩ = some ⟨fun x => (loc x).filter (okV hp.length), hp⟩ := by
  unfold cutM
  simp only [List.take_length, hwf, if_true]

end Mine
end

section
open PySem
set_option Elab.async false
namespace Mine
noncomputable def x_dot0 : Str := Str.ofString ".0"
noncomputable def x___delitem__ : Str := Str.ofString "__delitem__"
noncomputable def x___setitem__ : Str := Str.ofString "__setitem__"
noncomputable def x__convert_string_type : Str := Str.ofString "_convert_string_type"
noncomputable def x__headers : Str := Str.ofString "_headers"
noncomputable def x_amount : Str := Str.ofString "amount"
noncomputable def x_default : Str := Str.ofString "default"
noncomputable def x_ends : Str := Str.ofString "ends"
noncomputable def x_get : Str := Str.ofString "get"
noncomputable def x_headers : Str := Str.ofString "headers"
noncomputable def x_int : Str := Str.ofString "int"
noncomputable def x_items : Str := Str.ofString "items"
noncomputable def x_k : Str := Str.ofString "k"
noncomputable def x_keys : Str := Str.ofString "keys"
noncomputable def x_kv : Str := Str.ofString "kv"
noncomputable def x_left : Str := Str.ofString "left"
noncomputable def x_letter : Str := Str.ofString "letter"
noncomputable def x_list : Str := Str.ofString "list"
noncomputable def x_name : Str := Str.ofString "name"
noncomputable def x_number : Str := Str.ofString "number"
noncomputable def x_one : Str := Str.ofString "one"
noncomputable def x_place : Str := Str.ofString "place"
noncomputable def x_plain : Str := Str.ofString "plain"
noncomputable def x_product : Str := Str.ofString "product"
noncomputable def x_right : Str := Str.ofString "right"
noncomputable def x_script : Str := Str.ofString "script"
noncomputable def x_self : Str := Str.ofString "self"
noncomputable def x_table : Str := Str.ofString "table"
noncomputable def x_told : Str := Str.ofString "told"
noncomputable def x_total : Str := Str.ofString "total"
noncomputable def x_two : Str := Str.ofString "two"
noncomputable def x_v : Str := Str.ofString "v"
noncomputable def x_val : Str := Str.ofString "val"
noncomputable def x_value : Str := Str.ofString "value"
noncomputable def x_values : Str := Str.ofString "values"
end Mine
end

section
open PySem
set_option Elab.async false
set_option maxRecDepth 10000
namespace Mine

noncomputable def Run {α : Type} (m : M α) (σ : St) (a : α) (σ' : St) : Prop := m σ = some (a, σ')
noncomputable def Ok {α : Type} (m : M α) (σ : St) (Q : α → St → Prop) : Prop := ∃ a σ', m σ = some (a, σ') ∧ Q a σ'
/-- what is known of the names -/
noncomputable def lkp (K : List (Str × V)) (x : Str) : Option V := if x == dbg then none else K.lookup x
noncomputable def Kn (K : List (Str × V)) (l : Str → Option V) : Prop := ∀ x v, lkp K x = some v → l x = some v

theorem Run.ok {α : Type} {m : M α} {σ σ' : St} {a : α} {Q : α → St → Prop} (h : Run m σ a σ') (q : Q a σ') : Ok m σ Q := ⟨a, σ', h, q⟩
theorem Ok.mono {α : Type} {m : M α} {σ : St} {Q Q' : α → St → Prop} (h : Ok m σ Q) (q : ∀ a σ', Q a σ' → Q' a σ') : Ok m σ Q' := by
  obtain ⟨a, s, e, k⟩ := h; exact ⟨a, s, e, q _ _ k⟩
theorem ok_bind {α β : Type} {m : M α} {f : α → M β} {σ : St} {Q : β → St → Prop} (h : Ok m σ fun a σ' => Ok (f a) σ' Q) : Ok (m >>= f) σ Q := by
  obtain ⟨a, s, e, b, s', e', q⟩ := h
  exact ⟨b, s', by rw [bind_at e]; exact e', q⟩
theorem run_bind {α β : Type} {m : M α} {f : α → M β} {σ σ1 σ2 : St} {a : α} {b : β} (h : Run m σ a σ1) (k : Run (f a) σ1 b σ2) : Run (m >>= f) σ b σ2 := by
  unfold Run at *; rw [bind_at h]; exact k
theorem ok_run {α β : Type} {m : M α} {f : α → M β} {σ σ1 : St} {a : α} {Q : β → St → Prop} (h : Run m σ a σ1) (k : Ok (f a) σ1 Q) : Ok (m >>= f) σ Q := ok_bind ⟨a, σ1, h, k⟩

section
variable {Q : Prm} {l l1 l2 l3 : Str → Option V} {hp h1 h2 h3 : List AObj} {σ σ1 σ2 σ3 : St} {x y : Str} {v w : V} {R : Fl → St → Prop}

/-! names -/
theorem lkp_some {K : List (Str × V)} (h : lkp K x = some v) : (x == dbg) = false ∧ K.lookup x = some v := by
  unfold lkp at h
  cases q : x == dbg with
  | true => rw [q] at h; cases h
  | false => rw [q] at h; exact ⟨rfl, h⟩
theorem kn_nil : Kn [] l := fun x v h => by
  have := (lkp_some h).2; cases this
theorem kn_put {K : List (Str × V)} (hk : Kn K l) : Kn ((x, v) :: K) (upd l x v) := fun y w h => by
  obtain ⟨h1, h2⟩ := lkp_some h
  rw [List.lookup_cons] at h2
  unfold upd
  cases q : y == x with
  | true => rw [q] at h2; cases h2; rw [if_pos (beq_iff_eq.mp q)]
  | false =>
    rw [q] at h2
    rw [if_neg (fun e => by rw [beq_iff_eq.mpr e] at q; cases q)]
    exact hk y w (by unfold lkp; rw [h1]; exact h2)
theorem kn_cons {K L : List (Str × V)} (hk : Kn L l) (h : lkp L x = some v) (k : Kn K l) : Kn ((x, v) :: K) l := fun y w q => by
  obtain ⟨h1, h2⟩ := lkp_some q
  rw [List.lookup_cons] at h2
  cases e : y == x with
  | true => rw [e] at h2; cases h2; rw [beq_iff_eq.mp e]; exact hk _ _ h
  | false => rw [e] at h2; exact k y w (by unfold lkp; rw [h1]; exact h2)
noncomputable def cutL (n : Nat) (l : Str → Option V) : Str → Option V := fun x => (l x).filter (okV n)
theorem kn_cut {K : List (Str × V)} {n : Nat} (h : K.all (fun p => okV n p.2) = true) (hk : Kn K l) : Kn K (cutL n l) := fun y w q => by
  unfold cutL
  rw [hk y w q]
  have := List.all_eq_true.mp h _ (mem_of_lookup (lkp_some q).2)
  simp only at this
  simp [Option.filter, this]
theorem kn_vis {K : List (Str × V)} {sc : Scope} (h : K.all (fun p => sc.names.lookup p.1 == some .free) = true) (hk : Kn K l) : Kn K (vis sc l) := fun y w q => by
  have := List.all_eq_true.mp h _ (mem_of_lookup (lkp_some q).2)
  unfold vis
  rw [if_pos (beq_iff_eq.mp this)]
  exact hk y w q
theorem kn_par {ps : List Str} {vs : List V} : Kn (ps.zip vs) (bindP ps vs) := fun y w q => (lkp_some q).2

theorem r_name {K : List (Str × V)} (hk : Kn K l) (h : lkp K x = some v) : Run (nameS x) ⟨l, hp⟩ v ⟨l, hp⟩ := name_at (lkp_some h).1 (hk x v h)
theorem r_dat {d : PyData} : Run (datM d) σ (.dat d) σ := rfl
/-! expressions -/
theorem r_bin {op : Operator} {a b : M V} {u : V} (ha : Run a σ v σ1) (hb : Run b σ1 w σ2) (h : Run (binS op v w) σ2 u σ3) : Run (binM op a b) σ u σ3 := run_bind ha (run_bind hb h)
theorem b_dat {op : Operator} {d e r : PyData} (h : binD op d e = some r) : Run (binS op (.dat d) (.dat e)) σ (.dat r) σ := by
  show binS op (.dat d) (.dat e) σ = _
  unfold binS
  rw [bind_at (show readD (.dat d) σ = some (d, σ) from rfl), bind_at (show readD (.dat e) σ = some (e, σ) from rfl), h]
  rfl
theorem b_mod {i j : Int} (h : j ≠ 0) : Run (binS .Mod (.dat (.int i)) (.dat (.int j))) σ (.dat (.int (i.fmod j))) σ := b_dat (by show (modI i j).map PyData.int = _; unfold modI; rw [if_pos h]; rfl)
theorem b_mul {i j : Int} (h : i.natAbs < 2 ^ 31 ∧ j.natAbs < 2 ^ 31) : Run (binS .Mult (.dat (.int i)) (.dat (.int j))) σ (.dat (.int (i * j))) σ := b_dat (by show (mulI i j).map PyData.int = _; unfold mulI; rw [if_pos h]; rfl)
theorem b_addI {i j : Int} : Run (binS .Add (.dat (.int i)) (.dat (.int j))) σ (.dat (.int (i + j))) σ := b_dat rfl
theorem b_subI {i j : Int} : Run (binS .Sub (.dat (.int i)) (.dat (.int j))) σ (.dat (.int (i - j))) σ := b_dat rfl
noncomputable def Rd (v : V) (σ : St) (d : PyData) : Prop := readD v σ = some (d, σ)
theorem rd_dat {d : PyData} : Rd (.dat d) σ d := rfl
theorem rd_obj {i : Nat} {ds : List PyData} (h : hp[i]? = some (.lst ds)) : Rd (.obj i) ⟨l, hp⟩ (.list ds) := by
  unfold Rd; show (match hp[i]? with | some (.lst ds) => _ | some (.frz ds) => _ | _ => _) = _
  rw [h]
theorem r_ifx0 {t : M Bool} {a b : M V} (h : Run t σ false σ1) (k : Run b σ1 v σ2) : Run (ifxM t a b) σ v σ2 := run_bind h k
theorem r_ifxB {t : M Bool} {a b : M V} {c : Bool} {d e : PyData} (h : Run t σ c σ1) (k1 : Run a σ1 (.dat d) σ1) (k2 : Run b σ1 (.dat e) σ1) : Run (ifxM t a b) σ (.dat (if c then d else e)) σ1 := run_bind h (by cases c; exact k2; exact k1)

theorem q_nil : Run (seqS []) σ [] σ := rfl
theorem q_cons {m : M V} {ms : List (M V)} {vs : List V} (h : Run m σ v σ1) (k : Run (seqS ms) σ1 vs σ2) : Run (seqS (m :: ms)) σ (v :: vs) σ2 := run_bind h (run_bind k rfl)
theorem kw_nil : Run (kwS []) σ [] σ := rfl
theorem kw_cons {m : M V} {ms : List (Str × M V)} {vs : List (Str × V)} (h : Run m σ v σ1) (k : Run (kwS ms) σ1 vs σ2) : Run (kwS ((x, m) :: ms)) σ ((x, v) :: vs) σ2 := run_bind h (run_bind k rfl)

theorem ls_at {ms : List (M V)} {vs : List V} {ds : List PyData} (h : Run (seqS ms) σ vs σ1) (k : allDat vs = some ds) (hb : ds.length ≤ big) : Run (listS Q ms) σ ds σ1 := by
  refine run_bind h ?_
  rw [k]
  refine run_bind (show Run (mopt (some ds)) σ1 ds σ1 from rfl) ?_
  refine run_bind (show Run (mguard (decide (ds.length ≤ big))) σ1 () σ1 from ?_) rfl
  unfold Run mguard; rw [if_pos (decide_eq_true hb)]
theorem ad_nil : allDat [] = some [] := rfl
theorem ad_cons {d : PyData} {vs : List V} {ds : List PyData} (h : allDat vs = some ds) : allDat (.dat d :: vs) = some (d :: ds) := by
  show (allDat vs).map (d :: ·) = _; rw [h]; rfl
theorem leB {a b : Nat} (h : Nat.ble a b = true) : a ≤ b := Nat.le_of_ble_eq_true h
theorem r_tup {ms : List (M V)} {vs : List V} {ds : List PyData} (h : Run (seqS ms) σ vs σ1) (k : allDat vs = some ds) (hb : ds.length ≤ big) : Run (tupM Q ms) σ (.dat (.tuple ds)) σ1 := run_bind (ls_at h k hb) rfl
theorem r_new {ds : List PyData} : Run (newObj (.lst ds)) ⟨l, hp⟩ (.obj hp.length) ⟨l, hp ++ [.lst ds]⟩ := rfl
theorem r_ownLst {ms : List (M V)} {vs : List V} {ds : List PyData} (h : Run (seqS ms) σ vs ⟨l1, h1⟩) (k : allDat vs = some ds) (hb : ds.length ≤ big) : Run (ownLstM Q ms) σ (.obj h1.length) ⟨l1, h1 ++ [.lst ds]⟩ := run_bind (ls_at h k hb) r_new
/-! comparisons -/
theorem r_cmp {op : CmpOp} {a b : M V} {u : V} (ha : Run a σ v σ1) (hb : Run b σ1 w σ2) (h : Run (cmpS Q op v w) σ2 u σ3) : Run (cmpM Q op a b) σ u σ3 := run_bind ha (run_bind hb h)
theorem c_rd {op : CmpOp} {d e : PyData} {r : Bool} (hv : Rd v σ d) (hw : Rd w σ e) (h : cmpD op d e = some r) : Run (cmpS Q op v w) σ (.dat (.bool r)) σ := by
  have hi : isInst w σ = false := by
    unfold isInst
    cases w with
    | dat _ => rfl
    | rng _ _ => rfl
    | emp => rfl
    | obj i =>
      have : (match σ.heap[i]? with | some (.lst ds) => some (PyData.list ds, σ) | some (.frz ds) => some (PyData.list ds, σ) | _ => none) = some (e, σ) := hw
      simp only
      split at this
      · rename_i q; rw [q]
      · rename_i q; rw [q]
      · cases this
  show cmpS Q op v w σ = _
  unfold cmpS
  rw [hi]
  simp only [Bool.false_eq_true, if_false]
  rw [bind_at hv, bind_at hw, h]; rfl
theorem cEqS {s t : Str} : cmpD .Eq (.str s) (.str t) = some (s == t) := by
  show (if min (PyData.depth (.str s)) (PyData.depth (.str t)) ≤ 50 then some (PyData.eqv (.str s) (.str t)) else none) = _
  rw [if_pos (by simp [PyData.depth])]; simp [PyData.eqv]
theorem cNeS {s t : Str} : cmpD .NotEq (.str s) (.str t) = some (s != t) := by
  show (if min (PyData.depth (.str s)) (PyData.depth (.str t)) ≤ 50 then some (!PyData.eqv (.str s) (.str t)) else none) = _
  rw [if_pos (by simp [PyData.depth])]; simp [PyData.eqv, bne]
theorem cEqI {s t : Int} : cmpD .Eq (.int s) (.int t) = some (decide (s = t)) := by
  show (if min (PyData.depth (.int s)) (PyData.depth (.int t)) ≤ 50 then some (PyData.eqv (.int s) (.int t)) else none) = _
  rw [if_pos (by simp [PyData.depth])]; simp [PyData.eqv]; rfl
theorem cNeI {s t : Int} : cmpD .NotEq (.int s) (.int t) = some (!decide (s = t)) := by
  show (if min (PyData.depth (.int s)) (PyData.depth (.int t)) ≤ 50 then some (!PyData.eqv (.int s) (.int t)) else none) = _
  rw [if_pos (by simp [PyData.depth])]; simp [PyData.eqv]; rfl

/-! tests -/
theorem t_tru {m : M V} {d : PyData} {b : Bool} (h : Run m σ v σ1) (hr : Rd v σ1 d) (k : truthD d = some b) : Run (truT m) σ b σ1 := by
  refine run_bind h (run_bind hr ?_)
  rw [k]; rfl
theorem t_bool {m : M V} {b : Bool} (h : Run m σ (.dat (.bool b)) σ1) : Run (truT m) σ b σ1 := t_tru h rfl rfl
theorem t_cmp {op : CmpOp} {a b : M V} {c : Bool} (h : Run (cmpM Q op a b) σ (.dat (.bool c)) σ1) : Run (truT (cmpM Q op a b)) σ c σ1 := t_bool h
theorem t_or {t u : M Bool} {b c : Bool} (h : Run t σ b σ) (k : b = false → Run u σ c σ) : Run (allTS .Or [t, u]) σ (b || c) σ := by
  refine run_bind h ?_
  cases b with
  | true => rfl
  | false => exact run_bind (k rfl) (by cases c <;> rfl)

/-! methods -/
theorem r_str {f : Str → Str} {o : M V} {x : Str} (ho : Run o σ (.dat (.str x)) σ1) (h : x.length ≤ big) : Run (strM f o) σ (.dat (.str (f x))) σ1 := by
  refine run_bind ho ?_
  show (if x.length ≤ big then mpure (V.dat (.str (f x))) else mfail) σ1 = _
  rw [if_pos h]; rfl
theorem r_lm {F : List PyData → List V → Option (PyData × List PyData)} {o : M V} {args : List (M V)} {i : Nat} {vs : List V} {cs ds es : List PyData} {r : PyData} (ho : Run o σ (.obj i) ⟨l1, h1⟩) (hg : h1[i]? = some (.lst cs)) (ha : Run (seqS args) ⟨l1, h1⟩ vs ⟨l2, h2⟩) (hi : h2[i]? = some (.lst ds)) (hb : ds.length ≤ big) (h : F ds vs = some (r, es)) :
    Run (lmM F o args) σ (.dat r) ⟨l2, h2.set i (.lst es)⟩ := by
  refine run_bind ho (run_bind (a := ()) (σ1 := ⟨l1, h1⟩) ?_ (run_bind ha ?_))
  · unfold Run lstG isLst; simp only [hg]; rfl
  · unfold Run lstF; simp only [hi, if_pos hb, h]; rfl
theorem r_im {o : M V} {name : Str} {args : List (M V)} {kws : List (Str × M V)} {i : Nat} {q : Option Nat} {vs : List V} {ks : List (Str × V)} (ho : Run o σ (.obj i) ⟨l1, h1⟩) (hi : h1[i]? = some (.inst q)) (ha : Run (seqS args) ⟨l1, h1⟩ vs σ2) (hq : Run (kwS kws) σ2 ks σ2) (h : Run (Q.mt name (.obj i) vs ks) σ2 w σ3) :
    Run (imM Q o name args kws) σ w σ3 := by
  refine run_bind ho (run_bind (a := ()) (σ1 := ⟨l1, h1⟩) ?_ (run_bind ha (run_bind hq h)))
  unfold Run instG isInst; simp only [hi]; rfl
theorem ml_append {ds : List PyData} {d : PyData} : appF ds [.dat d] = some (.none, ds ++ [d]) := rfl
/-! calls -/
theorem r_blt {F : List V → M V} {ms : List (M V)} {vs : List V} (h : Run (seqS ms) σ vs σ1) (k : Run (F vs) σ1 w σ2) : Run (bltM F ms) σ w σ2 := run_bind h k
theorem r_mk {ms : List (M V)} {vs : List V} (h : Run (seqS ms) σ vs σ1) (k : Run (Q.make vs) σ1 w σ2) : Run (mkM Q ms) σ w σ2 := run_bind h k
theorem f_len {d : PyData} {n : Nat} (hi : isInst v σ = false) (hr : Rd v σ d) (h : lenD d = some n) (hn : n ≤ big) : Run (lenB Q [v]) σ (.dat (.int n)) σ := by
  show lenS Q v σ = _
  unfold lenS
  rw [hi]
  simp only [Bool.false_eq_true, if_false]
  rw [bind_at hr, h, bind_at (show mopt (some n) σ = some (n, σ) from rfl), bind_at (show mguard (decide (n ≤ big)) σ = some ((), σ) by unfold mguard; rw [if_pos (decide_eq_true hn)])]
  rfl
theorem f_str {i : Int} (h : i.natAbs < 10 ^ 100) : Run (strB [.dat (.int i)]) σ (.dat (.str (strI i))) σ := by
  show (if i.natAbs < 10 ^ 100 then mpure (V.dat (.str (strI i))) else mfail) σ = _
  rw [if_pos h]; rfl
theorem f_range {n : Int} (h : n.natAbs < 2 ^ 40) : Run (rangeB [.dat (.int n)]) σ (.rng 0 n) σ := by
  show (if n.natAbs < 2 ^ 40 then mpure (V.rng 0 n) else mfail) σ = _
  rw [if_pos h]; rfl
/-! items, slices, attributes -/
theorem r_item {o i : M V} {u : V} (ho : Run o σ v σ1) (hi : Run i σ1 w σ2) (h : Run (itemS Q v w) σ2 u σ3) : Run (itemM Q o i) σ u σ3 := run_bind ho (run_bind hi h)
theorem i_rd {d e r : PyData} (hv : Rd v σ d) (hs : smallI e = true) (h : itemD d e = some r) : Run (itemS Q v (.dat e)) σ (.dat r) σ := by
  have hi : isInst v σ = false := by
    unfold isInst
    cases v with
    | dat _ => rfl
    | rng _ _ => rfl
    | emp => rfl
    | obj i =>
      have : (match σ.heap[i]? with | some (.lst ds) => some (PyData.list ds, σ) | some (.frz ds) => some (PyData.list ds, σ) | _ => none) = some (d, σ) := hv
      simp only
      split at this
      · rename_i q; rw [q]
      · rename_i q; rw [q]
      · cases this
  show itemS Q v (.dat e) σ = _
  unfold itemS
  rw [hi]
  simp only [Bool.false_eq_true, if_false]
  rw [bind_at hv, bind_at (show asDat (.dat e) σ = some (e, σ) from rfl), bind_at (show mguard (smallI e) σ = some ((), σ) by unfold mguard; rw [if_pos hs]), h]
  rfl
theorem op_none : Run (optS none) σ none σ := rfl
theorem r_slice {o : M V} {lo hi : Option (M V)} {a b : Option V} {x y : Option Int} {d r : PyData} (ho : Run o σ v σ1) (ha : Run (optS lo) σ1 a σ1) (hb : Run (optS hi) σ1 b σ1) (hd : Rd v σ1 d) (hx : boundS a = some x) (hy : boundS b = some y) (h : cutD x y d = some r) :
    Run (sliceM o lo hi) σ (.dat r) σ1 := by
  refine run_bind ho (run_bind ha (run_bind hb (run_bind hd ?_)))
  rw [hx, hy]
  refine run_bind (a := x) rfl (run_bind (a := y) rfl ?_)
  rw [h]; rfl
theorem r_attr {o : M V} {i n : Nat} (ho : Run o σ (.obj i) ⟨l1, h1⟩) (h : h1[i]? = some (.inst (some n))) : Run (attrM o x__headers) σ (.obj n) ⟨l1, h1⟩ := by
  refine run_bind ho ?_
  unfold Run attrS; simp only [h]; rw [if_pos (by decide)]

/-! statements -/
noncomputable def thenQ (b : M Fl) (R : Fl → St → Prop) : Fl → St → Prop
  | .next, σ => Ok b σ R
  | f, σ => R f σ
theorem o_then {a b : M Fl} (h : Ok a σ (thenQ b R)) : Ok (thenM a b) σ R := by
  refine ok_bind (h.mono fun f s k => ?_)
  cases f with
  | next => exact k
  | _ => exact Run.ok (a := _) (σ' := s) rfl k
theorem o_assoc {a b c : M Fl} (h : Ok (thenM a (thenM b c)) σ R) : Ok (thenM (thenM a b) c) σ R := by
  obtain ⟨f, s, e, q⟩ := h
  refine ⟨f, s, ?_, q⟩
  rw [← e]
  show mbind (mbind a _) _ σ = mbind a _ σ
  unfold mbind
  cases a σ with
  | none => rfl
  | some p =>
    obtain ⟨g, s'⟩ := p
    cases g <;> rfl
theorem o_endthen {b : M Fl} (h : Ok b σ R) : Ok (thenM endM b) σ R := o_then ⟨_, _, rfl, h⟩
theorem o_end (h : R .next σ) : Ok endM σ R := ⟨_, _, rfl, h⟩
theorem o_ret {m : M V} {b : M Fl} (h : Run m σ v σ1) (k : R (.ret v) σ1) : Ok (thenM (retM m) b) σ R := o_then ⟨_, _, run_bind h rfl, k⟩
theorem o_expr {m : M V} {b : M Fl} (h : Run m σ v σ1) (k : Ok b σ1 R) : Ok (thenM (exprM m) b) σ R := o_then ⟨_, _, run_bind h rfl, k⟩
theorem o_asg {K : List (Str × V)} {m : M V} {b : M Fl} (h : Run m σ v ⟨l1, h1⟩) (hk : Kn K l1) (k : ∀ l, Kn ((x, v) :: K) l → Ok b ⟨l, h1⟩ R) : Ok (thenM (asgM x m) b) σ R :=
  o_then ⟨_, _, run_bind h (run_bind (show Run (setLoc x v) ⟨l1, h1⟩ () ⟨upd l1 x v, h1⟩ from rfl) rfl), k _ (kn_put hk)⟩
theorem o_aug {K : List (Str × V)} {m : M V} {b : M Fl} {op : Operator} {d e r : PyData} (hk : Kn K l) (hn : lkp K x = some (.dat d)) (h : Run m ⟨l, hp⟩ (.dat e) ⟨l, h1⟩) (hr : binD op d e = some r) (k : ∀ l, Kn ((x, .dat r) :: K) l → Ok b ⟨l, h1⟩ R) : Ok (thenM (augM x op m) b) ⟨l, hp⟩ R :=
  o_then ⟨_, _, run_bind (r_name hk hn) (run_bind h (run_bind (show Run (asDat (.dat d)) ⟨l, h1⟩ d ⟨l, h1⟩ from rfl) (run_bind (show Run (asDat (.dat e)) ⟨l, h1⟩ e ⟨l, h1⟩ from rfl) (run_bind (show Run (mopt (binD op d e)) ⟨l, h1⟩ r ⟨l, h1⟩ by rw [hr]; rfl) (run_bind (show Run (setLoc x (.dat r)) ⟨l, h1⟩ () ⟨upd l x (.dat r), h1⟩ from rfl) rfl))))), k _ (kn_put hk)⟩
theorem o_asgIt {o i m : M V} {b : M Fl} {u : V} (hm : Run m σ u σ1) (ho : Run (setItA Q o i u) σ1 () σ2) (k : Ok b σ2 R) : Ok (thenM (asgItM Q o i m) b) σ R :=
  o_then ⟨_, _, run_bind hm (run_bind ho rfl), k⟩
theorem r_setIt {o i : M V} {u : V} (ho : Run o σ v σ1) (hi : Run i σ1 w σ2) (h : Run (setItemS Q v w u) σ2 () σ3) : Run (setItA Q o i u) σ () σ3 := run_bind ho (run_bind hi h)
theorem s_inst {i : Nat} {o : Option Nat} {u r : V} (hi : hp[i]? = some (.inst o)) (h : Run (Q.mt x___setitem__ (.obj i) [w, u] []) ⟨l, hp⟩ r σ1) : Run (setItemS Q (.obj i) w u) ⟨l, hp⟩ () σ1 := by
  show setItemS Q (.obj i) w u _ = _
  unfold setItemS
  rw [show isInst (.obj i) ⟨l, hp⟩ = true by unfold isInst; simp only [hi]]
  simp only [if_true]; rw [bind_at (show Q.mt (Str.ofString "__setitem__") (.obj i) [w, u] [] ⟨l, hp⟩ = _ from h)]; rfl
theorem s_lst {i : Nat} {ds : List PyData} {k : Int} {d : PyData} (hi : hp[i]? = some (.lst ds)) (hk : 0 ≤ k ∧ k < ds.length ∧ ds.length ≤ big) : Run (setItemS Q (.obj i) (.dat (.int k)) (.dat d)) ⟨l, hp⟩ () ⟨l, hp.set i (.lst (ds.set k.toNat d))⟩ := by
  show setItemS Q (.obj i) (.dat (.int k)) (.dat d) _ = _
  unfold setItemS
  rw [show isInst (.obj i) ⟨l, hp⟩ = false by unfold isInst; simp only [hi]]
  simp only [Bool.false_eq_true, if_false, hi, if_pos hk]
theorem o_asgAll {o m : M V} {b : M Fl} {i : Nat} {ds es : List PyData} (hm : Run m σ (.dat (.list es)) σ1) (ho : Run o σ1 (.obj i) ⟨l1, h1⟩) (hi : h1[i]? = some (.lst ds)) (hl : ds.length + es.length ≤ big) (k : Ok b ⟨l1, h1.set i (.lst es)⟩ R) : Ok (thenM (asgAllM o m) b) σ R :=
  o_then ⟨_, _, run_bind hm (run_bind (run_bind ho (show Run (setAllS (.obj i) (.dat (.list es))) ⟨l1, h1⟩ () ⟨l1, h1.set i (.lst es)⟩ by unfold Run setAllS; simp only [hi, if_pos hl])) rfl), k⟩
theorem o_asgAttr {o m : M V} {b : M Fl} {i j : Nat} {ds : List PyData} (hm : Run m σ (.obj j) σ1) (ho : Run o σ1 (.obj i) ⟨l1, h1⟩) (hi : h1[i]? = some (.inst none)) (hj : h1[j]? = some (.lst ds)) (k : Ok b ⟨l1, h1.set i (.inst (some j))⟩ R) : Ok (thenM (asgAttrM o x__headers m) b) σ R :=
  o_then ⟨_, _, run_bind hm (run_bind (run_bind ho (show Run (setAttrS (.obj i) x__headers (.obj j)) ⟨l1, h1⟩ () ⟨l1, h1.set i (.inst (some j))⟩ by unfold Run setAttrS; simp only [hi, hj]; rw [if_pos (by decide)])) rfl), k⟩
theorem o_del {o i : M V} {b : M Fl} {n : Nat} {q : Option Nat} {r : V} (ho : Run o σ (.obj n) σ1) (hi : Run i σ1 w ⟨l2, h2⟩) (hn : h2[n]? = some (.inst q)) (h : Run (Q.mt x___delitem__ (.obj n) [w] []) ⟨l2, h2⟩ r σ3) (k : Ok b σ3 R) : Ok (thenM (delM Q o i) b) σ R := by
  refine o_then ⟨_, _, run_bind ho (run_bind hi (run_bind (show Run (delItemS Q (.obj n) w) ⟨l2, h2⟩ () σ3 from ?_) rfl)), k⟩
  show delItemS Q (.obj n) w _ = _
  unfold delItemS
  rw [show isInst (.obj n) ⟨l2, h2⟩ = true by unfold isInst; simp only [hn]]
  simp only [if_true]; rw [bind_at (show Q.mt (Str.ofString "__delitem__") (.obj n) [w] [] ⟨l2, h2⟩ = _ from h)]; rfl
theorem o_if {t : M Bool} {a b c : M Fl} {q : Bool} (h : Run t σ q σ1) (k1 : q = true → Ok (thenM a c) σ1 R) (k0 : q = false → Ok (thenM b c) σ1 R) : Ok (thenM (ifM t a b) c) σ R := by
  have e : Ok (thenM (bif q then a else b) c) σ1 R := by cases q; exact k0 rfl; exact k1 rfl
  obtain ⟨f, s, e, k⟩ := e
  refine ⟨f, s, ?_, k⟩
  rw [← e]
  show mbind (mbind t _) _ σ = mbind _ _ σ1
  unfold mbind
  rw [show t σ = some (q, σ1) from h]
theorem o_if1 {t : M Bool} {a b c : M Fl} (h : Run t σ true σ1) (k1 : Ok (thenM a c) σ1 R) : Ok (thenM (ifM t a b) c) σ R := o_if h (fun _ => k1) (fun e => by cases e)
theorem o_if0 {t : M Bool} {a b c : M Fl} (h : Run t σ false σ1) (k1 : Ok (thenM b c) σ1 R) : Ok (thenM (ifM t a b) c) σ R := o_if h (fun e => by cases e) (fun _ => k1)

/-! loops -/
noncomputable def cutS (n : Nat) (σ : St) : St := ⟨cutL n σ.loc, σ.heap.take n⟩
noncomputable def Cut (n : Nat) (R : Fl → St → Prop) (f : Fl) (σ : St) : Prop := okF n f = true ∧ (σ.heap.take n).all (okO n) = true ∧ R f (cutS n σ)
theorem o_scope {m : M Fl} (h : Ok m σ (Cut σ.heap.length R)) : Ok (scopeM m) σ R := by
  obtain ⟨f, s, e, h1, h2, h3⟩ := h
  refine ⟨f, cutS σ.heap.length s, ?_, h3⟩
  unfold scopeM
  rw [e]
  simp only [h1, if_true]
  unfold cutM
  rw [if_pos h2]; rfl
/-- what a turn of a loop leaves -/
noncomputable def turnQ (I : St → Prop) (R : Fl → St → Prop) : Fl → St → Prop
  | .brk, σ => R .next σ
  | .ret r, σ => R (.ret r) σ
  | _, σ => I σ
theorem o_forS {bind : V → M Unit} {body : M Fl} (I : List V → St → Prop) (hend : ∀ s vs, I vs s → vs = [] → R .next s) (hstep : ∀ v vs s, I (v :: vs) s → Ok (bind v >>= fun _ => body) s (Cut s.heap.length (turnQ (I vs) R))) : ∀ {vs : List V} {σ : St}, I vs σ → Ok (forS bind body vs) σ R
  | [], σ, h => ⟨_, _, rfl, hend _ _ h rfl⟩
  | v :: vs, σ, h => by
    obtain ⟨f, s, e, q⟩ := o_scope (hstep v vs σ h)
    have e' : scopeM (do bind v; body) σ = some (f, s) := e
    cases f with
    | brk => exact ⟨.next, s, by simp only [forS, e'], q⟩
    | ret r => exact ⟨.ret r, s, by simp only [forS, e'], q⟩
    | next =>
      obtain ⟨g, s', e2, q2⟩ := o_forS I hend hstep (vs := vs) q
      exact ⟨g, s', by simp only [forS, e', e2], q2⟩
    | cont =>
      obtain ⟨g, s', e2, q2⟩ := o_forS I hend hstep (vs := vs) q
      exact ⟨g, s', by simp only [forS, e', e2], q2⟩
/-- a loop over data with one name; the turns are counted -/
theorem o_forK {α : Type} {body : M Fl} (xs : List α) (e : α → PyData) (I : Nat → (Str → Option V) → List AObj → Prop) (h0 : I 0 l hp)
    (hstep : ∀ (k : Nat) (a : α) (l : Str → Option V) (hp : List AObj), xs[k]? = some a → I k l hp → ∀ l' : Str → Option V, (∀ K, Kn K l → Kn ((x, .dat (e a)) :: K) l') → Ok body ⟨l', hp⟩ (Cut hp.length (turnQ (fun s => I (k + 1) s.loc s.heap) R)))
    (hend : ∀ l hp, I xs.length l hp → R .next ⟨l, hp⟩) : Ok (forS (setLoc x) body ((xs.map e).map .dat)) ⟨l, hp⟩ R := by
  refine o_forS (fun vs s => ∃ k, k ≤ xs.length ∧ vs = ((xs.drop k).map e).map V.dat ∧ I k s.loc s.heap) ?_ ?_ ⟨0, Nat.zero_le _, rfl, h0⟩
  · rintro ⟨l, hp⟩ vs ⟨k, hk, hv, hI⟩ rfl
    have : xs.drop k = [] := by simpa using hv.symm
    have : k = xs.length := Nat.le_antisymm hk (List.drop_eq_nil_iff.mp this)
    subst this
    exact hend l hp hI
  · rintro v vs ⟨l, hp⟩ ⟨k, hk, hv, hI⟩
    cases q : xs[k]? with
    | none =>
      rw [List.drop_eq_nil_of_le (List.getElem?_eq_none_iff.mp q)] at hv; cases hv
    | some a =>
      obtain ⟨hlt, rfl⟩ := List.getElem?_eq_some_iff.mp q
      rw [List.drop_eq_getElem_cons hlt, List.map_cons, List.map_cons, List.cons.injEq] at hv
      obtain ⟨rfl, rfl⟩ := hv
      refine ok_run (show Run (setLoc x (.dat (e xs[k]))) ⟨l, hp⟩ () ⟨upd l x (.dat (e xs[k])), hp⟩ from rfl) ?_
      refine (hstep k _ l hp q hI _ fun K hK => kn_put hK).mono fun f s h => ⟨h.1, h.2.1, ?_⟩
      have h3 := h.2.2
      cases f with
      | brk => exact h3
      | ret r => exact h3
      | next => exact ⟨k + 1, hlt, rfl, h3⟩
      | cont => exact ⟨k + 1, hlt, rfl, h3⟩
/-- the same with a pair of names -/
theorem o_forK2 {α : Type} {body : M Fl} (xs : List α) (e1 e2 : α → PyData) (I : Nat → (Str → Option V) → List AObj → Prop) (h0 : I 0 l hp)
    (hstep : ∀ (k : Nat) (a : α) (l : Str → Option V) (hp : List AObj), xs[k]? = some a → I k l hp → ∀ l' : Str → Option V, (∀ K, Kn K l → Kn ((y, .dat (e2 a)) :: (x, .dat (e1 a)) :: K) l') → Ok body ⟨l', hp⟩ (Cut hp.length (turnQ (fun s => I (k + 1) s.loc s.heap) R)))
    (hend : ∀ l hp, I xs.length l hp → R .next ⟨l, hp⟩) : Ok (forS (two (setLoc x) (setLoc y)) body ((xs.map fun a => .tuple [e1 a, e2 a]).map .dat)) ⟨l, hp⟩ R := by
  refine o_forS (fun vs s => ∃ k, k ≤ xs.length ∧ vs = ((xs.drop k).map fun a => PyData.tuple [e1 a, e2 a]).map V.dat ∧ I k s.loc s.heap) ?_ ?_ ⟨0, Nat.zero_le _, rfl, h0⟩
  · rintro ⟨l, hp⟩ vs ⟨k, hk, hv, hI⟩ rfl
    have : xs.drop k = [] := by simpa using hv.symm
    have : k = xs.length := Nat.le_antisymm hk (List.drop_eq_nil_iff.mp this)
    subst this
    exact hend l hp hI
  · rintro v vs ⟨l, hp⟩ ⟨k, hk, hv, hI⟩
    cases q : xs[k]? with
    | none =>
      rw [List.drop_eq_nil_of_le (List.getElem?_eq_none_iff.mp q)] at hv; cases hv
    | some a =>
      obtain ⟨hlt, rfl⟩ := List.getElem?_eq_some_iff.mp q
      rw [List.drop_eq_getElem_cons hlt, List.map_cons, List.map_cons, List.cons.injEq] at hv
      obtain ⟨rfl, rfl⟩ := hv
      refine ok_run (show Run (two (setLoc x) (setLoc y) (.dat (.tuple [e1 xs[k], e2 xs[k]]))) ⟨l, hp⟩ () ⟨upd (upd l x (.dat (e1 xs[k]))) y (.dat (e2 xs[k])), hp⟩ from rfl) ?_
      refine (hstep k _ l hp q hI _ fun K hK => kn_put (kn_put hK)).mono fun f s h => ⟨h.1, h.2.1, ?_⟩
      have h3 := h.2.2
      cases f with
      | brk => exact h3
      | ret r => exact h3
      | next => exact ⟨k + 1, hlt, rfl, h3⟩
      | cont => exact ⟨k + 1, hlt, rfl, h3⟩
theorem o_for {bind : V → M Unit} {body : M Fl} {it : M V} {b : M Fl} (h : Run it σ v σ1) (k : Ok (forV bind body v) σ1 (thenQ b R)) : Ok (thenM (forM bind body it) b) σ R := o_then (ok_run h k)
theorem o_forRng {bind : V → M Unit} {body : M Fl} {a b : Int} (h : smallR a b = true) (k : Ok (forS bind body ((intsD a b).map .dat)) σ R) : Ok (forV bind body (.rng a b)) σ R := by
  show Ok (if smallR a b = true then forS bind body ((intsD a b).map .dat) else mfail) σ R
  rw [if_pos h]; exact k
theorem o_forObj {bind : V → M Unit} {body : M Fl} {i : Nat} {ds : List PyData} (h : hp[i]? = some (.lst ds)) (k : Ok (forS bind body (ds.map .dat)) ⟨l, hp.set i (.frz ds)⟩ fun f s => R f ⟨s.loc, s.heap.set i (.lst ds)⟩) : Ok (forV bind body (.obj i)) ⟨l, hp⟩ R := by
  obtain ⟨f, s, e, q⟩ := k
  refine ⟨f, _, ?_, q⟩
  show frozenG i _ ⟨l, hp⟩ = _
  unfold frozenG
  simp only [h, e]
/-! comprehensions -/
theorem r_lc {sc : Scope} {bind : V → M Unit} {tests : List (M Bool)} {elt it : M V} {ds : List PyData} (h : Run it σ v σ1) (k : Run (compV sc bind tests elt v) σ1 ds σ1) : Run (lcM sc bind tests elt it) σ (.dat (.list ds)) σ1 := run_bind (run_bind h k) rfl
/-! calls of defs -/
theorem callB_ok {ps : List Str} {mb : M Fl} {vs : List V} {S : V → St → Prop} (hl : ps.length = vs.length) (h : ∀ l', Kn (ps.zip vs) l' → Ok mb ⟨l', hp⟩ fun f s => s.heap.length = hp.length ∧ S (retV f) ⟨l, s.heap⟩) : Ok (callB ps mb vs) ⟨l, hp⟩ S := by
  obtain ⟨f, s, e, q, k⟩ := h _ kn_par
  exact ⟨_, _, callB_same (σ := ⟨l, hp⟩) hl e q, k⟩
end

end Mine
end

section
open PySem
set_option Elab.async false
set_option maxRecDepth 10000
namespace Mine

noncomputable def wf (hp : List AObj) : Bool := hp.all (okO hp.length)

theorem set_back {hp : List AObj} {l : Nat} {o x : AObj} (h : hp[l]? = some o) : (hp.set l x).set l o = hp := by
  rw [List.set_set]
  apply List.ext_getElem?
  intro j
  rw [List.getElem?_set]
  split
  · rename_i hj
    subst hj
    obtain ⟨hlt, e⟩ := List.getElem?_eq_some_iff.mp h
    rw [if_pos hlt, h]
  · rfl

theorem wf_set {hp : List AObj} {l : Nat} {o : AObj} (h : wf hp = true) (ho : okO hp.length o = true) : wf (hp.set l o) = true := by
  unfold wf at *
  rw [List.all_eq_true] at *
  intro x hx
  rw [List.length_set]
  rcases List.mem_or_eq_of_mem_set hx with hx | rfl
  · exact h x hx
  · exact ho

section
variable {Q : Prm} {l l1 l2 l3 : Str → Option V} {hp h1 h2 h3 : List AObj} {σ σ1 σ2 σ3 : St} {x y : Str} {v w : V} {R : Fl → St → Prop}

theorem cv_dat {sc : Scope} {bind : V → M Unit} {tests : List (M Bool)} {elt : M V} {d : PyData} {ds es : List PyData} (h : itemsD d = some ds) (k : Run (compS sc bind tests elt (ds.map .dat)) σ es σ) : Run (compV sc bind tests elt (.dat d)) σ es σ := by
  show Run (match itemsD d with | some ds => compS sc bind tests elt (ds.map .dat) | none => mfail) σ es σ
  rw [h]; exact k
theorem cv_obj {sc : Scope} {bind : V → M Unit} {tests : List (M Bool)} {elt : M V} {n : Nat} {ds es : List PyData} (h : hp[n]? = some (.lst ds)) (k : Run (compS sc bind tests elt (ds.map .dat)) ⟨l, hp.set n (.frz ds)⟩ es ⟨l, hp.set n (.frz ds)⟩) : Run (compV sc bind tests elt (.obj n)) ⟨l, hp⟩ es ⟨l, hp⟩ := by
  show frozenG n _ ⟨l, hp⟩ = _
  unfold frozenG
  have k' : compS sc bind tests elt (ds.map .dat) ⟨l, hp.set n (.frz ds)⟩ = some (es, ⟨l, hp.set n (.frz ds)⟩) := k
  simp only [h, k']
  rw [set_back h]
theorem turn_at {bind : V → M Unit} {tests : List (M Bool)} {elt : M V} {c : Bool} {d : PyData} (hb : Run (bind v) σ () σ1) (ht : Run (allS tests) σ1 c σ1) (he : c = true → Run elt σ1 (.dat d) σ1) : turnM bind tests elt v σ = some (if c then some d else none, σ1) := by
  unfold turnM
  rw [bind_at hb, bind_at ht]
  cases c with
  | false => rfl
  | true =>
    simp only [if_true]
    rw [bind_at (he rfl)]; rfl

theorem compGo_at {α : Type} {bind : V → M Unit} {tests : List (M Bool)} {elt : M V} (hwf : wf hp = true) (I : (Str → Option V) → Prop) (e : α → PyData) (c : α → Bool) (f : α → PyData) :
    ∀ (xs : List α) (loc : Str → Option V), I loc → (∀ a ∈ xs, ∀ loc, I loc → ∃ loc', turnM bind tests elt (.dat (e a)) ⟨loc, hp⟩ = some (if c a then some (f a) else none, ⟨loc', hp⟩) ∧ I (cutL hp.length loc')) →
      ∃ loc', compGo bind tests elt ((xs.map e).map .dat) ⟨loc, hp⟩ = some ((xs.filter c).map f, ⟨loc', hp⟩)
  | [], loc, _, _ => ⟨loc, rfl⟩
  | a :: xs, loc, hI, hs => by
    obtain ⟨loc1, h1, h2⟩ := hs a (.head _) loc hI
    obtain ⟨loc2, h3⟩ := compGo_at hwf I e c f xs _ h2 fun d' hd => hs d' (.tail _ hd)
    refine ⟨loc2, ?_⟩
    have h1' : (do
        bind (.dat (e a))
        let ok ← allS tests
        if ok then (do let x ← elt; let d ← asDat x; mpure (some d)) else mpure none : M (Option PyData)) ⟨loc, hp⟩ = some (if c a then some (f a) else none, ⟨loc1, hp⟩) := h1
    have h3' : compGo bind tests elt ((xs.map e).map .dat) ⟨fun x => (loc1 x).filter (okV hp.length), hp⟩ = some ((xs.filter c).map f, ⟨loc2, hp⟩) := h3
    have hc : cutM hp.length ⟨loc1, hp⟩ = some ⟨fun x => (loc1 x).filter (okV hp.length), hp⟩ := cut_all hwf
    simp only [List.map_cons, compGo, h1', hc, h3']
    rw [List.filter_cons]
    cases c a <;> rfl

theorem kn_upd {K : List (Str × V)} (hK : K.all (fun p => !(p.1 == x)) = true) (h : Kn K l) : Kn K (upd l x v) := fun y w q => by
  have := List.all_eq_true.mp hK _ (mem_of_lookup (lkp_some q).2)
  simp only [Bool.not_eq_true'] at this
  unfold upd
  rw [if_neg (fun e => by rw [beq_iff_eq.mpr e] at this; cases this)]
  exact h y w q

/-- what a comprehension may lean on -/
noncomputable def kOk (sc : Scope) (n : Nat) (xs : List Str) (K : List (Str × V)) : Bool := K.all (fun p => sc.names.lookup p.1 == some .free) && K.all (fun p => okV n p.2) && xs.all fun x => K.all fun p => !(p.1 == x)
theorem kOk_parts {sc : Scope} {n : Nat} {xs : List Str} {K : List (Str × V)} (h : kOk sc n xs K = true) : K.all (fun p => sc.names.lookup p.1 == some .free) = true ∧ K.all (fun p => okV n p.2) = true ∧ ∀ x ∈ xs, K.all (fun p => !(p.1 == x)) = true := by
  unfold kOk at h
  rw [Bool.and_eq_true, Bool.and_eq_true] at h
  exact ⟨h.1.1, h.1.2, List.all_eq_true.mp h.2⟩

theorem comp1 {α : Type} {sc : Scope} {tests : List (M Bool)} {elt : M V} (hw : wf hp = true) {K : List (Str × V)} (h0 : Kn K l) (hK : kOk sc hp.length [x] K = true) {xs : List α} {e : α → PyData} {c : α → Bool} {f : α → PyData} (hb : xs.length ≤ big)
    (ht : ∀ a ∈ xs, ∀ l, Kn ((x, .dat (e a)) :: K) l → Run (allS tests) ⟨l, hp⟩ (c a) ⟨l, hp⟩ ∧ (c a = true → Run elt ⟨l, hp⟩ (.dat (f a)) ⟨l, hp⟩)) :
    Run (compS sc (setLoc x) tests elt ((xs.map e).map .dat)) ⟨l, hp⟩ ((xs.filter c).map f) ⟨l, hp⟩ := by
  obtain ⟨k1, k2, k3⟩ := kOk_parts hK
  have kx := k3 x (.head _)
  obtain ⟨loc', h⟩ := compGo_at (bind := setLoc x) (tests := tests) (elt := elt) hw (Kn K) e c f xs _ (kn_vis k1 h0) fun a ha l hl => by
    obtain ⟨t1, t2⟩ := ht a ha _ (kn_put hl)
    exact ⟨_, turn_at (σ1 := ⟨upd l x (.dat (e a)), hp⟩) rfl t1 t2, kn_cut k2 (kn_upd kx hl)⟩
  have hlen : ((xs.filter c).map f).length ≤ big := by
    rw [List.length_map]; exact Nat.le_trans (List.length_filter_le _ _) hb
  unfold Run compS
  simp only [h, if_pos hlen]
theorem comp2 {α : Type} {sc : Scope} {tests : List (M Bool)} {elt : M V} (hw : wf hp = true) {K : List (Str × V)} (h0 : Kn K l) (hK : kOk sc hp.length [x, y] K = true) {xs : List α} {e1 e2 : α → PyData} {c : α → Bool} {f : α → PyData} (hb : xs.length ≤ big)
    (ht : ∀ a ∈ xs, ∀ l, Kn ((y, .dat (e2 a)) :: (x, .dat (e1 a)) :: K) l → Run (allS tests) ⟨l, hp⟩ (c a) ⟨l, hp⟩ ∧ (c a = true → Run elt ⟨l, hp⟩ (.dat (f a)) ⟨l, hp⟩)) :
    Run (compS sc (two (setLoc x) (setLoc y)) tests elt ((xs.map fun a => .tuple [e1 a, e2 a]).map .dat)) ⟨l, hp⟩ ((xs.filter c).map f) ⟨l, hp⟩ := by
  obtain ⟨k1, k2, k3⟩ := kOk_parts hK
  have kx := k3 x (.head _)
  have ky := k3 y (.tail _ (.head _))
  obtain ⟨loc', h⟩ := compGo_at (bind := two (setLoc x) (setLoc y)) (tests := tests) (elt := elt) hw (Kn K) (fun a => .tuple [e1 a, e2 a]) c f xs _ (kn_vis k1 h0) fun a ha l hl => by
    obtain ⟨t1, t2⟩ := ht a ha _ (kn_put (kn_put hl))
    exact ⟨_, turn_at (σ1 := ⟨upd (upd l x (.dat (e1 a))) y (.dat (e2 a)), hp⟩) rfl t1 t2, kn_cut k2 (kn_upd ky (kn_upd kx hl))⟩
  have hlen : ((xs.filter c).map f).length ≤ big := by
    rw [List.length_map]; exact Nat.le_trans (List.length_filter_le _ _) hb
  unfold Run compS
  simp only [h, if_pos hlen]
theorem comp1m {α : Type} {sc : Scope} {elt : M V} (hw : wf hp = true) {K : List (Str × V)} (h0 : Kn K l) (hK : kOk sc hp.length [x] K = true) {xs : List α} {e : α → PyData} {f : α → PyData} (hb : xs.length ≤ big)
    (ht : ∀ a ∈ xs, ∀ l, Kn ((x, .dat (e a)) :: K) l → Run elt ⟨l, hp⟩ (.dat (f a)) ⟨l, hp⟩) :
    Run (compS sc (setLoc x) [] elt ((xs.map e).map .dat)) ⟨l, hp⟩ (xs.map f) ⟨l, hp⟩ := by
  have := comp1 (c := fun _ => true) (f := f) (tests := []) hw h0 hK hb fun a ha l hl => ⟨rfl, fun _ => ht a ha l hl⟩
  rwa [List.filter_eq_self.mpr fun _ _ => rfl] at this
theorem comp2m {α : Type} {sc : Scope} {elt : M V} (hw : wf hp = true) {K : List (Str × V)} (h0 : Kn K l) (hK : kOk sc hp.length [x, y] K = true) {xs : List α} {e1 e2 : α → PyData} {f : α → PyData} (hb : xs.length ≤ big)
    (ht : ∀ a ∈ xs, ∀ l, Kn ((y, .dat (e2 a)) :: (x, .dat (e1 a)) :: K) l → Run elt ⟨l, hp⟩ (.dat (f a)) ⟨l, hp⟩) :
    Run (compS sc (two (setLoc x) (setLoc y)) [] elt ((xs.map fun a => .tuple [e1 a, e2 a]).map .dat)) ⟨l, hp⟩ (xs.map f) ⟨l, hp⟩ := by
  have := comp2 (c := fun _ => true) (f := f) (tests := []) hw h0 hK hb fun a ha l hl => ⟨rfl, fun _ => ht a ha l hl⟩
  rwa [List.filter_eq_self.mpr fun _ _ => rfl] at this
theorem as_one {t : M Bool} {b : Bool} (h : Run t σ b σ) : Run (allS [t]) σ b σ := by
  refine run_bind h ?_
  cases b <;> rfl
end

theorem cut_ok {hp : List AObj} {l : Str → Option V} {f : Fl} {R : Fl → St → Prop} (hw : wf hp = true) (hf : okF hp.length f = true) (h : R f ⟨cutL hp.length l, hp⟩) : Cut hp.length R f ⟨l, hp⟩ := by
  refine ⟨hf, ?_, ?_⟩
  · show (hp.take hp.length).all _ = true
    rw [List.take_length]; exact hw
  · show R f ⟨cutL hp.length l, hp.take hp.length⟩
    rw [List.take_length]; exact h

theorem cut_ok' {hp : List AObj} {l : Str → Option V} {f : Fl} {R : Fl → St → Prop} {n : Nat} (hn : hp.length = n) (hw : wf hp = true) (hf : okF n f = true) (h : R f ⟨cutL n l, hp⟩) : Cut n R f ⟨l, hp⟩ := by
  subst hn; exact cut_ok hw hf h

/-! heaps that end in one more list -/
/-! pairs -/
noncomputable def pr (a : Str × Str) : PyData := .tuple [.str a.1, .str a.2]
noncomputable def tinyS (s : Str) : Prop := s.length ≤ 1000
noncomputable def tiny (ps : List (Str × Str)) : Prop := ps.length ≤ 1000 ∧ ∀ p ∈ ps, tinyS p.1 ∧ tinyS p.2
structure Tb (hp : List AObj) (i n : Nat) (ps : List (Str × Str)) : Prop where
  i : hp[i]? = some (.inst (some n))
  n : hp[n]? = some (.lst (ps.map pr))
  wf : wf hp = true
  tiny : tiny ps

theorem tinyS.big {s : Str} (h : tinyS s) : s.length ≤ big := Nat.le_trans h (by decide)
theorem tiny.big {ps : List (Str × Str)} (h : tiny ps) : ps.length ≤ big := Nat.le_trans h.1 (by decide)
theorem low_len (s : Str) : (low s).length = s.length := by
  unfold low mapS Str.length; simp
end Mine
end

section
open PySem
open Mine
local macro_rules | `(tactic| wtm_at $k:str) => do
  let one (w : String) : Lean.MacroM (Lean.TSyntax `tactic) := do
    match w.splitOn ":" with
    | [n, c] =>
      let t0 ← if n == "" then `(tactic| skip) else `(tactic| with_reducible apply $(Lean.mkIdent n.toName))
      c.toList.foldlM (fun (t : Lean.TSyntax `tactic) (ch : Char) =>
        if ch == 'e' || ch == 's' || ch == 'k' then `(tactic| ($t:tactic; (· wtm_at $(Lean.Syntax.mkStrLit (if ch == 'e' then "ev" else if ch == 's' then "sd" else "kn")))))
        else if ch == 'a' then `(tactic| ($t:tactic; (· with_reducible assumption)))
        else if ch == 'r' then `(tactic| ($t:tactic; (· exact rfl)))
        else if ch == 'o' then `(tactic| ($t:tactic; omega))
        else if ch == 'd' then `(tactic| ($t:tactic; decide))
        else if ch == '=' then `(tactic| (guard_target =~ _ = _; first | exact rfl | exact if_pos (by wtm_at "sd")))
        else if ch == 'n' then `(tactic| ($t:tactic; intro _))
        else `(tactic| ($t:tactic; intro $(Lean.mkIdent `l) $(Lean.mkIdent `hk)))) t0
    | _ => Lean.Macro.throwUnsupported
  let alts (s : String) : Lean.MacroM (Lean.TSyntax `tactic) := do
    let ts ← (s.splitOn " ").mapM one
    ts.foldrM (fun (t acc : Lean.TSyntax `tactic) => `(tactic| first | $t:tactic | $acc:tactic)) (← `(tactic| fail))
  match k.getString with
  | "ev" => `(tactic| repeat' wtm_at "ru")
  | "sd" => alts ":a :r leB:r :d :o"
  | "kn" => alts ":a kn_nil: kn_cons:ark"
  | "ru" => alts ":a r_dat: r_name: rd_dat: q_nil: kw_nil: r_pure: r_bin: r_cmp: r_item: r_str: r_im: r_lm: r_blt: r_call: q_cons: kw_cons: r_attr: r_lst: r_tup: r_ownLst: r_list1: r_ownList: r_un: r_slice: r_ownSlice: r_mk: r_setIt: r_join: r_and: t_cmp: t_not: t_and: t_or: t_tru: as_one: a_set: b_addI: b_subI: b_fdiv: b_mod: b_mul: b_addS: b_addL: b_dat: cEqS: cNeS: cEqI: cNeI: c_inst:s c_rd: i_inst:s i_rd: rd_obj:s rd_frz:s s_inst:s s_lst: f_len:r f_lenI:r f_intI: f_str: f_range: f_range2: lo_rng: lo_rd: op_none: op_some: u_neg: ml_append: ml_insert: ml_pop: ml_pop0: ml_rev: ad_nil: ad_cons: conv_at:a m_set:a m_del:a m_at:a m_get:a m_getd:a m_has:a m_len:a m_keys:a m_vals:a m_items:a m_itemsO:a m_all:a m_make0:a m_make1:asra r_ifxB: f_sortS:a f_sortI:a f_max2: f_max1:a ml_index: r_pow: m_beh:a m_cnt:a m_end:a m_add:a r_ownRep: f_min: f_ord: f_chr: := :n :s"
  | "st" => alts "o_assoc: o_endthen: o_asg:eai o_expr:e o_aug:areei o_ret:e o_asgNN:eai o_asg2:eee o_asgIt:ee o_asgSw:eai o_asgAll:eess o_asgAttr:eess o_del:eese o_end:"
  | _ => Lean.Macro.throwUnsupported

section
open PySem
set_option Elab.async false
set_option maxRecDepth 10000
set_option linter.unusedVariables false
namespace Mine
noncomputable def Dinit_b1 (Q : Prm) : M Fl := thenM (exprM (imM Q (nameS x_self) x__convert_string_type [nameS x_k] [(x_name, datM (.bool true))])) (thenM (exprM (imM Q (nameS x_self) x__convert_string_type [nameS x_v] [(x_name, datM (.bool false))])) (endM))
noncomputable def Dinit_r2 (Q : Prm) : M Fl := thenM (asgAttrM (nameS x_self) x__headers (nameS x_headers)) (thenM (ifM (truT (datM (.bool true))) (thenM (forM (two (setLoc x_k) (setLoc x_v)) (Dinit_b1 Q) (nameS x_headers)) (endM)) (endM)) (endM))
noncomputable def Dinit (Q : Prm) : M Fl := thenM (asgM x_headers (ifxM (truT (cmpM Q .IsNot (nameS x_headers) (datM .none))) (nameS x_headers) (ownLstM Q []))) (thenM (ifM (truT (typM .IsNot (nameS x_headers) x_list)) (thenM (mfail) (endM)) (endM)) (Dinit_r2 Q))
noncomputable def Dset (Q : Prm) : M Fl := thenM (delM Q (nameS x_self) (nameS x_name)) (thenM (exprM (lmM appF (attrM (nameS x_self) x__headers) [tupM Q [imM Q (nameS x_self) x__convert_string_type [nameS x_name] [(x_name, datM (.bool true))], imM Q (nameS x_self) x__convert_string_type [nameS x_val] [(x_name, datM (.bool false))]]])) (endM))
noncomputable def Ddel (Q : Prm) : M Fl := thenM (asgM x_name (imM Q (nameS x_self) x__convert_string_type [strM low (nameS x_name)] [(x_name, datM (.bool true))])) (thenM (asgAllM (attrM (nameS x_self) x__headers) (lcM (fscope [(x_dot0, .local), (x_kv, .local), (x_name, .free)]) (setLoc x_kv) [truT (cmpM Q .NotEq (strM low (itemM Q (nameS x_kv) (datM (.int 0)))) (nameS x_name))] (nameS x_kv) (attrM (nameS x_self) x__headers))) (endM))
noncomputable def Dget_b1 (Q : Prm) : M Fl := thenM (ifM (truT (cmpM Q .Eq (strM low (nameS x_k)) (nameS x_name))) (thenM (retM (nameS x_v)) (endM)) (endM)) (endM)
noncomputable def Dget_r2 (Q : Prm) : M Fl := thenM (retM (nameS x_default)) (endM)
noncomputable def Dget (Q : Prm) : M Fl := thenM (asgM x_name (imM Q (nameS x_self) x__convert_string_type [strM low (nameS x_name)] [(x_name, datM (.bool true))])) (thenM (forM (two (setLoc x_k) (setLoc x_v)) (Dget_b1 Q) (attrM (nameS x_self) x__headers)) (Dget_r2 Q))
noncomputable def Dkeys (Q : Prm) : M Fl := thenM (retM (lcM (fscope [(x_dot0, .local), (x_k, .local), (x_v, .local)]) (two (setLoc x_k) (setLoc x_v)) [] (nameS x_k) (attrM (nameS x_self) x__headers))) (endM)
noncomputable def Dvals (Q : Prm) : M Fl := thenM (retM (lcM (fscope [(x_dot0, .local), (x_k, .local), (x_v, .local)]) (two (setLoc x_k) (setLoc x_v)) [] (nameS x_v) (attrM (nameS x_self) x__headers))) (endM)
noncomputable def Ditems (Q : Prm) : M Fl := thenM (retM (sliceM (attrM (nameS x_self) x__headers) none none)) (endM)
section
variable {Q : Prm} {l : Str → Option V} {hp : List AObj} {i n : Nat} {ps : List (Str × Str)} {a b : Str}

theorem conv_at {σ : St} {o : Nat} {x : Str} {c : Bool} (hQ : Q.mt sConv = convP) (hx : x.length ≤ big) : Run (Q.mt x__convert_string_type (.obj o) [.dat (.str x)] [(x_name, .dat (.bool c))]) σ (.dat (.str x)) σ := by
  show Q.mt sConv (.obj o) [.dat (.str x)] [(sName, .dat (.bool c))] σ = _
  rw [hQ]; exact convP_at hx

/-- what __delitem__ does -/
noncomputable def delP (ps : List (Str × Str)) (a : Str) : List (Str × Str) := ps.filter fun p => low p.1 != low a
noncomputable def getP (ps : List (Str × Str)) (a : Str) (d : PyData) : PyData := match ps.find? fun p => low p.1 == low a with
  | some p => .str p.2
  | none => d
theorem low_big (ha : tinyS a) : (low a).length ≤ big := by rw [low_len]; exact ha.big
theorem tiny_del (h : tiny ps) : tiny (delP ps a) := ⟨Nat.le_trans (List.length_filter_le _ _) h.1, fun p hp => h.2 p (List.mem_filter.mp hp).1⟩
theorem pr0 {p : Str × Str} : itemD (pr p) (.int 0) = some (.str p.1) := rfl
theorem body_del (hQ : Q.mt sConv = convP) (t : Tb hp i n ps) (ha : tinyS a) (hk : Kn [(x_self, .obj i), (x_name, .dat (.str a))] l) : Ok (Ddel Q) ⟨l, hp⟩ fun f s => f = .next ∧ s.heap = hp.set n (.lst ((delP ps a).map pr)) := by
  have h1 := t.i
  have h2 := ha.big
  have h3 := low_big ha
  unfold Ddel
  wtm_at "st"
  rename_i l hk
  refine o_asgAll (r_lc (v := .obj n) (ds := (delP ps a).map pr) (σ1 := ⟨l, hp⟩) (by wtm_at "ev") (cv_obj t.n (comp1 (K := [(x_name, .dat (.str (low a)))]) (wf_set t.wf rfl) (by wtm_at "kn") rfl t.tiny.big fun p hp l hl => ?_))) (by wtm_at "ev") t.n ?_ (o_end ⟨rfl, rfl⟩)
  · have hpb := (t.tiny.2 p hp).1.big
    have h0 := pr0 (p := p)
    exact ⟨by wtm_at "ev", fun _ => by wtm_at "ev"⟩
  · have := t.tiny.1
    have h4 := (tiny_del (a := a) t.tiny).1
    rw [List.length_map, List.length_map]; unfold big; omega

theorem body_items (t : Tb hp i n ps) (hk : Kn [(x_self, .obj i)] l) : Ok (Ditems Q) ⟨l, hp⟩ fun f s => f = .ret (.dat (.list (ps.map pr))) ∧ s.heap = hp := by
  have h1 := t.i
  have h2 := t.n
  unfold Ditems
  have h3 : cutD none none (.list (ps.map pr)) = some (.list (ps.map pr)) := by
    show (if _ then _ else _) = _
    rw [if_pos (by rw [List.length_map]; exact t.tiny.big)]
    show some (PyData.list (((ps.map pr).take (ps.map pr).length).drop 0)) = _
    rw [List.take_length]; rfl
  apply o_ret
  · wtm_at "ev"
  exact ⟨rfl, rfl⟩

theorem body_keys (t : Tb hp i n ps) (hk : Kn [(x_self, .obj i)] l) : Ok (Dkeys Q) ⟨l, hp⟩ fun f s => f = .ret (.dat (.list (ps.map fun p => .str p.1))) ∧ s.heap = hp := by
  have h1 := t.i
  unfold Dkeys
  exact o_ret (r_lc (v := .obj n) (σ1 := ⟨l, hp⟩) (by wtm_at "ev") (cv_obj t.n (comp2m (e1 := fun p => .str p.1) (e2 := fun p => .str p.2) (f := fun p => .str p.1) (wf_set t.wf rfl) kn_nil rfl t.tiny.big fun p hp l hl => by wtm_at "ev"))) ⟨rfl, rfl⟩
theorem body_vals (t : Tb hp i n ps) (hk : Kn [(x_self, .obj i)] l) : Ok (Dvals Q) ⟨l, hp⟩ fun f s => f = .ret (.dat (.list (ps.map fun p => .str p.2))) ∧ s.heap = hp := by
  have h1 := t.i
  unfold Dvals
  exact o_ret (r_lc (v := .obj n) (σ1 := ⟨l, hp⟩) (by wtm_at "ev") (cv_obj t.n (comp2m (e1 := fun p => .str p.1) (e2 := fun p => .str p.2) (f := fun p => .str p.2) (wf_set t.wf rfl) kn_nil rfl t.tiny.big fun p hp l hl => by wtm_at "ev"))) ⟨rfl, rfl⟩

theorem getP_drop {d : PyData} {k : Nat} {p : Str × Str} (h : ps[k]? = some p) (hq : (low p.1 == low a) = false) : getP (ps.drop k) a d = getP (ps.drop (k + 1)) a d := by
  obtain ⟨hlt, rfl⟩ := List.getElem?_eq_some_iff.mp h
  unfold getP
  rw [List.drop_eq_getElem_cons hlt, List.find?_cons, hq]
theorem getP_hit {d : PyData} {k : Nat} {p : Str × Str} (h : ps[k]? = some p) (hq : (low p.1 == low a) = true) : getP (ps.drop k) a d = .str p.2 := by
  obtain ⟨hlt, rfl⟩ := List.getElem?_eq_some_iff.mp h
  unfold getP
  rw [List.drop_eq_getElem_cons hlt, List.find?_cons, hq]
theorem getP_end {d : PyData} : getP (ps.drop ps.length) a d = d := by rw [List.drop_length]; rfl

theorem body_get (hQ : Q.mt sConv = convP) (t : Tb hp i n ps) (ha : tinyS a) {d : PyData} (hk : Kn [(x_self, .obj i), (x_name, .dat (.str a)), (x_default, .dat d)] l) : Ok (Dget Q) ⟨l, hp⟩ fun f s => f = .ret (.dat (getP ps a d)) ∧ s.heap = hp := by
  have h1 := t.i
  have h2 := ha.big
  have h3 := low_big ha
  unfold Dget
  wtm_at "st"
  rename_i l hk
  have hw := wf_set (l := n) (o := .frz (ps.map pr)) t.wf rfl
  apply o_for
  · wtm_at "ev"
  refine o_forObj t.n (o_forK2 (x := x_k) (y := x_v) ps (fun p => .str p.1) (fun p => .str p.2) (fun k l h => h = hp.set n (.frz (ps.map pr)) ∧ getP ps a d = getP (ps.drop k) a d ∧ Kn [(x_name, .dat (.str (low a))), (x_default, .dat d)] l) ⟨rfl, rfl, by wtm_at "kn"⟩ ?_ ?_)
  · rintro k p l h' hp' ⟨rfl, hg, hk⟩ l' hl
    have hk := hl _ hk
    have hpb := (t.tiny.2 p (List.mem_of_getElem? hp')).1.big
    unfold Dget_b1
    apply o_if
    · wtm_at "ev"
    · intro hq
      apply o_assoc
      wtm_at "st"
      refine cut_ok hw rfl ⟨?_, set_back t.n⟩
      rw [hg, getP_hit hp' hq]
    · intro hq
      apply o_endthen
      refine o_end (cut_ok hw rfl ⟨rfl, ?_, kn_cut rfl ?_⟩)
      · rw [hg, getP_drop hp' hq]
      · wtm_at "kn"
  · rintro l h' ⟨rfl, hg, hk⟩
    show Ok (Dget_r2 Q) _ _
    unfold Dget_r2
    wtm_at "st"
    exact ⟨by rw [hg, getP_end], set_back t.n⟩
end
end Mine
end

section
open PySem
set_option Elab.async false
set_option maxRecDepth 10000
set_option linter.unusedVariables false
namespace Mine

section
variable {Q : Prm} {l : Str → Option V} {hp : List AObj} {i n : Nat} {ps : List (Str × Str)} {a b : Str} {d : PyData}

/-! what the methods do on a table -/
noncomputable def MDel (Q : Prm) : Prop := ∀ {hp : List AObj} {i n : Nat} {ps : List (Str × Str)} {a : Str} {l : Str → Option V}, Tb hp i n ps → tinyS a → Run (Q.mt x___delitem__ (.obj i) [.dat (.str a)] []) ⟨l, hp⟩ (.dat .none) ⟨l, hp.set n (.lst ((delP ps a).map pr))⟩
noncomputable def MSet (Q : Prm) : Prop := ∀ {hp : List AObj} {i n : Nat} {ps : List (Str × Str)} {a b : Str} {l : Str → Option V}, Tb hp i n ps → tinyS a → tinyS b → Run (Q.mt x___setitem__ (.obj i) [.dat (.str a), .dat (.str b)] []) ⟨l, hp⟩ (.dat .none) ⟨l, hp.set n (.lst ((delP ps a ++ [(a, b)]).map pr))⟩
noncomputable def MGetd (Q : Prm) : Prop := ∀ {hp : List AObj} {i n : Nat} {ps : List (Str × Str)} {a : Str} {d : PyData} {l : Str → Option V}, Tb hp i n ps → tinyS a → Run (Q.mt x_get (.obj i) [.dat (.str a), .dat d] []) ⟨l, hp⟩ (.dat (getP ps a d)) ⟨l, hp⟩
noncomputable def MKeys (Q : Prm) : Prop := ∀ {hp : List AObj} {i n : Nat} {ps : List (Str × Str)} {l : Str → Option V}, Tb hp i n ps → Run (Q.mt x_keys (.obj i) [] []) ⟨l, hp⟩ (.dat (.list (ps.map fun p => .str p.1))) ⟨l, hp⟩
noncomputable def MVals (Q : Prm) : Prop := ∀ {hp : List AObj} {i n : Nat} {ps : List (Str × Str)} {l : Str → Option V}, Tb hp i n ps → Run (Q.mt x_values (.obj i) [] []) ⟨l, hp⟩ (.dat (.list (ps.map fun p => .str p.2))) ⟨l, hp⟩
noncomputable def MItems (Q : Prm) : Prop := ∀ {hp : List AObj} {i n : Nat} {ps : List (Str × Str)} {l : Str → Option V}, Tb hp i n ps → Run (Q.mt x_items (.obj i) [] []) ⟨l, hp⟩ (.dat (.list (ps.map pr))) ⟨l, hp⟩
noncomputable def MMake0 (Q : Prm) : Prop := ∀ {hp : List AObj} {l : Str → Option V}, Run (Q.make []) ⟨l, hp⟩ (.obj hp.length) ⟨l, hp ++ [.inst (some (hp.length + 1)), .lst (([] : List (Str × Str)).map pr)]⟩
theorem m_del (h : MDel Q) (t : Tb hp i n ps) (ha : tinyS a) : Run (Q.mt x___delitem__ (.obj i) [.dat (.str a)] []) ⟨l, hp⟩ (.dat .none) ⟨l, hp.set n (.lst ((delP ps a).map pr))⟩ := h t ha
theorem m_set (h : MSet Q) (t : Tb hp i n ps) (ha : tinyS a) (hb : tinyS b) : Run (Q.mt x___setitem__ (.obj i) [.dat (.str a), .dat (.str b)] []) ⟨l, hp⟩ (.dat .none) ⟨l, hp.set n (.lst ((delP ps a ++ [(a, b)]).map pr))⟩ := h t ha hb
theorem m_keys (h : MKeys Q) (t : Tb hp i n ps) : Run (Q.mt x_keys (.obj i) [] []) ⟨l, hp⟩ (.dat (.list (ps.map fun p => .str p.1))) ⟨l, hp⟩ := h t
theorem m_vals (h : MVals Q) (t : Tb hp i n ps) : Run (Q.mt x_values (.obj i) [] []) ⟨l, hp⟩ (.dat (.list (ps.map fun p => .str p.2))) ⟨l, hp⟩ := h t
theorem m_items (h : MItems Q) (t : Tb hp i n ps) : Run (Q.mt x_items (.obj i) [] []) ⟨l, hp⟩ (.dat (.list (ps.map pr))) ⟨l, hp⟩ := h t
theorem m_make0 (h : MMake0 Q) : Run (Q.make []) ⟨l, hp⟩ (.obj hp.length) ⟨l, hp ++ [.inst (some (hp.length + 1)), .lst (([] : List (Str × Str)).map pr)]⟩ := h
theorem Tb.ne (t : Tb hp i n ps) : i ≠ n := by
  rintro rfl
  have := t.i.symm.trans t.n
  cases this
theorem Tb.lt (t : Tb hp i n ps) : n < hp.length := (List.getElem?_eq_some_iff.mp t.n).1
theorem Tb.set (t : Tb hp i n ps) {qs : List (Str × Str)} (h : Mine.tiny qs) : Tb (hp.set n (.lst (qs.map pr))) i n qs :=
  ⟨by rw [List.getElem?_set_ne (Ne.symm t.ne)]; exact t.i, by rw [List.getElem?_set_self t.lt], wf_set t.wf rfl, h⟩

theorem body_set (hQ : Q.mt sConv = convP) (hD : MDel Q) (t : Tb hp i n ps) (ha : tinyS a) (hb : tinyS b) (hk : Kn [(x_self, .obj i), (x_name, .dat (.str a)), (x_val, .dat (.str b))] l) : Ok (Dset Q) ⟨l, hp⟩ fun f s => f = .next ∧ s.heap = hp.set n (.lst ((delP ps a ++ [(a, b)]).map pr)) := by
  have h1 := t.i
  have h2 := ha.big
  have h3 := hb.big
  have t' := t.set (tiny_del (a := a) t.tiny)
  have h5 := t'.i
  have h6 := t'.n
  have h7 : ((delP ps a).map pr).length ≤ big := by rw [List.length_map]; exact (tiny_del t.tiny).big
  unfold Dset
  wtm_at "st"
  wtm_at "st"
  wtm_at "st"
  refine ⟨rfl, ?_⟩
  show (hp.set n _).set n _ = _
  rw [List.set_set, List.map_append]; rfl

theorem r_typL {m : M V} {σ : St} {j : Nat} {l1 : Str → Option V} {h1 : List AObj} {ds : List PyData} (h : Run m σ (.obj j) ⟨l1, h1⟩) (hj : h1[j]? = some (.lst ds)) : Run (typM .IsNot m x_list) σ (.dat (.bool false)) ⟨l1, h1⟩ := by
  have e : Run (typeN (.obj j)) ⟨l1, h1⟩ (Str.ofString "list") ⟨l1, h1⟩ := by unfold Run typeN; simp only [hj]
  exact run_bind h (run_bind e rfl)
theorem tr_debug {σ : St} : Run (truT (datM (.bool true))) σ true σ := rfl
theorem body_init0 (hi : hp[i]? = some (.inst none)) (hk : Kn [(x_self, .obj i), (x_headers, .dat .none)] l) : Ok (Dinit Q) ⟨l, hp⟩ fun f s => f = .next ∧ s.heap = (hp ++ [AObj.lst []]).set i (.inst (some hp.length)) := by
  have hlt : i < hp.length := (List.getElem?_eq_some_iff.mp hi).1
  unfold Dinit
  have h1 : (hp ++ [AObj.lst []])[hp.length]? = some (.lst []) := by simp
  have h2 : (hp ++ [AObj.lst []])[i]? = some (.inst none) := by rw [List.getElem?_append_left hlt]; exact hi
  refine o_asg (v := .obj hp.length) (l1 := l) (h1 := hp ++ [.lst []]) (r_ifx0 (σ1 := ⟨l, hp⟩) (by wtm_at "ev") (by wtm_at "ev")) hk fun l hk => ?_
  refine o_if0 (t_bool (r_typL (r_name hk rfl) h1)) ?_
  apply o_endthen
  unfold Dinit_r2
  wtm_at "st"
  have h3 : ((hp ++ [AObj.lst []]).set i (.inst (some hp.length)))[hp.length]? = some (.lst []) := by
    rw [List.getElem?_set_ne (Nat.ne_of_lt hlt)]; exact h1
  apply o_if1 tr_debug
  apply o_assoc
  apply o_for
  · wtm_at "ev"
  refine o_forObj h3 ?_
  refine ⟨_, _, rfl, ?_⟩
  show Ok (thenM endM endM) _ _
  refine o_endthen (o_end ⟨rfl, ?_⟩)
  exact set_back h3

end
end Mine
end

section
open PySem
set_option Elab.async false
set_option maxRecDepth 10000
set_option linter.unusedVariables false
namespace Mine

theorem run_of_ok {α : Type} {m : M α} {σ σ' : St} {v : α} (h : Ok m σ fun a s => a = v ∧ s = σ') : Run m σ v σ' := by
  obtain ⟨a, s, e, rfl, rfl⟩ := h; exact e

noncomputable def IsDen (T : Tab) (name : Str) (ps : List Str) (dflt : List Const) (D : Prm → M Fl) : Prop := ∃ f, T.mt name = some ⟨f, ps, dflt, D⟩
section
variable {hp : List AObj} {i n : Nat} {ps : List (Str × Str)} {a b : Str} {l : Str → Option V}
variable {T : Tab} {k : Nat}

theorem callB_grow {ps : List Str} {mb : M Fl} {vs : List V} {f : Fl} {s : St} (hl : ps.length = vs.length) (h : mb ⟨bindP ps vs, hp⟩ = some (f, s)) (hc : (s.heap.take hp.length).all (okO hp.length) = false) : callB ps mb vs ⟨l, hp⟩ = some (retV f, ⟨l, s.heap⟩) := by
  unfold callB
  rw [if_pos hl]
  simp only [h]
  have : (if okV hp.length (retV f) = true then cutM hp.length s else none) = none := by
    split
    · unfold cutM; rw [hc]; rfl
    · rfl
  rw [this]
theorem prm_conv : (prm T (k + 1)).mt sConv = convP := by
  funext self vs ks
  show (if sConv = sConv then convP self vs ks else match T.mt sConv with | some i => if ks.isEmpty then runI (prm T k) i (self :: vs) else mfail | none => mfail) = _
  rw [if_pos rfl]
theorem mt_run {name : Str} {j : Info} {self : V} {vs : List V} (hn : (name == sConv) = false) (hT : T.mt name = some j) : (prm T (k + 1)).mt name self vs [] = runI (prm T k) j (self :: vs) := by
  show (if name = sConv then convP self vs [] else match T.mt name with | some i => if ([] : List (Str × V)).isEmpty then runI (prm T k) i (self :: vs) else mfail | none => mfail) = _
  rw [if_neg (by intro e; subst e; simp at hn), hT]; rfl
theorem mt_at {name : Str} {ps : List Str} {dflt : List Const} {D : Prm → M Fl} {self : V} {vs ws : List V} {r : V} {hp' : List AObj} (hn : (name == sConv) = false) (hd : IsDen T name ps dflt D) (hf : ∀ f, fill ⟨f, ps, dflt, D⟩ (self :: vs) = ws) (hl : ps.length = ws.length) (hlen : hp'.length = hp.length)
    (h : ∀ l', Kn (ps.zip ws) l' → Ok (D (prm T k)) ⟨l', hp⟩ fun f s => retV f = r ∧ s.heap = hp') : Run ((prm T (k + 1)).mt name self vs []) ⟨l, hp⟩ r ⟨l, hp'⟩ := by
  obtain ⟨f, hT⟩ := hd
  rw [mt_run hn hT]
  unfold runI
  rw [hf]
  refine run_of_ok (callB_ok hl fun l' hk => (h l' hk).mono fun f s q => ⟨by rw [q.2]; exact hlen, q.1, by rw [q.2]⟩)
theorem fq {m : M Fl} {σ : St} {f : Fl} {h : List AObj} {r : V} (q : Ok m σ fun g s => g = f ∧ s.heap = h) (e : retV f = r) : Ok m σ fun g s => retV g = r ∧ s.heap = h := q.mono fun g s z => ⟨by rw [z.1]; exact e, z.2⟩

theorem tb_del (d : IsDen T x___delitem__ [x_self, x_name] [] Ddel) : MDel (prm T (k + 2)) := fun {hp i n ps a l} t ha =>
  mt_at (ws := [.obj i, .dat (.str a)]) (by decide) d (fun _ => rfl) rfl (by simp) fun l' hk => fq (body_del (prm_conv (k := k)) t ha hk) rfl
theorem tb_getd (d : IsDen T x_get [x_self, x_name, x_default] [.none] Dget) : MGetd (prm T (k + 2)) := fun {hp i n ps a dd l} t ha =>
  mt_at (ws := [.obj i, .dat (.str a), .dat dd]) (by decide) d (fun _ => rfl) rfl rfl fun l' hk => fq (body_get (d := dd) (prm_conv (k := k)) t ha hk) rfl
theorem tb_set (d : IsDen T x___setitem__ [x_self, x_name, x_val] [] Dset) (d' : IsDen T x___delitem__ [x_self, x_name] [] Ddel) : MSet (prm T (k + 3)) := fun {hp i n ps a b l} t ha hb =>
  mt_at (ws := [.obj i, .dat (.str a), .dat (.str b)]) (by decide) d (fun _ => rfl) rfl (by simp) fun l' hk => fq (body_set (prm_conv (k := k + 1)) (tb_del d') t ha hb hk) rfl
theorem tb_keys (d : IsDen T x_keys [x_self] [] Dkeys) : MKeys (prm T (k + 1)) := fun {hp i n ps l} t => mt_at (ws := [.obj i]) (by decide) d (fun _ => rfl) rfl rfl fun l' hk => fq (body_keys t hk) rfl
theorem tb_vals (d : IsDen T x_values [x_self] [] Dvals) : MVals (prm T (k + 1)) := fun {hp i n ps l} t => mt_at (ws := [.obj i]) (by decide) d (fun _ => rfl) rfl rfl fun l' hk => fq (body_vals t hk) rfl
theorem tb_items (d : IsDen T x_items [x_self] [] Ditems) : MItems (prm T (k + 1)) := fun {hp i n ps l} t => mt_at (ws := [.obj i]) (by decide) d (fun _ => rfl) rfl rfl fun l' hk => fq (body_items t hk) rfl
theorem tb_make0 {f : Addr} (hT : T.init = ⟨f, [x_self, x_headers], [.none], Dinit⟩) : MMake0 (prm T (k + 1)) := fun {hp l} => by
  show Run (makeM (fun self ws => runI (prm T k) T.init (self :: ws)) []) _ _ _
  unfold makeM
  refine run_bind (show Run (newObj (.inst none)) ⟨l, hp⟩ (.obj hp.length) ⟨l, hp ++ [.inst none]⟩ from rfl) (run_bind (a := V.dat PyData.none) (σ1 := ⟨l, hp ++ [AObj.inst (some (hp.length + 1)), AObj.lst (([] : List (Str × Str)).map pr)]⟩) ?_ rfl)
  rw [hT]
  unfold runI
  simp only
  obtain ⟨g, s, e, rfl, hh⟩ := body_init0 (Q := (prm T k)) (hp := hp ++ [.inst none]) (i := hp.length) (by simp) (kn_par (ps := [x_self, x_headers]) (vs := [.obj hp.length, .dat .none]))
  have hfill : fill ⟨f, [x_self, x_headers], [.none], Dinit⟩ [.obj hp.length] = [.obj hp.length, .dat .none] := rfl
  rw [hfill]
  have hs : s.heap = hp ++ [.inst (some (hp.length + 1)), .lst []] := by
    rw [hh]
    simp
  have := callB_grow (l := l) (ps := [x_self, x_headers]) (vs := [.obj hp.length, .dat .none]) rfl e (by
    rw [hs, List.all_eq_false]
    refine ⟨.inst (some (hp.length + 1)), ?_, by simp [okO]⟩
    rw [List.length_append, show hp.length + [AObj.inst none].length = hp.length + 1 from rfl, List.take_length_add_append]
    simp)
  rw [hs] at this
  exact this
end
end Mine
end

section
open PySem
set_option Elab.async false
set_option maxRecDepth 10000
set_option linter.unusedVariables false
namespace Mine

/-! data -/
section
variable {α : Type} [DecidableEq α] {e : α → PyData}
theorem eqvAll_map (h : ∀ a b, PyData.eqv (e a) (e b) = decide (a = b)) : ∀ xs ys : List α, PyData.eqvAll (xs.map e) (ys.map e) = decide (xs = ys)
  | [], [] => by simp [PyData.eqvAll]
  | [], _ :: _ => by simp [PyData.eqvAll]
  | _ :: _, [] => by simp [PyData.eqvAll]
  | x :: xs, y :: ys => by
    simp only [List.map_cons, PyData.eqvAll, h, eqvAll_map h xs ys, List.cons.injEq]
    rw [Bool.decide_and]
theorem depthAll_map {n : Nat} (h : ∀ a, PyData.depth (e a) ≤ n) : ∀ xs : List α, PyData.depthAll (xs.map e) ≤ n
  | [] => by simp [PyData.depthAll]
  | x :: xs => by
    simp only [List.map_cons, PyData.depthAll]
    have := h x
    have := depthAll_map h xs
    omega
theorem cEqL (h : ∀ a b, PyData.eqv (e a) (e b) = decide (a = b)) (hd : ∀ a, PyData.depth (e a) ≤ 10) {xs ys : List α} : cmpD .Eq (.list (xs.map e)) (.list (ys.map e)) = some (decide (xs = ys)) := by
  show (if min (PyData.depth (.list (xs.map e))) (PyData.depth (.list (ys.map e))) ≤ 50 then some (PyData.eqv (.list (xs.map e)) (.list (ys.map e))) else none) = _
  have := depthAll_map hd xs
  have := depthAll_map hd ys
  rw [if_pos (by simp only [PyData.depth]; omega)]
  simp only [PyData.eqv, eqvAll_map h]
end
theorem eqv_str (x y : Str) : PyData.eqv (.str x) (.str y) = decide (x = y) := by simp [PyData.eqv]; rfl
theorem eqv_pr (x y : Str × Str) : PyData.eqv (pr x) (pr y) = decide (x = y) := by
  obtain ⟨a, b⟩ := x
  obtain ⟨c, d⟩ := y
  simp only [pr, PyData.eqv, PyData.eqvAll, Bool.and_true]
  rw [Bool.eq_iff_iff]
  simp [Prod.mk.injEq]
theorem depth_pr (x : Str × Str) : PyData.depth (pr x) ≤ 10 := by simp [pr, PyData.depth, PyData.depthAll]
theorem cEqPr {ps qs : List (Str × Str)} : cmpD .Eq (.list (ps.map pr)) (.list (qs.map pr)) = some (decide (ps = qs)) := cEqL eqv_pr depth_pr
theorem idx_nat {k n : Nat} (h : k < n) : seqIndex? (k : Int) n = some k := by
  unfold seqIndex?
  simp only [show ¬ ((k : Int) < 0) by omega, if_false]
  rw [if_pos (by simp; omega)]; simp
theorem item_map {α : Type} {e : α → PyData} {xs : List α} {k : Nat} {a : α} (h : xs[k]? = some a) : itemD (.list (xs.map e)) (.int k) = some (e a) := by
  have hk : k < xs.length := (List.getElem?_eq_some_iff.mp h).1
  show (seqIndex? _ _).bind _ = _
  rw [idx_nat (by rw [List.length_map]; exact hk)]
  simp [h]
/-- one sign -/
noncomputable def ch (c : Nat) : Str := ⟨#[c]⟩
theorem ch_tiny (c : Nat) : tinyS (ch c) := by unfold tinyS ch Str.length; simp
theorem fmod_range {n m : Int} (h : 0 < m) : 0 ≤ n.fmod m ∧ n.fmod m < m := ⟨Int.fmod_nonneg_of_pos _ h, Int.fmod_lt_of_pos _ h⟩
theorem Str.ext' {a b : Str} (h : a.cps.toList = b.cps.toList) : a = b := by
  cases a; cases b; simp at h; subst h; rfl

end Mine
end

section
open PySem
set_option Elab.async false
set_option maxRecDepth 10000
set_option linter.unusedVariables false
namespace Mine
theorem lowC_swC (c : Nat) : lowC (swC c) = lowC c := by
  unfold lowC swC
  simp only [Bool.and_eq_true, decide_eq_true_eq]
  repeat' split
  all_goals omega
noncomputable def tx (t : List Nat) : Str := ⟨t.toArray⟩
theorem small_int {k : Nat} (h : k ≤ 1000) : smallI (.int (k : Int)) = true := by
  show decide _ = true
  exact decide_eq_true ⟨by omega, by omega⟩
theorem tx_len (m : List Nat) : (tx m).length = m.length := by
  show m.toArray.size = _
  simp

theorem smallR0 {n : Nat} (h : n ≤ 1000) : smallR 0 n = true := decide_eq_true ⟨by decide, by omega, by unfold big; omega⟩
theorem ints0 (n : Nat) : intsD 0 n = (List.range n).map fun k : Nat => .int (0 + (k : Int)) := by
  unfold intsD
  rw [show ((n : Int) - 0).toNat = n by omega]

end Mine
end

section
open PySem PySem.W PyProof.Rows
set_option Elab.async false
set_option maxRecDepth 10000
namespace Mine

theorem mem_of_look {α : Type} {l : List (Str × α)} {x : Str} {a : α} (h : l.lookup x = some a) : (x, a) ∈ l := by
  induction l with
  | nil => cases h
  | cons p l ih =>
    obtain ⟨y, b⟩ := p
    rw [List.lookup_cons] at h
    split at h
    · rename_i hxy
      cases h
      rw [beq_iff_eq.mp hxy]; exact .head _
    · exact .tail _ (ih h)

theorem ints_DR {h : Heap} {ok : Addr → Prop} : ∀ {vs : List Value} {is : List Int}, IntsAre vs is → DRs h ok (is.map .int) vs
  | _, _, .nil => by simp [DRs]
  | _, _, .cons n t hI => by
    simp only [List.map_cons, DRs]
    exact ⟨_, _, rfl, by simp only [DR]; exact ⟨t, rfl⟩, ints_DR hI⟩

noncomputable def scr (is : List Int) : Str → Option V := fun x => if x = x_script then some (.dat (.list (is.map .int))) else none

theorem kn_scr {is : List Int} : Kn [(x_script, .dat (.list (is.map .int)))] (scr is) := fun x v h => by
  obtain ⟨_, h2⟩ := lkp_some h
  rw [List.lookup_cons] at h2
  unfold scr
  cases q : x == x_script with
  | true => rw [q] at h2; cases h2; rw [if_pos (beq_iff_eq.mp q)]
  | false => rw [q] at h2; cases h2

theorem start_of {X : Cx} {name : Str} {sc : Scope} {L fa a : Addr} {cd : Value} {h : Heap} {is : List Int} {vs : List Value} (F : Fr X.base L h fun x => List.lookup x [(Str.ofString "script", Value.ref a)].reverse) (hL : X.base.get? L = none) (hk : sc.kind = .function)
    (hsc : sc.names.lookup (Str.ofString "script") = some .local) (hl : X.base.IsList a vs.toArray) (hI : IntsAre vs is) :
    Rel X [L] [] (envOf name sc L fa cd) ⟨scr is, []⟩ h := by
  refine start_rel F hL hk fun x v e => ?_
  unfold scr at e
  split at e
  · rename_i hx
    subst hx
    cases e
    refine ⟨hsc, .ref a, rfl, ?_⟩
    obtain ⟨o, h1, h2, n, h3⟩ := hl
    simp only [VR, DR]
    exact ⟨a, o, vs.toArray, n, rfl, ⟨o, h1⟩, h1, h2, h3, by simpa using ints_DR hI⟩
  · cases e

theorem link_of {X : Cx} {s₁ : Shared} {name : Str} {fa a : Addr} {cd : Value} {h₁ : Heap} {is : List Int} {vs : List Value} {sc : Scope} {body : List Stmt} {c : ClaimW} {cl : Str → Option Addr} {mean : ExcName → Option Value} {args : List WData} {tk : Nat} {E : Value → Shared → Prop}
    {T : Tab} {den : Prm → M Fl} (hb : X.base = s₁.heap) (ok : CxOk X) (to : TabOk X T) (F : Fr s₁.heap s₁.heap.objs.size h₁ fun x => List.lookup x [(Str.ofString "script", Value.ref a)].reverse)
    (hl : s₁.heap.IsList a vs.toArray) (hI : IntsAre vs is) (hg : s₁.gens = #[]) (hn : ∀ cls, c.raises args cls = false) (hp : c.post args (.bool true) args = true)
    (hk : sc.kind = .function) (hsc : sc.names.lookup (Str.ofString "script") = some .local) (hcl : ((cellsFrom 0 sc.names []).map (·.1)) = []) (hden : ∀ (n : Nat) (P : Prm), PrmOk X n P → ExsR X (n + 1) (fnEnv sc) body (den P))
    (hpure : Ok (den (prm T 20)) ⟨scr is, []⟩ fun f _ => f = .ret (.dat (.bool true))) :
    wpAny (model X.prog X.w) (callerA.deeper (envOf name sc s₁.heap.objs.size fa cd)) (execs body (envOf name sc s₁.heap.objs.size fa cd)) (fun f s' => GoodW c cl mean args s₁ (.ok (.ret (match f with | .ret v => v | _ => .none))) s') E
      { heap := h₁, gens := s₁.gens, drawn := s₁.drawn, toks := tk, os := s₁.os } := by
  obtain ⟨f, σ', e, rfl⟩ := hpure
  obtain ⟨prog, w, base, C, K, mg, mb⟩ := X
  have hb' : base = s₁.heap := hb
  subst hb'
  have R := start_of (X := ⟨prog, w, s₁.heap, C, K, mg, mb⟩) (name := name) (fa := fa) (cd := cd) F (fresh_size _) hk hsc hl hI
  have hs : SameEnv (fnEnv sc) (envOf name sc s₁.heap.objs.size fa cd) := ⟨rfl, isSome_keys hcl, rfl⟩
  refine wpAny_mono (law_run (s := { heap := h₁, gens := s₁.gens, drawn := s₁.drawn, toks := tk, os := s₁.os }) ok to 20 hs hden ⟨rfl, ?_, ?_⟩ R e) (fun f s' z => ?_) fun _ _ z => z.elim
  · show 302 + 4 * (3 * 20 + 1) ≤ 900; decide
  · show 7 + 40 * (3 * 20 + 1) ≤ 9000; decide
  · obtain ⟨rfl, ⟨hp', tk', rfl⟩, m, F'⟩ := z
    exact goodW_bool F' hg hn hp rfl

end Mine
end

section
open PySem PySem.W PyProof.Rows
set_option Elab.async false
set_option maxRecDepth 10000
namespace Mine

section
variable {X : Cx} {h : Heap}
end
end Mine
end

section
open PySem
set_option Elab.async false
set_option maxRecDepth 10000
namespace Mine

/-! int of a text -/
noncomputable def intB : List V → M V
  | [.dat (.str x)] => if x.length ≤ 640 then mopt ((PySem.intText? x).map fun n => .dat (.int n)) else mfail
  | _ => mfail
section
variable {X : Cx} {n : Nat} {env : Env} {P : Prm} {A : Around} {ρ : List Addr} {μ : Mu} {σ : St} {s : Shared}
theorem val_int (ok : CxOk X) : gval X (Str.ofString "int") = some (.type "int") := blt_val ok (by unfold bltNames; decide) (by decide) (by decide +kernel)
theorem W_intB (R : Rel X ρ μ env σ s.heap) {vs : List V} {xs : List Value} (hv : VRl s.heap (okOf ρ μ) μ vs xs) : W X A ρ μ env s VRr (call (.type "int") xs []) (intB vs σ) := by
  intro v σ' q
  match vs, q, hv with
  | [.dat (.str x)], q, hv =>
    simp only [intB] at q
    split at q
    · rename_i hl
      obtain ⟨q, h2⟩ := mopt_some q
      obtain ⟨k, e, rfl⟩ := Option.map_eq_some_iff.mp q
      subst h2
      obtain ⟨y, r, h1, h2, h3⟩ := hv
      rw [h1, show r = [] from h3]
      have h2' : DR _ _ _ _ := h2
      simp only [DR] at h2'
      obtain ⟨_, t, rfl⟩ := h2'
      exact W.KIN.call_text e hl (post_tok R _ VR_int)
    · cases q
end
section
variable {X : Cx} {n : Nat} {se : Env} {es : List Expr} {ms : List (M V)} {pos p : Pos}
theorem D_intB (ok : CxOk X) (h : EvLR X (n + 1) se es ms) (hst : es.all noStar = true) (hk : gKind se (Str.ofString "int") = true) : EvR X (n + 1) se (.Call (.Name (Str.ofString "int") p) es [] pos) (bltM intB ms) := fun v hs => Ev_BltT ok (val_int ok) (h v hs) hst (by rw [← hs.gKind]; exact hk) fun ga R hv => W_intB R hv
end
theorem f_int {σ : St} {x : Str} {n : Int} (hl : x.length ≤ 640) (h : PySem.intText? x = some n) : Run (intB [.dat (.str x)]) σ (.dat (.int n)) σ := by
  show (if x.length ≤ 640 then mopt ((PySem.intText? x).map fun n => V.dat (.int n)) else mfail) σ = _
  rw [if_pos hl, h]; rfl
end Mine
end

section
open PySem
set_option Elab.async false
set_option maxRecDepth 10000
set_option linter.unusedVariables false
namespace Mine

/-! sorted -/
open PyProof.Rows in
open PyProof.Rows in
open PyProof.Rows in
open PyProof.Rows in
open PyProof.Rows in
open PyProof.Rows in
section
variable {X : Cx} {n : Nat} {env : Env} {P : Prm} {A : Around} {ρ : List Addr} {μ : Mu} {σ : St} {s : Shared}
open PyProof.Rows in
open PyProof.Rows in
open PyProof.Rows in
end
section
variable {X : Cx} {n : Nat} {se : Env} {es : List Expr} {ms : List (M V)} {pos p : Pos}
end
end Mine
end

section
open PySem
set_option Elab.async false
set_option maxRecDepth 10000
set_option linter.unusedVariables false
namespace Mine

/-! a list of one thing, times a number -/
noncomputable def repM (P : Prm) (ms : List (M V)) (mr : M V) : M (List PyData) := do
  let ds ← listS P ms
  let y ← mr
  match ds, y with
  | [d], .dat (.int k) => if k.natAbs ≤ big then mpure (List.replicate k.toNat d) else mfail
  | _, _ => mfail
noncomputable def ownRepM (P : Prm) (ms : List (M V)) (mr : M V) : M V := do
  let ds ← repM P ms mr
  newObj (.lst ds)
theorem rep_fold (v : Value) : ∀ (k : Nat) (a : Array Value), ((List.replicate k #[v]).foldl (fun x y => x ++ y) a).toList = a.toList ++ List.replicate k v
  | 0, a => by simp
  | k + 1, a => by rw [List.replicate_succ, List.foldl_cons, rep_fold v k, Array.toList_append, List.replicate_succ, List.append_assoc]; rfl
theorem DRs.rep {h : Heap} {ok : Addr → Prop} {d : PyData} {v : Value} (e : DR h ok d v) : ∀ k, DRs h ok (List.replicate k d) (List.replicate k v)
  | 0 => by simp [DRs]
  | k + 1 => by rw [List.replicate_succ, List.replicate_succ]; simp only [DRs]; exact ⟨v, _, rfl, e, DRs.rep e k⟩
section
variable {X : Cx} {n : Nat} {env : Env} {P : Prm} {A : Around} {ρ : List Addr} {μ : Mu} {σ : St} {s : Shared}
theorem Ev_Rep {es : List Expr} {ms : List (M V)} {r : Expr} {mr : M V} {p pos : Pos} (h : EvL X n env es ms) (hst : es.all noStar = true) (hr : Ev X n env r mr) : Ev X n env (.BinOp (.List es p) .Mult r pos) (ownRepM P ms mr) := by
  intro A ρ μ σ s ga R v σ' e
  refine mbind_elim e fun ds0 σ3 e3 q3 => ?_
  refine mbind_elim e3 fun ds σ1 e1 q => ?_
  refine mbind_elim q fun y σ2 e2 q2 => ?_
  match ds, y, q2, e1, e2 with
  | [d], .dat (.int k), q2, e1, e2 =>
    simp only at q2
    by_cases hk : k.natAbs ≤ big
    · rw [if_pos hk] at q2
      cases q2
      cases q3
      rw [arm_eval_BinOp]
      refine wpAny_bind (wpAny_mono (Fl_List h hst ga R e1) (fun x s1 f => ?_) fun _ _ z => z)
      obtain ⟨μ', s₁, a, vs, n', h', tk, st, R1, rfl, hf, rfl, kk, ha, hd⟩ := f
      have st1 := st.trans (.grow (tk := tk) kk)
      have R1' := R1.ext kk
      have hav : a ∉ foot μ' := fun hm => by obtain ⟨o, ho⟩ := R1.liveM a hm; rw [hf] at ho; cases ho
      have haw : a ∉ wrt env := fun hm => by obtain ⟨o, ho⟩ := R1.liveR a (R1.own a (wrt_own hm)); rw [hf] at ho; cases ho
      refine wpAny_bind (wpAny_holding (wpAny_mono (hr A ρ μ' σ1 _ ga R1' _ _ e2) (fun yv s2 z => ?_) fun _ _ z => z))
      refine post_elim z fun μ2 st2 R2 v2 => ?_
      have ha2 := st2.keep a _ ha hav haw
      have v2' : DR _ _ _ _ := v2
      simp only [DR] at v2'
      obtain ⟨u, rfl⟩ := v2'
      refine wpAny_bind (wpAny_standAt (wpAny_operateT ?_))
      have hd2 : DRs s2.heap (okOf ρ μ2) [d] vs.toList := hd.mono fun b o ok e => st2.ok (fun x hx => R1.own x (wrt_own hx)) b o ok (kk b o e)
      have hd2' := hd2
      simp only [DRs] at hd2'
      obtain ⟨w, r', hw, hdw, hr'⟩ := hd2'
      have hvs : vs = #[w] := Array.toList_inj.mp (by rw [hw, hr'])
      subst hvs
      have hb : big = 1000000 := rfl
      rw [hb] at hk
      refine PySem.wpAny_binaryOp_repeat_ref (T := "list") (U := "int") (by decide) ⟨_, ha2, rfl⟩ (fun s' => typeIs_int s' k u) noFill_list_mul F.fills_int_mul F.slot_int_rmul repeat_list F.slot_int_index.lookup
        (call_meets F.slot_int_rmul (typeIs_int s2 k u) F.entry_int_rmul (F.args_int_rmul_2 _ _) (int___rmul___int_list k u a #[w] n')
          ⟨ha2, rfl, ⟨_, ha2, rfl⟩, call_meets F.slot_list_mul ⟨_, ha2, rfl⟩ F.entry_list_mul (F.args_list_mul_2 _ _)
            (AutoListH.list___mul___list_int_3 a #[w] n' k u (by simp [Builtin.List.listFitsIndex]; omega) (by simp; omega) (by simp [Builtin.List.listTooLong, sizeLine]; omega)) ⟨ha2, ?_⟩⟩)
      refine post_up (st1.trans st2) (FreshL.obj (FreshL.push R2 ?_))
      have e5 : (if (#[w] : Array Value).isEmpty = true then 0 else k.toNat) = k.toNat := rfl
      show DRs _ _ _ (Array.toList (List.foldl (fun x y => x ++ y) (#[] : Array Value) (List.replicate (if (#[w] : Array Value).isEmpty = true then 0 else k.toNat) #[w])))
      rw [e5, rep_fold]
      exact DRs.rep hdw _
    · rw [if_neg hk] at q2; cases q2
end
section
variable {X : Cx} {n : Nat} {se : Env} {P : Prm} {es : List Expr} {ms : List (M V)} {r : Expr} {mr : M V} {pos p : Pos}
theorem O_rep (h : EvLR X n se es ms) (k : EvR X n se r mr) (hst : es.all noStar = true) : EvR X n se (.BinOp (.List es p) .Mult r pos) (ownRepM P ms mr) := fun v hs => Ev_Rep (h v hs) hst (k v hs)
end
section
variable {Q : Prm} {σ : St} {l1 : Str → Option V} {h1 : List AObj}
theorem r_ownRep {ms : List (M V)} {mr : M V} {d : PyData} {k : Int} {σ1 : St} {l2 : Str → Option V} {h2 : List AObj} (h : Run (seqS ms) σ [.dat d] σ1) (hr : Run mr σ1 (.dat (.int k)) ⟨l2, h2⟩) (hk : k.natAbs ≤ big) : Run (ownRepM Q ms mr) σ (.obj h2.length) ⟨l2, h2 ++ [.lst (List.replicate k.toNat d)]⟩ := by
  refine run_bind (a := List.replicate k.toNat d) (σ1 := ⟨l2, h2⟩) (run_bind (ls_at (ds := [d]) h rfl (show 1 ≤ big by decide)) (run_bind hr ?_)) r_new
  show (if k.natAbs ≤ big then mpure (List.replicate k.toNat d) else mfail) _ = _
  rw [if_pos hk]; rfl
end
end Mine
end

section
open PySem
set_option Elab.async false
set_option maxRecDepth 10000
set_option linter.unusedVariables false
namespace Mine

/-! dicts -/
structure DK (X : Cx) {K : Type} [DecidableEq K] (knd : KeyKind X.prog X.w K) (mk : List (K × PyData) → AObj) (enc : K → PyData) : Prop where
  or : ∀ h ok μ kvs a fp, OR X h ok μ (mk kvs) a fp = DctR knd h ok kvs a fp
  is : ∀ h ok k v, DR h ok (enc k) v → knd.is k v = true
  nf : ∀ kvs ds, mk kvs ≠ .frz ds
theorem dkI {X : Cx} : DK X (intKind X.prog X.w) .dctI .int where
  or := fun _ _ _ _ _ _ => rfl
  is := fun h ok k v e => by
    simp only [DR] at e
    obtain ⟨t, rfl⟩ := e
    show Value.isInt k (.int k t) = true
    simp [Value.isInt]
  nf := fun _ _ e => nomatch e

section
variable {K : Type} [DecidableEq K]
noncomputable def valD (kvs : List (K × PyData)) (k : K) : Option PyData := (kvs.find? fun kv => kv.1 = k).map (·.2)
noncomputable def putD (kvs : List (K × PyData)) (k : K) (v : PyData) : List (K × PyData) := if kvs.any (fun kv => kv.1 = k) then kvs.map (fun kv => if kv.1 = k then (kv.1, v) else kv) else kvs ++ [(k, v)]
theorem DRs.split {h : Heap} {ok : Addr → Prop} : ∀ {kvs : List (K × PyData)} {kws : List (K × Value)}, kws.map (·.1) = kvs.map (·.1) → DRs h ok (kvs.map (·.2)) (kws.map (·.2)) → ∀ k, (match valD kvs k, valueAt kws k with | some d, some v => DR h ok d v | none, none => True | _, _ => False)
  | [], [], _, _, k => trivial
  | [], _ :: _, e, _, _ => nomatch e
  | _ :: _, [], e, _, _ => nomatch e
  | (a, d) :: kvs, (b, v) :: kws, e, q, k => by
    have e1 : b = a := (List.cons.inj e).1
    have e2 : kws.map (·.1) = kvs.map (·.1) := (List.cons.inj e).2
    subst e1
    obtain ⟨v', r, e3, h1, h2⟩ := (show ∃ v' r, v :: kws.map (·.2) = v' :: r ∧ DR h ok d v' ∧ DRs h ok (kvs.map (·.2)) r from q)
    obtain ⟨rfl, rfl⟩ := List.cons.inj e3
    unfold valD valueAt
    rw [List.find?_cons, List.find?_cons]
    by_cases hk : b = k
    · simp only [hk, decide_true]; exact h1
    · simp only [hk, decide_false]; exact DRs.split e2 h2 k
theorem DRs.putD {h : Heap} {ok : Addr → Prop} {kvs : List (K × PyData)} {kws : List (K × Value)} (e : kws.map (·.1) = kvs.map (·.1)) (q : DRs h ok (kvs.map (·.2)) (kws.map (·.2))) {k : K} {d : PyData} {v : Value} (hd : DR h ok d v) :
    (stored kws k v).map (·.1) = (Mine.putD kvs k d).map (·.1) ∧ DRs h ok ((Mine.putD kvs k d).map (·.2)) ((stored kws k v).map (·.2)) := by
  have hany : kws.any (fun kv => decide (kv.1 = k)) = kvs.any fun kv => decide (kv.1 = k) := by
    have h1 : kws.any (fun kv => decide (kv.1 = k)) = (kws.map (·.1)).any fun x => decide (x = k) := by rw [List.any_map]; rfl
    have h2 : kvs.any (fun kv => decide (kv.1 = k)) = (kvs.map (·.1)).any fun x => decide (x = k) := by rw [List.any_map]; rfl
    rw [h1, h2, e]
  unfold stored Mine.putD
  rw [hany]
  cases kvs.any fun kv => decide (kv.1 = k) with
  | false =>
    simp only [Bool.false_eq_true, if_false]
    rw [List.map_append, List.map_append, List.map_append, List.map_append, e]
    exact ⟨rfl, q.append (DRs.one hd)⟩
  | true =>
    simp only [if_true]
    rw [List.map_map, List.map_map, List.map_map, List.map_map]
    have g1 : ((·.1) ∘ fun kv : K × Value => if kv.1 = k then (kv.1, v) else kv) = (·.1) := by funext kv; show (if _ then _ else _ : K × Value).1 = _; split <;> rfl
    have g2 : ((·.1) ∘ fun kv : K × PyData => if kv.1 = k then (kv.1, d) else kv) = (·.1) := by funext kv; show (if _ then _ else _ : K × PyData).1 = _; split <;> rfl
    refine ⟨by rw [g1, g2]; exact e, ?_⟩
    clear hany g1 g2
    induction kvs generalizing kws with
    | nil =>
      cases kws with
      | nil => exact q
      | cons _ _ => cases e
    | cons p kvs ih =>
      cases kws with
      | nil => cases e
      | cons w kws =>
        obtain ⟨a, x⟩ := p
        obtain ⟨b, y⟩ := w
        have e1 : b = a := (List.cons.inj e).1
        subst e1
        obtain ⟨y', r, e3, h1, h2⟩ := (show ∃ y' r, y :: kws.map (·.2) = y' :: r ∧ DR h ok x y' ∧ DRs h ok (kvs.map (·.2)) r from q)
        obtain ⟨rfl, rfl⟩ := List.cons.inj e3
        refine ⟨_, _, rfl, ?_, ih (List.cons.inj e).2 h2⟩
        show DR h ok (if b = k then (b, d) else (b, x)).2 (if b = k then (b, v) else (b, y)).2
        split
        · exact hd
        · exact h1

variable {X : Cx} {n : Nat} {env : Env} {P : Prm} {A : Around} {ρ : List Addr} {μ : Mu} {σ : St} {s : Shared}
variable {knd : KeyKind X.prog X.w K} {mk : List (K × PyData) → AObj} {enc : K → PyData}
theorem dct_at (dk : DK X knd mk enc) (R : Rel X ρ μ env σ s.heap) {i : Nat} {x : Value} {kvs : List (K × PyData)} (hv : VR s.heap (okOf ρ μ) μ (.obj i) x) (hi : σ.heap[i]? = some (mk kvs)) :
    ∃ a kws, x = .ref a ∧ μ[i]? = some (a, [a]) ∧ (a == sysModules) = false ∧ s.heap.DictOf knd a kws ∧ kws.map (·.1) = kvs.map (·.1) ∧ DRs s.heap (okOf ρ μ) (kvs.map (·.2)) (kws.map (·.2)) := by
  obtain ⟨a, h1, rfl⟩ := hv
  obtain ⟨⟨a', fp⟩, h2, h3⟩ := R.objs i _ hi
  rw [dk.or] at h3
  obtain ⟨h4, h5, kws, h6, h7, h8⟩ := h3
  rw [root_some h2] at h1
  cases h1
  simp only at h4
  subst h4
  exact ⟨_, kws, rfl, h2, h5, h6, h7, h8⟩
theorem W_putD (dk : DK X knd mk enc) (R : Rel X ρ μ env σ s.heap) {i : Nat} {k : K} {x y z : Value} {kvs : List (K × PyData)} {d : PyData} (hv : VR s.heap (okOf ρ μ) μ (.obj i) x) (hi : σ.heap[i]? = some (mk kvs)) (hb : kvs.length ≤ big) (hk : DR s.heap (okOf ρ μ) (enc k) y) (hd : DR s.heap (okOf ρ μ) d z) :
    wpAny (model X.prog X.w) A (setItem x y z) (Post X ρ μ env s EqR () ⟨σ.loc, σ.heap.set i (mk (putD kvs k d))⟩) (fun _ _ => False) s := by
  obtain ⟨a, kws, rfl, h2, h5, h6, h7, h8⟩ := dct_at dk R hv hi
  have hlen : kws.length ≤ sizeLine := by
    have := congrArg List.length h7
    rw [List.length_map, List.length_map] at this
    rw [this]; exact Nat.le_trans hb big_le
  refine wpAny_setItem_pairs (dk.is _ _ _ _ hk) h6 (fun h' hm hs => ?_) hlen
  obtain ⟨g1, g2⟩ := DRs.putD h7 h8 (k := k) hd
  have kf : ∀ b ob, b ∉ [a] → s.heap.get? b = some ob → h'.get? b = some ob := ext_sameBut hs
  have hl : ∀ b ∈ [a], ∃ ob, h'.get? b = some ob := fun b hb => by
    rw [List.mem_singleton.mp hb]
    obtain ⟨o, _, _, ho, _⟩ := hm
    exact ⟨o, ho⟩
  refine ⟨μ, .setObj h2 kf hl, R.setObj h2 (dk.nf _) kf hl ?_, rfl⟩
  rw [dk.or]
  exact ⟨rfl, h5, _, hm, g1, DRs.mono (fun c o ok e => ⟨kf c o (fun hm => ok.2 (foot_get h2 hm)) e, ok⟩) g2⟩
theorem W_newD (dk : DK X knd mk enc) (R : Rel X ρ μ env σ s.heap) (h1 : 1 < s.heap.objs.size) : Post X ρ μ env s VRr (.obj σ.heap.length) ⟨σ.loc, σ.heap ++ [mk []]⟩ (.ref s.heap.objs.size) { s with heap := s.heap.push { cls := .type "dict", data := .dict #[] } } := by
  have hf : s.heap.get? s.heap.objs.size = none := Heap.get?_none_of_le (Nat.le_refl _)
  have k : ∀ b o, s.heap.get? b = some o → (s.heap.push { cls := .type "dict", data := .dict #[] }).get? b = some o := fun b o e => Heap.get?_push_of_some _ e
  have hfs : ∀ b ∈ [s.heap.objs.size], s.heap.get? b = none := fun b hb => by rw [List.mem_singleton.mp hb]; exact hf
  refine ⟨μ ++ [(s.heap.objs.size, [s.heap.objs.size])], .newObj (tk := s.toks) hfs k, R.newObj hfs (by simp) (dk.nf _) k (fun b hb => by rw [List.mem_singleton.mp hb]; exact ⟨_, Heap.get?_push_size _ rfl⟩) ?_, ?_⟩
  · rw [dk.or]
    refine ⟨rfl, ?_, [], Heap.DictOf.new _, rfl, rfl⟩
    rw [beq_eq_false_iff_ne]
    show s.heap.objs.size ≠ 1
    omega
  · show ∃ b, _ ∧ _
    exact ⟨_, by rw [← R.len]; exact root_last, rfl⟩

/-! what a text says -/
structure DU (mk : List (K × PyData) → AObj) (enc : K → PyData) (un : AObj → Option (List (K × PyData))) (ky : V → Option K) : Prop where
  un : ∀ o kvs, un o = some kvs → o = mk kvs
  ky : ∀ v k, ky v = some k → v = .dat (enc k)
noncomputable def itemDS (un : AObj → Option (List (K × PyData))) (ky : V → Option K) (o i : V) : M V := fun σ => match o with
  | .obj j => (match (σ.heap[j]?).bind un, ky i with
    | some kvs, some k => (valD kvs k).map fun d => (.dat d, σ)
    | _, _ => none)
  | _ => none
noncomputable def putDS (mk : List (K × PyData) → AObj) (un : AObj → Option (List (K × PyData))) (ky : V → Option K) (o i v : V) : M Unit := fun σ => match o, v with
  | .obj j, .dat d => (match (σ.heap[j]?).bind un, ky i with
    | some kvs, some k => if kvs.length ≤ big then some ((), ⟨σ.loc, σ.heap.set j (mk (putD kvs k d))⟩) else none
    | _, _ => none)
  | _, _ => none
noncomputable def asgDM (mk : List (K × PyData) → AObj) (un : AObj → Option (List (K × PyData))) (ky : V → Option K) (o i m : M V) : M Fl := do
  let v ← m
  (do
    let ov ← o
    let iv ← i
    putDS mk un ky ov iv v)
  mpure .next
theorem bind_un {un : AObj → Option (List (K × PyData))} {o : Option AObj} {kvs : List (K × PyData)} (h : o.bind un = some kvs) : ∃ a, o = some a ∧ un a = some kvs := Option.bind_eq_some_iff.mp h
variable {un : AObj → Option (List (K × PyData))} {ky : V → Option K}
theorem W_putDS (dk : DK X knd mk enc) (du : DU mk enc un ky) {o i v : V} {x y z : Value} (R : Rel X ρ μ env σ s.heap) (ho : VR s.heap (okOf ρ μ) μ o x) (hi : VR s.heap (okOf ρ μ) μ i y) (hv : VR s.heap (okOf ρ μ) μ v z) :
    W X A ρ μ env s EqR (setItem x y z) (putDS mk un ky o i v σ) := by
  intro r σ' e
  cases o with
  | obj j =>
    cases v with
    | dat d =>
      unfold putDS at e
      simp only at e
      split at e
      · rename_i kvs k h1 h2
        obtain ⟨a, h3, h4⟩ := bind_un h1
        split at e
        · rename_i hb
          cases e
          rw [du.un _ _ h4] at h3
          rw [du.ky _ _ h2] at hi
          exact W_putD dk R ho h3 hb hi hv
        · cases e
      · cases e
    | _ => cases e
  | _ => cases e
theorem As_D (dk : DK X knd mk enc) (du : DU mk enc un ky) {o i : Expr} {p : Pos} {mo mi : M V} (ho : Ev X n env o mo) (hi : Ev X n env i mi) : As X n env (.Subscript o i p) (fun v => do let ov ← mo; let iv ← mi; putDS mk un ky ov iv v) := by
  intro A ρ μ σ s v y ga R hv
  rw [arm_assign_Subscript]
  exact W_bind (W_holding (ho A ρ μ σ s ga R)) fun μ₁ s₁ a σ₁ x st₁ R₁ v₁ => W_bind (W_holding (hi A ρ μ₁ σ₁ s₁ ga R₁)) fun μ₂ s₂ b σ₂ z st₂ R₂ v₂ => W_standAt (W_release (W_holding (W_putDS dk du R₂ (VR.step R₁ st₂ v₁) v₂ (VR.step R₁ st₂ (VR.step R st₁ hv)))))
theorem Ev_NewD (ok : CxOk X) (dk : DK X knd mk enc) {pos : Pos} : Ev X n env (.Dict [] [] pos) (newObj (mk [])) := by
  intro A ρ μ σ s ga R v σ' e
  cases e
  rw [eval_Dict_empty]
  refine wpAny_bind (wpAny_standAt ?_)
  have h1 : 1 < s.heap.objs.size := by
    obtain ⟨m, cm, F, _⟩ := R.frame
    have g1 := F.ns.lt
    have g2 := R.above
    have g3 : 3 < X.base.objs.size := ok.g.lt
    exact Nat.lt_trans (Nat.lt_of_lt_of_le (Nat.lt_trans (by decide) g3) g2) g1
  exact wpAny_newObj_type (W_newD dk R h1)
end
section
noncomputable def udI : AObj → Option (List (Int × PyData))
  | .dctI kvs => some kvs
  | _ => none
noncomputable def kyI : V → Option Int
  | .dat (.int x) => some x
  | _ => none
theorem duI : DU .dctI .int udI kyI where
  un := fun o kvs h => by cases o <;> first | (cases h; rfl) | cases h
  ky := fun v k h => by
    cases v with
    | dat d => cases d <;> first | (cases h; rfl) | cases h
    | _ => cases h
variable {X : Cx} {n : Nat} {se : Env} {o i e l r : Expr} {a c m : M V} {pos p : Pos}
theorem X_asgDI (h : EvR X n se e m) (k : EvR X n se o a) (j : EvR X n se i c) (hc : noComp e = true) : ExR X n se (.Assign [.Subscript o i p] e pos) (asgDM .dctI udI kyI a c m) := fun v hs => Ex_Assign (h v hs) (As_D dkI duI (k v hs) (j v hs)) rfl (swaps_no hc _ _) (swapped_no rfl)
theorem O_newDI (ok : CxOk X) : EvR X n se (.Dict [] [] pos) (newObj (.dctI [])) := fun v hs => Ev_NewD ok dkI
end
/-! sorted(d) -/
section
variable {X : Cx} {n : Nat} {env : Env} {P : Prm} {A : Around} {ρ : List Addr} {μ : Mu} {σ : St} {s : Shared}
open PyProof.Rows in
open PyProof.Rows in
end
section
variable {X : Cx} {n : Nat} {se : Env} {es : List Expr} {ms : List (M V)} {pos p : Pos}
end
section
variable {K : Type} [DecidableEq K] {un : AObj → Option (List (K × PyData))} {ky : V → Option K} {mk : List (K × PyData) → AObj}
variable {l l1 l2 : Str → Option V} {hp h1 h2 : List AObj} {σ σ1 : St} {R : Fl → St → Prop}
theorem r_newO {o : AObj} : Run (newObj o) ⟨l, hp⟩ (.obj hp.length) ⟨l, hp ++ [o]⟩ := rfl
theorem o_asgD {o i m : M V} {b : M Fl} {j : Nat} {v : V} {kvs : List (K × PyData)} {k : K} {d : PyData} {a : AObj} (hm : Run m σ (.dat d) σ1) {σ2 : St} (ho : Run o σ1 (.obj j) σ2) (hi : Run i σ2 v ⟨l2, h2⟩) (hj : h2[j]? = some a) (hu : un a = some kvs) (hk : ky v = some k) (hb : kvs.length ≤ big) (q : Ok b ⟨l2, h2.set j (mk (putD kvs k d))⟩ R) : Ok (thenM (asgDM mk un ky o i m) b) σ R := by
  refine o_then ⟨_, _, run_bind hm (run_bind (a := ()) (σ1 := ⟨l2, h2.set j (mk (putD kvs k d))⟩) (run_bind ho (run_bind hi ?_)) rfl), q⟩
  unfold Run putDS
  simp only [hj, Option.bind_some, hu, hk, if_pos hb]
end
end Mine
end

section
open PySem
set_option Elab.async false
set_option maxRecDepth 10000
set_option linter.unusedVariables false
namespace Mine

/-! zip -/
/-- what an iterator gives, one by one -/
structure Nx (prog : Program) (w : World) (i : Addr) (fp : List Addr) (n : Nat) (P : Nat → Value → Prop) (St : Nat → Heap → Prop) : Prop where
  keep : ∀ k h h', St k h → (∀ b ∈ fp, ∀ o, h.get? b = some o → h'.get? b = some o) → St k h'
  live : ∀ k h, St k h → ∃ o, h.get? i = some o
  item : ∀ (A : Around) (k : Nat) (s : Shared) (Q : Value → Shared → Prop) (E : Value → Shared → Prop), k < n → St k s.heap → (∀ v h' tk, P k v → St (k + 1) h' → Heap.SameBut i s.heap h' → Q v { s with heap := h', toks := tk }) →
    wpAny (model prog w) A (Builtin.SmallTypes.nextOf (.ref i)) Q E s
  done : ∀ (A : Around) (s : Shared) (Q : Value → Shared → Prop) (E : Value → Shared → Prop), A.handled = none → St n s.heap → (∀ h' e, Heap.ExtBut i s.heap h' → (∃ o, h'.get? e = some o ∧ o.cls = .type "StopIteration") → E (.ref e) { s with heap := h' }) →
    wpAny (model prog w) A (Builtin.SmallTypes.nextOf (.ref i)) Q E s
section
variable {prog : Program} {w : World}
theorem nx_list {i l : Addr} (hne : l ≠ i) (vs : Array Value) : Nx prog w i [i, l] vs.size (fun k v => vs[k]? = some v) (fun k h => h.IsListIter i l k ∧ h.IsList l vs) where
  keep := fun k h h' st hk => ⟨st.1.at fun o e => hk i (by simp) o e, st.2.at fun o e => hk l (by simp) o e⟩
  live := fun k h st => by obtain ⟨o, e, _⟩ := st.1; exact ⟨o, e⟩
  item := fun A k s Q E hk st hQ => by
    refine wpAny_nextOf_list_item st.1 st.2 (Array.getElem?_eq_getElem hk) fun h' h1 hs => ?_
    exact hQ _ h' s.toks (Array.getElem?_eq_getElem hk) ⟨h1, st.2.extBut hs.extBut hne⟩ hs
  done := fun A s Q E hh st hE => wpAny_nextOf_list_end hh st.1 st.2 (Array.getElem?_eq_none (Nat.le_refl _)) hE
theorem nx_range (i : Addr) (n : Nat) : Nx prog w i [i] n (fun k v => ∃ t, v = .int ((k : Nat) : Int) t) (fun k h => IsRangeIter h i ((k : Nat) : Int) ((n : Int) - (k : Nat)) 1) where
  keep := fun k h h' st hk => hk i (by simp) _ st
  live := fun k h st => ⟨_, st⟩
  item := fun A k s Q E hk st hQ => by
    have hT : s.TypeIs (.ref i) "range_iterator" := ⟨_, st, rfl⟩
    unfold Builtin.SmallTypes.nextOf
    refine wpAny_bind (wpAny_callSpecial?_slot (name := Str.ofString "__next__") hT F.slot_range_iterator_next
      (call_meets F.slot_range_iterator_next hT F.entry_range_iterator_next (F.args_range_iterator_next_1 _) (AutoRange.range_iterator___next___range_iterator_1 i k ((n : Int) - (k : Nat)) 1 (by omega)) ⟨st, ?_⟩))
    refine wpAny_pure (hQ _ _ _ ⟨_, rfl⟩ ?_ ((Heap.SameBut.update ..).trans (Heap.SameBut.update ..)))
    have := Heap.get?_update_self (Obj.mapFields (·.setIfInBounds 1 (rawInt ((n : Int) - (k : Nat) - 1)))) (Heap.get?_update_self (Obj.mapFields (·.setIfInBounds 0 (rawInt ((k : Int) + 1)))) st rfl) rfl
    show IsRangeIter _ _ _ _ _
    rw [show ((k + 1 : Nat) : Int) = (k : Int) + 1 by omega, show (n : Int) - ((k : Int) + 1) = (n : Int) - (k : Nat) - 1 by omega]
    exact this
  done := fun A s Q E hh st hE => by
    have hT : s.TypeIs (.ref i) "range_iterator" := ⟨_, st, rfl⟩
    unfold Builtin.SmallTypes.nextOf
    refine wpAny_bind (wpAny_callSpecial?_slot (name := Str.ofString "__next__") hT F.slot_range_iterator_next
      (wpAny_call_entry F.slot_range_iterator_next hT F.entry_range_iterator_next ?_ (F.args_range_iterator_next_1 _)))
    show wpAny _ _ (field (.ref i) 0 >>= _) _ _ s
    refine wpAny_bind (wpAny_field st rfl (x := rawInt n) rfl ?_)
    show wpAny _ _ (field (.ref i) 1 >>= _) _ _ s
    refine wpAny_bind (wpAny_field st rfl (x := rawInt ((n : Int) - (n : Nat))) rfl ?_)
    show wpAny _ _ (field (.ref i) 2 >>= _) _ _ s
    refine wpAny_bind (wpAny_field st rfl (x := rawInt 1) rfl ?_)
    show wpAny _ _ (if (n : Int) - (n : Nat) ≤ 0 then _ else _) _ _ s
    rw [if_pos (by omega)]
    refine wpAny_bind (wpAny_rule ?_)
    refine wpAny_bind ?_
    show wpAny _ _ (newExc (.type "StopIteration") [] >>= _) _ _ _
    refine wpAny_bind ?_
    simp only [newExc, newTuple]
    refine wpAny_bind (wpAny_newObj_type ?_ (by size_fits))
    refine wpAny_bind (m := firstArgMember _ _) (wpAny_of_eq (a := Value.none) (by first | rfl | (simp only [firstArgMember]; rfl)) ?_)
    refine wpAny_newObj_type ?_ (by size_fits)
    simp only [raiseNew]
    refine wpAny_bind (wpAny_handled ?_)
    first | rw [show A.in1.handled = none from hh] | rw [hh]
    refine wpAny_bind (wpAny_pure (wpAny_throw ?_))
    exact hE _ _ (((Heap.SameBut.refl _ _).extBut.push _).push _) ⟨_, Heap.get?_push_size _ rfl, rfl⟩

/-- the zip object and what it owns -/
noncomputable abbrev ZR (h : Heap) (z TI TO : Addr) (f0 : Value) (f1 : Bool) : Prop := h.get? z = some { cls := .type "zip", dict := none, data := .fields #[f0, .bool f1, .bool false, .ref TI, .ref TO], slots := #[] }
structure ZAp (z TI TO i1 i2 : Addr) (fp1 fp2 : List Addr) : Prop where
  TIz : TI ≠ z
  TOz : TO ≠ z
  i1z : i1 ≠ z
  i2z : i2 ≠ z
  TITO : TI ≠ TO
  TIi1 : TI ≠ i1
  TIi2 : TI ≠ i2
  TOi1 : TO ≠ i1
  TOi2 : TO ≠ i2
  i12 : i1 ≠ i2
  z1 : z ∉ fp1
  z2 : z ∉ fp2
  TO1 : TO ∉ fp1
  TO2 : TO ∉ fp2
  i12' : i1 ∉ fp2
  i21' : i2 ∉ fp1
noncomputable def Wz (z TO i1 i2 b : Addr) : Prop := b ≠ z ∧ b ≠ TO ∧ b ≠ i1 ∧ b ≠ i2
structure ZSt (h : Heap) (z TI TO i1 i2 : Addr) : Prop where
  zr : ZR h z TI TO .none false ∨ ∃ (T : Addr) (f : Bool) (o : Obj), ZR h z TI TO (rawInt T) f ∧ h.get? T = some o ∧ Wz z TO i1 i2 T
  TI : IsPair h TI (.ref i1) (.ref i2)
  TO : ∃ a b, IsPair h TO a b
section
variable {A : Around} {E : Value → Shared → Prop} {s : Shared} {z TI TO i1 i2 : Addr} {fp1 fp2 : List Addr} {n1 n2 : Nat} {P1 P2 : Nat → Value → Prop} {S1 S2 : Nat → Heap → Prop} {k : Nat}
theorem zip_kept {T : Addr} {f : Bool} {o : Obj} {Q : Value → Shared → Prop} (N1 : Nx prog w i1 fp1 n1 P1 S1) (N2 : Nx prog w i2 fp2 n2 P2 S2) (D : ZAp z TI TO i1 i2 fp1 fp2) (hz : ZR s.heap z TI TO (rawInt T) f) (hT : s.heap.get? T = some o) (hw : Wz z TO i1 i2 T)
    (hTI : IsPair s.heap TI (.ref i1) (.ref i2)) (hTO : ∃ a b, IsPair s.heap TO a b) (hk1 : k < n1) (hk2 : k < n2) (h1 : S1 k s.heap) (h2 : S2 k s.heap)
    (hQ : ∀ x y T h' tk, P1 k x → P2 k y → S1 (k + 1) h' → S2 (k + 1) h' → ZSt h' z TI TO i1 i2 → s.heap.get? T = none → IsPair h' T x y → (∀ c o, Wz z TO i1 i2 c → s.heap.get? c = some o → h'.get? c = some o) → Q (.ref T) { s with heap := h', toks := tk }) :
    wpAny (model prog w) A (Builtin.«zip.__next__» ⟨[.ref z], []⟩) (fun fin s' => ∃ v, fin = .done (.ret v) ∧ Q v s') E s := by
  show wpAny _ _ (field (.ref z) 2 >>= _) _ _ _
  refine wpAny_bind (wpAny_field hz rfl (x := .bool false) rfl ?_)
  show wpAny _ _ (field (.ref z) 3 >>= _) _ _ _
  refine wpAny_bind (wpAny_field hz rfl (x := .ref TI) rfl ?_)
  refine wpAny_bind (wpAny_seqItems hTI rfl ?_)
  show wpAny _ _ (Builtin.SmallTypes.ownedTupleIsFree (.ref z) >>= _) _ _ _
  refine wpAny_bind ?_
  unfold Builtin.SmallTypes.ownedTupleIsFree
  refine wpAny_bind (wpAny_field hz rfl (x := rawInt T) rfl ?_)
  show wpAny _ _ (loadIfAlive ((T : Int).toNat) >>= _) _ _ _
  rw [Int.toNat_natCast]
  refine wpAny_bind (W.kdx_alive hT ?_)
  simp only [Option.isNone_some, Bool.false_eq_true, if_false]
  refine wpAny_bind (wpAny_field hz rfl (x := .bool f) rfl ?_)
  refine wpAny_mono (Q := fun b s' => b = false ∧ ∃ h₁, s' = { s with heap := h₁ } ∧ Heap.SameBut z s.heap h₁ ∧ ZR h₁ z TI TO (rawInt T) true) ?_ (fun b s' hx => ?_) fun _ _ e => e
  · cases f with
    | true =>
      rw [if_neg (show ¬ ((Value.bool true != Value.bool true) = true) from Bool.false_ne_true)]
      exact wpAny_pure ⟨rfl, _, rfl, Heap.SameBut.refl _ _, hz⟩
    | false =>
      rw [if_pos (show (Value.bool false != Value.bool true) = true from rfl)]
      exact wpAny_bind (wpAny_setField_rec hz (by simp) fun h₁ hz₁ hs₁ => wpAny_pure ⟨rfl, _, rfl, hs₁, hz₁⟩)
  obtain ⟨rfl, h₁, rfl, hs₁, hz₁⟩ := hx
  simp only [Bool.false_eq_true, if_false, List.forIn_toArray, List.forIn_cons, List.forIn_nil]
  refine wpAny_bind (wpAny_bind (wpAny_bind (wpAny_holding ?_)))
  show wpAny _ _ (Builtin.SmallTypes.nextOf (.ref i1) >>= _) _ _ _
  have k1 : ∀ c o, c ≠ z → s.heap.get? c = some o → h₁.get? c = some o := hs₁.extBut
  refine wpAny_bind (N1.item A k _ _ _ hk1 (N1.keep k _ _ h1 fun b hb o e => k1 b o (fun q => D.z1 (q ▸ hb)) e) fun x h₂ tk₂ hx h1₂ hs₂ => wpAny_pure ?_)
  replace hs₂ : Heap.SameBut i1 h₁ h₂ := hs₂
  refine wpAny_pure ?_
  simp only
  refine wpAny_bind (wpAny_bind (wpAny_holding ?_))
  show wpAny _ _ (Builtin.SmallTypes.nextOf (.ref i2) >>= _) _ _ _
  have k2 : ∀ c o, c ≠ z → c ≠ i1 → s.heap.get? c = some o → h₂.get? c = some o := fun c o c1 c2 e => hs₂.extBut c o c2 (k1 c o c1 e)
  refine wpAny_bind (N2.item A k _ _ _ hk2 (N2.keep k _ _ h2 fun b hb o e => k2 b o (fun q => D.z2 (q ▸ hb)) (fun q => D.i12' (q ▸ hb)) e) fun y h₃ tk₃ hy h2₃ hs₃ => wpAny_pure ?_)
  replace hs₃ : Heap.SameBut i2 h₂ h₃ := hs₃
  have k3 : ∀ c o, c ≠ z → c ≠ i1 → c ≠ i2 → s.heap.get? c = some o → h₃.get? c = some o := fun c o c1 c2 c3 e => hs₃.extBut c o c3 (k2 c o c1 c2 e)
  refine wpAny_pure ?_
  simp only
  refine wpAny_pure ?_
  show wpAny _ _ (newTuple [x, y] >>= _) _ _ _
  refine wpAny_bind (wpAny_newTuple ?_)
  refine wpAny_pure ⟨_, rfl, ?_⟩
  have hsz : h₃.objs.size = s.heap.objs.size := by rw [hs₃.1, hs₂.1, hs₁.1]
  have hz₃ : ZR h₃ z TI TO (rawInt T) true := hs₃.extBut _ _ D.i2z.symm (hs₂.extBut _ _ D.i1z.symm hz₁)
  obtain ⟨a, b, hTO⟩ := hTO
  have up : ∀ c o, h₃.get? c = some o → (h₃.push { cls := .type "tuple", data := .seq #[x, y] }).get? c = some o := fun c o e => Heap.get?_push_of_some _ e
  refine hQ x y h₃.objs.size _ tk₃ hx hy (N1.keep _ _ _ h1₂ fun b hb o e => up b o (hs₃.extBut b o (fun q => D.i21' (q ▸ hb)) e)) (N2.keep _ _ _ h2₃ fun b hb o e => up b o e)
    ⟨.inr ⟨T, true, o, up _ _ hz₃, up _ _ (k3 T o hw.1 hw.2.2.1 hw.2.2.2 hT), hw⟩, up _ _ (k3 _ _ D.TIz D.TIi1 D.TIi2 hTI), a, b, up _ _ (k3 _ _ D.TOz D.TOi1 D.TOi2 hTO)⟩ ?_ (Heap.get?_push_size _ rfl) fun c o hc e => up c o (k3 c o hc.1 hc.2.2.1 hc.2.2.2 e)
  rw [hsz]; exact Heap.get?_none_of_le (Nat.le_refl _)
theorem zip_free {Q : Value → Shared → Prop} (N1 : Nx prog w i1 fp1 n1 P1 S1) (N2 : Nx prog w i2 fp2 n2 P2 S2) (D : ZAp z TI TO i1 i2 fp1 fp2) (hz : ZR s.heap z TI TO .none false)
    (hTI : IsPair s.heap TI (.ref i1) (.ref i2)) (hTO : ∃ a b, IsPair s.heap TO a b) (hk1 : k < n1) (hk2 : k < n2) (h1 : S1 k s.heap) (h2 : S2 k s.heap)
    (hQ : ∀ x y T h' tk, P1 k x → P2 k y → S1 (k + 1) h' → S2 (k + 1) h' → ZSt h' z TI TO i1 i2 → s.heap.get? T = none → IsPair h' T x y → (∀ c o, Wz z TO i1 i2 c → s.heap.get? c = some o → h'.get? c = some o) → Q (.ref T) { s with heap := h', toks := tk }) :
    wpAny (model prog w) A (Builtin.«zip.__next__» ⟨[.ref z], []⟩) (fun fin s' => ∃ v, fin = .done (.ret v) ∧ Q v s') E s := by
  obtain ⟨a, b, hTO⟩ := hTO
  show wpAny _ _ (field (.ref z) 2 >>= _) _ _ _
  refine wpAny_bind (wpAny_field hz rfl (x := .bool false) rfl ?_)
  show wpAny _ _ (field (.ref z) 3 >>= _) _ _ _
  refine wpAny_bind (wpAny_field hz rfl (x := .ref TI) rfl ?_)
  refine wpAny_bind (wpAny_seqItems hTI rfl ?_)
  show wpAny _ _ (Builtin.SmallTypes.ownedTupleIsFree (.ref z) >>= _) _ _ _
  refine wpAny_bind ?_
  unfold Builtin.SmallTypes.ownedTupleIsFree
  refine wpAny_bind (wpAny_field hz rfl (x := .none) rfl (wpAny_pure ?_))
  simp only [if_true]
  refine wpAny_bind (wpAny_rule ?_)
  refine wpAny_bind (wpAny_field hz rfl (x := .ref TO) rfl ?_)
  refine wpAny_bind (wpAny_setField_rec hz (by simp) fun h₁ hz₁ hs₁ => ?_)
  replace hz₁ : ZR h₁ z TI TO .ellipsis false := hz₁
  have k1 : ∀ c o, c ≠ z → s.heap.get? c = some o → h₁.get? c = some o := hs₁.extBut
  refine wpAny_bind ?_
  simp only [List.zipIdx_cons, List.zipIdx_nil, List.forIn_cons, List.forIn_nil]
  refine wpAny_bind (wpAny_bind (wpAny_onRaise ?_))
  show wpAny _ _ (Builtin.SmallTypes.nextOf (.ref i1) >>= _) _ _ _
  refine wpAny_bind (N1.item A k _ _ _ hk1 (N1.keep k _ _ h1 fun b hb o e => k1 b o (fun q => D.z1 (q ▸ hb)) e) fun x h₂ tk₂ hx h1₂ hs₂ => wpAny_pure ?_)
  replace hs₂ : Heap.SameBut i1 h₁ h₂ := hs₂
  have k2 : ∀ c o, c ≠ z → c ≠ i1 → s.heap.get? c = some o → h₂.get? c = some o := fun c o c1 c2 e => hs₂.extBut c o c2 (k1 c o c1 e)
  have hTO₂ : IsPair h₂ TO a b := k2 _ _ D.TOz D.TOi1 hTO
  refine wpAny_bind (wpAny_seqItems hTO₂ rfl ?_)
  refine wpAny_bind (wpAny_updateSeq_pair hTO₂ fun h₃ hTO₃ hs₃ => ?_)
  replace hTO₃ : IsPair h₃ TO x b := hTO₃
  replace hs₃ : Heap.SameBut TO h₂ h₃ := hs₃
  have k3 : ∀ c o, c ≠ z → c ≠ i1 → c ≠ TO → s.heap.get? c = some o → h₃.get? c = some o := fun c o c1 c2 c3 e => hs₃.extBut c o c3 (k2 c o c1 c2 e)
  refine wpAny_bind (wpAny_letGo (wpAny_pure ?_))
  refine wpAny_bind (wpAny_bind (wpAny_onRaise ?_))
  show wpAny _ _ (Builtin.SmallTypes.nextOf (.ref i2) >>= _) _ _ _
  refine wpAny_bind (N2.item A k _ _ _ hk2 (N2.keep k _ _ h2 fun b hb o e => k3 b o (fun q => D.z2 (q ▸ hb)) (fun q => D.i12' (q ▸ hb)) (fun q => D.TO2 (q ▸ hb)) e) fun y h₄ tk₄ hy h2₄ hs₄ => wpAny_pure ?_)
  replace hs₄ : Heap.SameBut i2 h₃ h₄ := hs₄
  have hTO₄ : IsPair h₄ TO x b := hs₄.extBut _ _ D.TOi2 hTO₃
  refine wpAny_bind (wpAny_seqItems hTO₄ rfl ?_)
  refine wpAny_bind (wpAny_updateSeq_pair hTO₄ fun h₅ hTO₅ hs₅ => ?_)
  replace hTO₅ : IsPair h₅ TO x y := hTO₅
  replace hs₅ : Heap.SameBut TO h₄ h₅ := hs₅
  have k5 : ∀ c o, Wz z TO i1 i2 c → s.heap.get? c = some o → h₅.get? c = some o := fun c o hc e => hs₅.extBut c o hc.2.1 (hs₄.extBut c o hc.2.2.2 (k3 c o hc.1 hc.2.2.1 hc.2.1 e))
  refine wpAny_bind (wpAny_letGo (wpAny_pure (wpAny_pure ?_)))
  refine wpAny_bind (wpAny_seqItems hTO₅ rfl ?_)
  refine wpAny_bind (wpAny_newTuple ?_)
  have hsz : h₅.objs.size = s.heap.objs.size := by rw [hs₅.1, hs₄.1, hs₃.1, hs₂.1, hs₁.1]
  have hz₅ : ZR h₅ z TI TO .ellipsis false := hs₅.extBut _ _ D.TOz.symm (hs₄.extBut _ _ D.i2z.symm (hs₃.extBut _ _ D.TOz.symm (hs₂.extBut _ _ D.i1z.symm hz₁)))
  show wpAny _ _ (Builtin.SmallTypes.ownedTupleHandOut (.ref z) (.ref h₅.objs.size) >>= _) _ _ _
  refine wpAny_bind ?_
  unfold Builtin.SmallTypes.ownedTupleHandOut
  have hz₆ : ZR (h₅.push { cls := .type "tuple", data := .seq #[x, y] }) z TI TO .ellipsis false := Heap.get?_push_of_some _ hz₅
  refine wpAny_bind (wpAny_setField_rec hz₆ (by simp) fun h₇ hz₇ hs₇ => ?_)
  replace hz₇ : ZR h₇ z TI TO (rawInt h₅.objs.size) false := hz₇
  refine wpAny_setField_rec hz₇ (by simp) fun h₈ hz₈ hs₈ => ?_
  replace hz₈ : ZR h₈ z TI TO (rawInt h₅.objs.size) false := hz₈
  have up : ∀ c o, c ≠ z → h₅.get? c = some o → h₈.get? c = some o := fun c o c1 e => hs₈.extBut _ _ c1 (hs₇.extBut _ _ c1 (Heap.get?_push_of_some _ e))
  have hzlt : z < h₅.objs.size := Heap.lt_size hz₅
  have hT₈ : IsPair h₈ h₅.objs.size x y := hs₈.extBut _ _ (Nat.ne_of_gt hzlt) (hs₇.extBut _ _ (Nat.ne_of_gt hzlt) (Heap.get?_push_size _ rfl))
  have hTn : s.heap.get? h₅.objs.size = none := by rw [hsz]; exact Heap.get?_none_of_le (Nat.le_refl _)
  have old : ∀ c o, s.heap.get? c = some o → h₅.objs.size ≠ c := fun c o e => by rw [hsz]; exact Nat.ne_of_gt (Heap.lt_size e)
  refine wpAny_pure ⟨_, rfl, ?_⟩
  have s1 : S1 (k + 1) h₈ := N1.keep _ _ _ h1₂ fun b hb o e => up b o (fun q => D.z1 (q ▸ hb)) (hs₅.extBut b o (fun q => D.TO1 (q ▸ hb)) (hs₄.extBut b o (fun q => D.i21' (q ▸ hb)) (hs₃.extBut b o (fun q => D.TO1 (q ▸ hb)) e)))
  have s2 : S2 (k + 1) h₈ := N2.keep _ _ _ h2₄ fun b hb o e => up b o (fun q => D.z2 (q ▸ hb)) (hs₅.extBut b o (fun q => D.TO2 (q ▸ hb)) e)
  refine hQ x y h₅.objs.size h₈ tk₄ hx hy s1 s2 ⟨.inr ⟨_, false, _, hz₈, hT₈, old z _ hz, old TO _ hTO, ?_, ?_⟩, up _ _ D.TIz (k5 _ _ ⟨D.TIz, D.TITO, D.TIi1, D.TIi2⟩ hTI), x, y, up _ _ D.TOz hTO₅⟩ hTn hT₈ fun c o hc e => up c o hc.1 (k5 c o hc e)
  · obtain ⟨o, e⟩ := N1.live _ _ h1; exact old i1 o e
  · obtain ⟨o, e⟩ := N2.live _ _ h2; exact old i2 o e
theorem zip_nextB {Q : Option Value → Shared → Prop} (N1 : Nx prog w i1 fp1 n1 P1 S1) (N2 : Nx prog w i2 fp2 n2 P2 S2) (D : ZAp z TI TO i1 i2 fp1 fp2) (hst : ZSt s.heap z TI TO i1 i2) (hk1 : k < n1) (hk2 : k < n2) (h1 : S1 k s.heap) (h2 : S2 k s.heap)
    (hQ : ∀ x y T h' tk, P1 k x → P2 k y → S1 (k + 1) h' → S2 (k + 1) h' → ZSt h' z TI TO i1 i2 → s.heap.get? T = none → IsPair h' T x y → (∀ c o, Wz z TO i1 i2 c → s.heap.get? c = some o → h'.get? c = some o) → Q (some (.ref T)) { s with heap := h', toks := tk }) :
    wpAny (model prog w) A (pyNext (.ref z)) Q E s := by
  have hT : s.TypeIs (.ref z) "zip" := by
    rcases hst.zr with hz | ⟨_, _, _, hz, _⟩ <;> exact ⟨_, hz, rfl⟩
  unfold pyNext
  refine wpAny_bind (wpAny_attempt (wpAny_callSpecial?_slot (name := Str.ofString "__next__") hT F.slot_zip_next (wpAny_call_entry F.slot_zip_next hT F.entry_zip_next ?_ (F.args_zip_next_1 _))))
  have hQ' : ∀ x y T h' tk, P1 k x → P2 k y → S1 (k + 1) h' → S2 (k + 1) h' → ZSt h' z TI TO i1 i2 → s.heap.get? T = none → IsPair h' T x y → (∀ c o, Wz z TO i1 i2 c → s.heap.get? c = some o → h'.get? c = some o) → wpAny (model prog w) A (pure (some (Value.ref T))) Q E { s with heap := h', toks := tk } :=
    fun x y T h' tk a1 a2 a3 a4 a5 a6 a7 a8 => wpAny_pure (hQ x y T h' tk a1 a2 a3 a4 a5 a6 a7 a8)
  rcases hst.zr with hz | ⟨T, f, o, hz, hTT, hw⟩
  · exact zip_free N1 N2 D hz hst.TI hst.TO hk1 hk2 h1 h2 hQ'
  · exact zip_kept N1 N2 D hz hTT hw hst.TI hst.TO hk1 hk2 h1 h2 hQ'
/-- the first one has ended -/
theorem zip_endB {Q : Option Value → Shared → Prop} (hh : A.handled = none) (N1 : Nx prog w i1 fp1 n1 P1 S1) (D : ZAp z TI TO i1 i2 fp1 fp2) (hst : ZSt s.heap z TI TO i1 i2) (h1 : S1 n1 s.heap)
    (hQ : ∀ h', (∀ c o, Wz z TO i1 i2 c → s.heap.get? c = some o → h'.get? c = some o) → Q none { s with heap := h' }) :
    wpAny (model prog w) A (pyNext (.ref z)) Q E s := by
  have hT : s.TypeIs (.ref z) "zip" := by
    rcases hst.zr with hz | ⟨_, _, _, hz, _⟩ <;> exact ⟨_, hz, rfl⟩
  unfold pyNext
  refine wpAny_bind (wpAny_attempt (wpAny_callSpecial?_slot (name := Str.ofString "__next__") hT F.slot_zip_next (wpAny_call_entry F.slot_zip_next hT F.entry_zip_next ?_ (F.args_zip_next_1 _))))
  have fin : ∀ h' e, (∀ c o, Wz z TO i1 i2 c → s.heap.get? c = some o → h'.get? c = some o) → (∃ o, h'.get? e = some o ∧ o.cls = .type "StopIteration") → wpAny (model prog w) A (isInstance (.ref e) (.type "StopIteration") >>= fun b => if b = true then pure none else throw (.ref e)) Q E { s with heap := h' } := fun h' e hk he => by
    obtain ⟨o, ho, hc⟩ := he
    refine wpAny_bind (wpAny_isInstance (T := "StopIteration") (b := true) ⟨o, ho, hc⟩ isSubtype_stop ?_)
    exact wpAny_pure (hQ _ hk)
  rcases hst.zr with hz | ⟨T, f, o, hz, hTT, hw⟩
  · obtain ⟨a, b, hTO⟩ := hst.TO
    show wpAny _ _ (field (.ref z) 2 >>= _) _ _ _
    refine wpAny_bind (wpAny_field hz rfl (x := .bool false) rfl ?_)
    show wpAny _ _ (field (.ref z) 3 >>= _) _ _ _
    refine wpAny_bind (wpAny_field hz rfl (x := .ref TI) rfl ?_)
    refine wpAny_bind (wpAny_seqItems hst.TI rfl ?_)
    show wpAny _ _ (Builtin.SmallTypes.ownedTupleIsFree (.ref z) >>= _) _ _ _
    refine wpAny_bind ?_
    unfold Builtin.SmallTypes.ownedTupleIsFree
    refine wpAny_bind (wpAny_field hz rfl (x := .none) rfl (wpAny_pure ?_))
    simp only [if_true]
    refine wpAny_bind (wpAny_rule ?_)
    refine wpAny_bind (wpAny_field hz rfl (x := .ref TO) rfl ?_)
    refine wpAny_bind (wpAny_setField_rec hz (by simp) fun h₁ hz₁ hs₁ => ?_)
    replace hz₁ : ZR h₁ z TI TO .ellipsis false := hz₁
    replace hs₁ : Heap.SameBut z s.heap h₁ := hs₁
    have k1 : ∀ c o, c ≠ z → s.heap.get? c = some o → h₁.get? c = some o := hs₁.extBut
    refine wpAny_bind ?_
    simp only [List.zipIdx_cons, List.zipIdx_nil, List.forIn_cons, List.forIn_nil]
    refine wpAny_bind (wpAny_bind (wpAny_onRaise ?_))
    show wpAny _ _ (Builtin.SmallTypes.nextOf (.ref i1) >>= _) _ _ _
    refine wpAny_bind (N1.done A.in1 _ _ _ hh (N1.keep _ _ _ h1 fun b hb o e => k1 b o (fun q => D.z1 (q ▸ hb)) e) fun h₂ e hs₂ he => ?_)
    replace hs₂ : Heap.ExtBut i1 h₁ h₂ := hs₂
    obtain ⟨oe, hoe, hce⟩ := he
    have hz₂ : ZR h₂ z TI TO .ellipsis false := hs₂ _ _ D.i1z.symm hz₁
    have hez : e ≠ z := fun x => by subst x; rw [hz₂] at hoe; cases hoe; simp at hce
    refine wpAny_setField_rec hz₂ (by simp) fun h₃ _ hs₃ => ?_
    replace hs₃ : Heap.SameBut z h₂ h₃ := hs₃
    exact fin h₃ e (fun c o hc x => hs₃.extBut _ _ hc.1 (hs₂ _ _ hc.2.2.1 (k1 _ _ hc.1 x))) ⟨oe, hs₃.extBut _ _ hez hoe, hce⟩
  · show wpAny _ _ (field (.ref z) 2 >>= _) _ _ _
    refine wpAny_bind (wpAny_field hz rfl (x := .bool false) rfl ?_)
    show wpAny _ _ (field (.ref z) 3 >>= _) _ _ _
    refine wpAny_bind (wpAny_field hz rfl (x := .ref TI) rfl ?_)
    refine wpAny_bind (wpAny_seqItems hst.TI rfl ?_)
    show wpAny _ _ (Builtin.SmallTypes.ownedTupleIsFree (.ref z) >>= _) _ _ _
    refine wpAny_bind ?_
    unfold Builtin.SmallTypes.ownedTupleIsFree
    refine wpAny_bind (wpAny_field hz rfl (x := rawInt T) rfl ?_)
    show wpAny _ _ (loadIfAlive ((T : Int).toNat) >>= _) _ _ _
    rw [Int.toNat_natCast]
    refine wpAny_bind (W.kdx_alive hTT ?_)
    simp only [Option.isNone_some, Bool.false_eq_true, if_false]
    refine wpAny_bind (wpAny_field hz rfl (x := .bool f) rfl ?_)
    refine wpAny_mono (Q := fun b s' => b = false ∧ ∃ h₁, s' = { s with heap := h₁ } ∧ Heap.SameBut z s.heap h₁ ∧ ZR h₁ z TI TO (rawInt T) true) ?_ (fun b s' hx => ?_) fun _ _ e => e
    · cases f with
      | true =>
        rw [if_neg (show ¬ ((Value.bool true != Value.bool true) = true) from Bool.false_ne_true)]
        exact wpAny_pure ⟨rfl, _, rfl, Heap.SameBut.refl _ _, hz⟩
      | false =>
        rw [if_pos (show (Value.bool false != Value.bool true) = true from rfl)]
        exact wpAny_bind (wpAny_setField_rec hz (by simp) fun h₁ hz₁ hs₁ => wpAny_pure ⟨rfl, _, rfl, hs₁, hz₁⟩)
    obtain ⟨rfl, h₁, rfl, hs₁, hz₁⟩ := hx
    simp only [Bool.false_eq_true, if_false, List.forIn_toArray, List.forIn_cons, List.forIn_nil]
    refine wpAny_bind (wpAny_bind (wpAny_bind (wpAny_holding ?_)))
    show wpAny _ _ (Builtin.SmallTypes.nextOf (.ref i1) >>= _) _ _ _
    have k1 : ∀ c o, c ≠ z → s.heap.get? c = some o → h₁.get? c = some o := hs₁.extBut
    refine wpAny_bind (N1.done A.in1 _ _ _ hh (N1.keep _ _ _ h1 fun b hb o e => k1 b o (fun q => D.z1 (q ▸ hb)) e) fun h₂ e hs₂ he => ?_)
    replace hs₂ : Heap.ExtBut i1 h₁ h₂ := hs₂
    exact fin h₂ e (fun c o hc x => hs₂ _ _ hc.2.2.1 (k1 _ _ hc.1 x)) he

/-- the tuples that were taken -/
noncomputable def ZGot (P1 P2 : Nat → Value → Prop) (h0 h : Heap) (S z TO i1 i2 : Addr) (as : List Addr) : Prop := ∀ (j : Nat) (a : Addr), as[j]? = some a → ∃ x y, P1 j x ∧ P2 j y ∧ IsPair h a x y ∧ Wz z TO i1 i2 a ∧ a ≠ S ∧ h0.get? a = none
structure ZI (P1 P2 : Nat → Value → Prop) (S1 S2 : Nat → Heap → Prop) (h0 : Heap) (S z TI TO i1 i2 : Addr) (k : Nat) (as : List Addr) (h : Heap) : Prop where
  st : ZSt h z TI TO i1 i2
  s1 : S1 k h
  s2 : S2 k h
  len : as.length = k
  got : ZGot P1 P2 h0 h S z TO i1 i2 as
  old : ∀ b o, h0.get? b = some o → h.get? b = some o
/-- what is fresh -/
structure ZNew (h0 : Heap) (S z TI TO i1 i2 : Addr) (fp1 fp2 : List Addr) : Prop where
  S0 : h0.get? S = none
  z0 : h0.get? z = none
  TO0 : h0.get? TO = none
  i10 : h0.get? i1 = none
  i20 : h0.get? i2 = none
  Sw : Wz z TO i1 i2 S
  STI : TI ≠ S
  S1 : S ∉ fp1
  S2 : S ∉ fp2
theorem apart_of {h : Heap} {a b : Addr} {o : Obj} (n : h.get? a = none) (e : h.get? b = some o) : b ≠ a := by
  intro q; rw [q, n] at e; cases e
theorem ZNew.away {h0 : Heap} {S : Addr} (N : ZNew h0 S z TI TO i1 i2 fp1 fp2) {b : Addr} {o : Obj} (e : h0.get? b = some o) : Wz z TO i1 i2 b ∧ b ≠ S :=
  ⟨⟨apart_of N.z0 e, apart_of N.TO0 e, apart_of N.i10 e, apart_of N.i20 e⟩, apart_of N.S0 e⟩
/-- the new list is written -/
theorem ZI.upd {h0 h h' : Heap} {S : Addr} {as : List Addr} (N1 : Nx prog w i1 fp1 n1 P1 S1) (N2 : Nx prog w i2 fp2 n2 P2 S2) (N : ZNew h0 S z TI TO i1 i2 fp1 fp2) (I : ZI P1 P2 S1 S2 h0 S z TI TO i1 i2 k as h) (hl : ∃ o, h'.get? S = some o) (hk : ∀ b o, b ≠ S → h.get? b = some o → h'.get? b = some o) : ZI P1 P2 S1 S2 h0 S z TI TO i1 i2 k as h' where
  st := by
    obtain ⟨zr, hTI, a, b, hTO⟩ := I.st
    refine ⟨?_, hk _ _ N.STI hTI, a, b, hk _ _ N.Sw.2.1.symm hTO⟩
    rcases zr with hz | ⟨T, f, o, hz, hT, hw⟩
    · exact .inl (hk _ _ N.Sw.1.symm hz)
    · refine .inr ?_
      by_cases e : T = S
      · obtain ⟨o', e'⟩ := hl
        exact ⟨T, f, o', hk _ _ N.Sw.1.symm hz, e ▸ e', hw⟩
      · exact ⟨T, f, o, hk _ _ N.Sw.1.symm hz, hk _ _ e hT, hw⟩
  s1 := N1.keep _ _ _ I.s1 fun b hb o e => hk b o (fun q => N.S1 (q ▸ hb)) e
  s2 := N2.keep _ _ _ I.s2 fun b hb o e => hk b o (fun q => N.S2 (q ▸ hb)) e
  len := I.len
  got := fun j a ha => by
    obtain ⟨x, y, g1, g2, g3, g4, g5, g6⟩ := I.got j a ha
    exact ⟨x, y, g1, g2, hk _ _ g5 g3, g4, g5, g6⟩
  old := fun b o e => hk b o (N.away e).2 (I.old b o e)
section
variable {h0 : Heap} {S : Addr} {R : Result → Shared → Prop} {n : Nat}
theorem zip_loop (hh : A.handled = none) (N1 : Nx prog w i1 fp1 n P1 S1) (N2 : Nx prog w i2 fp2 n P2 S2) (D : ZAp z TI TO i1 i2 fp1 fp2) (N : ZNew h0 S z TI TO i1 i2 fp1 fp2) (hn : n ≤ sizeLine) (res : Value)
    (hR : ∀ h' tk acc c as, (∀ b o, h0.get? b = some o → h'.get? b = some o) → ZGot P1 P2 h0 h' S z TO i1 i2 as → as.length = n → h'.get? S = some { cls := .type "list", dict := none, data := .seq acc c, slots := #[] } → acc.toList = as.map Value.ref → R (.ok (.ret res)) { s with heap := h', toks := tk }) :
    ∀ (m k : Nat) (h : Heap) (tk c : Nat) (acc : Array Value) (as : List Addr), n - k = m → k ≤ n → ZI P1 P2 S1 S2 h0 S z TI TO i1 i2 k as h → h.get? S = some { cls := .type "list", dict := none, data := .seq acc c, slots := #[] } → acc.toList = as.map Value.ref →
      codeAny (model prog w) A (.builtin "list.extend.loop" ⟨[.ref S, .ref z, res], []⟩) R { s with heap := h, toks := tk } := by
  intro m
  induction m with
  | zero =>
    intro k h tk c acc as hm hkn I hS hacc
    have hkn : k = n := by omega
    refine codeAny_builtin F.entry_extend_loop ?_
    rw [Around.under_plainId F.plain_extend_loop _]
    show wpAny _ A.in1 (pyNext (.ref z) >>= _) _ _ _
    refine wpAny_bind (zip_endB (s := { s with heap := h, toks := tk }) (A := A.in1) hh N1 D I.st (hkn ▸ I.s1) fun h' hk => ?_)
    replace hk : ∀ c o, Wz z TO i1 i2 c → h.get? c = some o → h'.get? c = some o := hk
    refine wpAny_pure (hR h' tk acc c as (fun b o e => hk b o (N.away e).1 (I.old b o e)) (fun j a ha => ?_) (I.len.trans hkn) (hk S _ N.Sw hS) hacc)
    obtain ⟨x, y, g1, g2, g3, g4, g5, g6⟩ := I.got j a ha
    exact ⟨x, y, g1, g2, hk _ _ g4 g3, g4, g5, g6⟩
  | succ m ih =>
    intro k h tk c acc as hm hkn I hS hacc
    have hlt : k < n := by omega
    have hsz : acc.size = k := by rw [← Array.length_toList, hacc, List.length_map, I.len]
    refine codeAny_builtin F.entry_extend_loop ?_
    rw [Around.under_plainId F.plain_extend_loop _]
    show wpAny _ A.in1 (pyNext (.ref z) >>= _) _ _ _
    refine wpAny_bind (zip_nextB (s := { s with heap := h, toks := tk }) (A := A.in1) N1 N2 D I.st hlt hlt I.s1 I.s2 fun x y T h₁ tk₁ hx hy t1 t2 st1 hT hP hk => ?_)
    replace hk : ∀ c o, Wz z TO i1 i2 c → h.get? c = some o → h₁.get? c = some o := hk
    replace hT : h.get? T = none := hT
    have hS₁ := hk S _ N.Sw hS
    show wpAny _ A.in1 (updateSeq S (·.push (.ref T)) >>= _) _ _ _
    have dead : ∀ {a : Addr} {o : Obj}, h.get? a = some o → T ≠ a := by intro a o e q; rw [q, e] at hT; cases hT
    have hTw : Wz z TO i1 i2 T := by
      obtain ⟨zr, _, a, b, hTO⟩ := I.st
      obtain ⟨o1, e1⟩ := N1.live _ _ I.s1
      obtain ⟨o2, e2⟩ := N2.live _ _ I.s2
      refine ⟨?_, dead hTO, dead e1, dead e2⟩
      rcases zr with hz | ⟨_, _, _, hz, _⟩ <;> exact dead hz
    have I₁ : ZI P1 P2 S1 S2 h0 S z TI TO i1 i2 (k + 1) (as ++ [T]) h₁ := by
      refine ⟨st1, t1, t2, by rw [List.length_append, I.len]; rfl, fun j a ha => ?_, fun b o e => hk b o (N.away e).1 (I.old b o e)⟩
      rcases Nat.lt_or_ge j as.length with hj | hj
      · rw [List.getElem?_append_left hj] at ha
        obtain ⟨x, y, g1, g2, g3, g4, g5, g6⟩ := I.got j a ha
        exact ⟨x, y, g1, g2, hk _ _ g4 g3, g4, g5, g6⟩
      · rw [List.getElem?_append_right hj] at ha
        have hj0 : j - as.length = 0 := by
          rcases Nat.eq_zero_or_pos (j - as.length) with q | q
          · exact q
          · rw [List.getElem?_eq_none (show [T].length ≤ _ from q)] at ha; cases ha
        rw [hj0] at ha
        have ha : T = a := Option.some.inj ha
        subst ha
        have hjk : j = k := by have := I.len; omega
        subst hjk
        refine ⟨x, y, hx, hy, hP, hTw, dead hS, ?_⟩
        cases q : h0.get? T with
        | none => rfl
        | some o => exact absurd rfl (dead (I.old T o q))
    refine wpAny_bind ?_
    refine wpAny_updateSeq hS₁ rfl (wpAny_pure ⟨plainId_quiet F.plain_extend_loop _, ih (k + 1) _ _ _ (acc.push (.ref T)) (as ++ [T]) (by omega) hlt (I₁.upd N1 N2 N ⟨_, Heap.get?_update_self _ hS₁ rfl⟩ fun b o hb e => (Heap.get?_update_other _ _ (Ne.symm hb)).trans e) (Heap.get?_update_self _ hS₁ rfl) (by rw [Array.toList_push, hacc, List.map_append]; rfl)⟩)
      (by rw [hsz]; omega) (by show (acc.push _).size ≤ sizeLine + 1; rw [Array.size_push, hsz]; omega)
theorem no_len : typeLookup (.type "zip") "__len__" = pure none := by rw [typeLookup_type, builtinLookup_eq_fast]; kernel_rfl
theorem no_hint : typeLookup (.type "zip") "__length_hint__" = pure none := by rw [typeLookup_type, builtinLookup_eq_fast]; kernel_rfl
theorem zip_extend (hh : A.handled = none) (N1 : Nx prog w i1 fp1 n P1 S1) (N2 : Nx prog w i2 fp2 n P2 S2) (D : ZAp z TI TO i1 i2 fp1 fp2) (N : ZNew h0 S z TI TO i1 i2 fp1 fp2) (hn : n ≤ sizeLine) (res : Value) {c₀ : Nat}
    (I : ZI P1 P2 S1 S2 h0 S z TI TO i1 i2 0 [] s.heap) (hz : ZR s.heap z TI TO .none false) (hS : s.heap.get? S = some { cls := .type "list", data := .seq #[] c₀ })
    (hR : ∀ h' tk acc c as, (∀ b o, h0.get? b = some o → h'.get? b = some o) → ZGot P1 P2 h0 h' S z TO i1 i2 as → as.length = n → h'.get? S = some { cls := .type "list", dict := none, data := .seq acc c, slots := #[] } → acc.toList = as.map Value.ref → R (.ok (.ret res)) { s with heap := h', toks := tk }) :
    wpAny (model prog w) A.in1 (Builtin.List.listExtendWith (.ref S) (.ref z) res)
      (fun fin s' => match fin with | .done f => R (.ok f) s' | .again c' => c'.quiet = true ∧ codeAny (model prog w) A c' R s') (fun e s' => R (.error e) s') s := by
  have hT : s.TypeIs (.ref z) "zip" := ⟨_, hz, rfl⟩
  unfold Builtin.List.listExtendWith
  refine wpAny_bind (wpAny_typeOf hT ?_)
  have h1 : Builtin.List.listSameRef (.ref S) (.ref z) = false := by simp [Builtin.List.listSameRef, N.Sw.1]
  have h2 : (Value.type "zip" == Value.type "list") = false := by decide
  have h3 : (Value.type "zip" == Value.type "tuple") = false := by decide
  simp only [h1, h2, h3, Bool.or_false, Bool.false_eq_true, if_false]
  refine wpAny_bind (wpAny_pyIter_zip hz ?_)
  refine wpAny_bind (wpAny_holding ?_)
  unfold Builtin.List.listLengthHint
  refine wpAny_bind (wpAny_specialOf hT no_len ?_)
  show wpAny _ A.in1 (specialOf (Value.ref z) (Str.ofString "__length_hint__") >>= _) _ _ _
  refine wpAny_bind (wpAny_specialOf hT no_hint ?_)
  refine wpAny_pure ?_
  show wpAny _ A.in1 (rule "list.extend.makes-room" >>= fun _ => Builtin.List.listTouch (.ref S) >>= fun _ => again (.builtin "list.extend.loop" ⟨[.ref S, .ref z, res], []⟩)) _ _ _
  refine wpAny_bind (wpAny_rule ?_)
  refine wpAny_bind ?_
  show wpAny _ A.in1 (updateSeq S (·.push .none) >>= fun _ => updateSeq S (·.pop)) _ _ _
  refine wpAny_bind (wpAny_updateSeq hS rfl ?_)
  have hS₂ := Heap.get?_update_self (Obj.mapSeq (·.push Value.none)) hS rfl
  refine wpAny_updateSeq (hz := by seq_fits) hS₂ rfl ?_
  have hS₃ := Heap.get?_update_self (Obj.mapSeq (·.pop)) hS₂ rfl
  refine wpAny_pure ⟨plainId_quiet F.plain_extend_loop _, zip_loop hh N1 N2 D N hn res hR n 0 _ s.toks _ #[] [] rfl (Nat.zero_le _) (I.upd N1 N2 N ⟨_, hS₃⟩ fun b o hb e => ?_) hS₃ rfl⟩
  exact (Heap.get?_update_other _ _ (Ne.symm hb)).trans ((Heap.get?_update_other _ _ (Ne.symm hb)).trans e)
end
end
/-- a zip object that was just made -/
noncomputable def ZUp (prog : Program) (w : World) (h0 h : Heap) (b : Addr) (n : Nat) (P1 P2 : Nat → Value → Prop) : Prop :=
  ∃ fp1 fp2 S1 S2, Nx prog w b fp1 n P1 S1 ∧ Nx prog w (b + 1) fp2 n P2 S2 ∧ ZAp (b + 4) (b + 2) (b + 3) b (b + 1) fp1 fp2 ∧ (∀ c ∈ fp1, c < b + 5) ∧ (∀ c ∈ fp2, c < b + 5) ∧ ZR h (b + 4) (b + 2) (b + 3) .none false ∧ ZSt h (b + 4) (b + 2) (b + 3) b (b + 1) ∧ S1 0 h ∧ S2 0 h ∧
    h.objs.size = b + 5 ∧ h0.objs.size = b ∧ ∀ c o, h0.get? c = some o → h.get? c = some o
section
variable {A : Around} {E : Value → Shared → Prop} {s : Shared} {n : Nat} {P1 P2 : Nat → Value → Prop}
theorem zap {b l1 : Addr} {L : List Addr} (h1 : l1 < b) (hL : ∀ c ∈ L, c < b) : ZAp (b + 4) (b + 2) (b + 3) b (b + 1) [b, l1] ((b + 1) :: L) := by
  have up : ∀ k, b + k ∉ L := fun k hm => Nat.not_lt.mpr (Nat.le_add_right b k) (hL _ hm)
  have ne : ∀ i j, i ≠ j → b + i ≠ b + j := fun i j h q => h (Nat.add_left_cancel q)
  have n1 : ∀ k, b + k ≠ l1 := fun k q => Nat.not_lt.mpr (Nat.le_add_right b k) (q ▸ h1)
  have m1 : ∀ k, k ≠ 0 → b + k ∉ [b, l1] := fun k hk hm => by
    rcases List.mem_cons.mp hm with q | hm
    · exact ne k 0 hk q
    · exact n1 k (List.mem_singleton.mp hm)
  have m2 : ∀ k, k ≠ 1 → b + k ∉ (b + 1) :: L := fun k hk hm => by
    rcases List.mem_cons.mp hm with q | hm
    · exact ne k 1 hk q
    · exact up k hm
  exact ⟨ne 2 4 (by decide), ne 3 4 (by decide), ne 0 4 (by decide), ne 1 4 (by decide), ne 2 3 (by decide), ne 2 0 (by decide), ne 2 1 (by decide), ne 3 0 (by decide), ne 3 1 (by decide), ne 0 1 (by decide), m1 4 (by decide), m2 4 (by decide), m1 3 (by decide), m2 3 (by decide), m2 0 (by decide), m1 1 (by decide)⟩
theorem lt_fp {b : Addr} {L : List Addr} (hL : ∀ c ∈ L, c < b) {j : Nat} (hj : j < 5) : ∀ c ∈ (b + j) :: L, c < b + 5 := fun c hc => by
  rcases List.mem_cons.mp hc with rfl | hc
  · exact Nat.add_lt_add_left hj b
  · exact Nat.lt_of_lt_of_le (hL c hc) (Nat.le_add_right _ _)
theorem zip_ll {l1 l2 : Addr} {xs ys : Array Value} {Q : Value → Shared → Prop} (hl1 : s.heap.IsList l1 xs) (hl2 : s.heap.IsList l2 ys) (h1 : xs.size = n) (h2 : ys.size = n)
    (h : ∀ h', ZUp prog w s.heap h' s.heap.objs.size n (fun k v => xs[k]? = some v) (fun k v => ys[k]? = some v) → Q (.ref (s.heap.objs.size + 4)) { s with heap := h' }) : wpAny (model prog w) A (call (.type "zip") [.ref l1, .ref l2]) Q E s := by
  have t1 : l1 < s.heap.objs.size := by obtain ⟨o, e, _⟩ := hl1; exact Heap.lt_size e
  have t2 : l2 < s.heap.objs.size := by obtain ⟨o, e, _⟩ := hl2; exact Heap.lt_size e
  have a1 : ∀ c ∈ [l1], c < s.heap.objs.size := fun c hc => by rw [List.mem_singleton.mp hc]; exact t1
  have a2 : ∀ c ∈ [l2], c < s.heap.objs.size := fun c hc => by rw [List.mem_singleton.mp hc]; exact t2
  refine call_zip_2 hl1 hl2 fun h' hz hTI hTO g1 g2 hsz hk => h h' ⟨[s.heap.objs.size, l1], [s.heap.objs.size + 1, l2], _, _, h1 ▸ nx_list (Nat.ne_of_lt t1) xs, h2 ▸ nx_list (Nat.ne_of_lt (Nat.lt_succ_of_lt t2)) ys, zap t1 a2,
    lt_fp (j := 0) a1 (by decide), lt_fp (j := 1) a2 (by decide), hz, ⟨.inl hz, hTI, _, _, hTO⟩, ⟨g1, hl1.at fun o e => hk l1 o e⟩, ⟨g2, hl2.at fun o e => hk l2 o e⟩, hsz, rfl, hk⟩
noncomputable abbrev zrH2 (h : Heap) (l1 : Addr) (m : Int) : Heap := (zipH1 h l1).push { cls := .type "range_iterator", data := .fields #[rawInt 0, rawInt (Builtin.Range.rangeSize 0 m 1), rawInt 1] }
noncomputable abbrev zrH3 (h : Heap) (l1 : Addr) (m : Int) : Heap := (zrH2 h l1 m).push { cls := .type "tuple", data := .seq #[.ref h.objs.size, .ref (zipH1 h l1).objs.size] }
noncomputable abbrev zrH4 (h : Heap) (l1 : Addr) (m : Int) : Heap := (zrH3 h l1 m).push { cls := .type "tuple", data := .seq #[.none, .none] }
noncomputable abbrev zrH5 (h : Heap) (l1 : Addr) (m : Int) : Heap := (zrH4 h l1 m).push { cls := .type "zip", data := .fields #[.none, .bool false, .bool false, .ref (zrH2 h l1 m).objs.size, .ref (zrH3 h l1 m).objs.size] }
theorem meets_zip_lr (l1 r : Addr) (xs : Array Value) (m : Int) (t u v : Tok) :
    Meets (Builtin.«zip.__new__» ⟨[.type "zip", .ref l1, .ref r], []⟩) (fun _ R s => s.heap.IsList l1 xs ∧ IsRange s.heap r 0 m 1 t u v ∧ Builtin.Range.small 0 m 1 = true ∧
      R (.ok (.ret (.ref (zrH4 s.heap l1 m).objs.size))) { s with heap := zrH5 s.heap l1 m }) :=
  .of_wp fun prog w A R s h => by
    obtain ⟨hp, g, d, tk, os⟩ := s; obtain ⟨hl1, hr, hsm, h⟩ := h
    have hsub := sub_zip
    have hL1 : Heap.IsList (Shared.heap ⟨hp, g, d, tk, os⟩) l1 xs := hl1
    have hR2 : IsRange (Shared.heap ⟨hp.push { cls := .type "list_iterator", data := .fields #[.ref l1, .int 0 0] }, g, d, tk, os⟩) r 0 m 1 t u v := Heap.get?_push_of_some _ hr
    wp_walk using wpAny_pyIter_list hL1, wpAny_pyIter_range hR2 hsm
    exact ⟨_, rfl, h⟩
theorem zip_lr {l1 r : Addr} {xs : Array Value} {t u v : Tok} {Q : Value → Shared → Prop} (hl1 : s.heap.IsList l1 xs) (hr : IsRange s.heap r 0 (n : Int) 1 t u v) (hn : Builtin.Range.small 0 n 1 = true) (h1 : xs.size = n)
    (h : ∀ h', ZUp prog w s.heap h' s.heap.objs.size n (fun k v => xs[k]? = some v) (fun k v => ∃ t, v = .int ((k : Nat) : Int) t) → Q (.ref (s.heap.objs.size + 4)) { s with heap := h' }) : wpAny (model prog w) A (call (.type "zip") [.ref l1, .ref r]) Q E s := by
  have t1 : l1 < s.heap.objs.size := by obtain ⟨o, e, _⟩ := hl1; exact Heap.lt_size e
  refine callType_new F.called_zip (by decide) (F.typeCall_zip_2 _ _) (F.newCall_zip_2 _ _) (fun obj => F.args_object_init_3 obj _ _) F.entry_zip_new (meets_zip_lr l1 r xs n t u v) ⟨hl1, hr, hn, ?_⟩
  have z1 : (zipH1 s.heap l1).objs.size = s.heap.objs.size + 1 := Heap.size_push ..
  have z2 : (zrH2 s.heap l1 n).objs.size = s.heap.objs.size + 2 := by rw [Heap.size_push, z1]
  have z3 : (zrH3 s.heap l1 n).objs.size = s.heap.objs.size + 3 := by rw [Heap.size_push, z2]
  have z4 : (zrH4 s.heap l1 n).objs.size = s.heap.objs.size + 4 := by rw [Heap.size_push, z3]
  have z5 : (zrH5 s.heap l1 n).objs.size = s.heap.objs.size + 5 := by rw [Heap.size_push, z4]
  have g5 : (zrH5 s.heap l1 n).get? (zrH4 s.heap l1 n).objs.size = some _ := Heap.get?_push_size _ rfl
  have g4 : (zrH5 s.heap l1 n).get? (zrH3 s.heap l1 n).objs.size = some _ := Heap.get?_push_of_some _ (Heap.get?_push_size _ rfl)
  have g3 : (zrH5 s.heap l1 n).get? (zrH2 s.heap l1 n).objs.size = some _ := Heap.get?_push_of_some _ (Heap.get?_push_of_some _ (Heap.get?_push_size _ rfl))
  have g2 : (zrH5 s.heap l1 n).get? (zipH1 s.heap l1).objs.size = some _ := Heap.get?_push_of_some _ (Heap.get?_push_of_some _ (Heap.get?_push_of_some _ (Heap.get?_push_size _ rfl)))
  have g1 : (zrH5 s.heap l1 n).get? s.heap.objs.size = some _ := Heap.get?_push_of_some _ (Heap.get?_push_of_some _ (Heap.get?_push_of_some _ (Heap.get?_push_of_some _ (Heap.get?_push_size _ rfl))))
  have hk : ∀ c o, s.heap.get? c = some o → (zrH5 s.heap l1 n).get? c = some o := fun c o x => Heap.get?_push_of_some _ (Heap.get?_push_of_some _ (Heap.get?_push_of_some _ (Heap.get?_push_of_some _ (Heap.get?_push_of_some _ x))))
  show _ ∧ _
  rw [z2, z3, z4] at g5
  rw [z1, z2] at g3
  rw [z3] at g4
  rw [z1] at g2
  rw [z4]
  rw [rangeSize_eq] at g2
  have e0 : ((((n : Int) - 0).toNat : Nat) : Int) = (n : Int) - ((0 : Nat) : Int) := by omega
  rw [e0] at g2
  exact ⟨⟨_, g5, rfl⟩, h _ ⟨[s.heap.objs.size, l1], [s.heap.objs.size + 1], _, _, h1 ▸ nx_list (Nat.ne_of_lt t1) xs, nx_range _ n, zap t1 (L := []) (by intro _ h; cases h),
    lt_fp (j := 0) (fun c hc => by rw [List.mem_singleton.mp hc]; exact t1) (by decide), lt_fp (j := 1) (b := s.heap.objs.size) (L := []) (by intro _ h; cases h) (by decide), g5, ⟨.inl g5, g3, _, _, g4⟩, ⟨⟨_, g1, rfl, rfl⟩, hl1.at fun o e => hk l1 o e⟩, g2, z5, rfl, hk⟩⟩
theorem ZUp.start {h0 : Heap} {b : Addr} {h : Heap} {o : Obj} (U : ZUp prog w h0 h b n P1 P2) : ∃ fp1 fp2 S1 S2, Nx prog w b fp1 n P1 S1 ∧ Nx prog w (b + 1) fp2 n P2 S2 ∧ ZAp (b + 4) (b + 2) (b + 3) b (b + 1) fp1 fp2 ∧ ZNew h0 (b + 5) (b + 4) (b + 2) (b + 3) b (b + 1) fp1 fp2 ∧
    ZI P1 P2 S1 S2 h0 (b + 5) (b + 4) (b + 2) (b + 3) b (b + 1) 0 [] (h.push o) ∧ ZR (h.push o) (b + 4) (b + 2) (b + 3) .none false := by
  obtain ⟨fp1, fp2, S1, S2, N1, N2, D, f1, f2, hz, st, s1, s2, hs, h0s, hk⟩ := U
  have up : ∀ c o', h.get? c = some o' → (h.push o).get? c = some o' := fun c o' e => Heap.get?_push_of_some _ e
  have no : ∀ k, h0.get? (b + k) = none := fun k => Heap.get?_none_of_le (by rw [h0s]; exact Nat.le_add_right _ _)
  have ne : ∀ i j, i ≠ j → b + i ≠ b + j := fun i j h q => h (Nat.add_left_cancel q)
  refine ⟨fp1, fp2, S1, S2, N1, N2, D, ⟨no 5, no 4, no 3, no 0, no 1, ⟨ne 5 4 (by decide), ne 5 3 (by decide), ne 5 0 (by decide), ne 5 1 (by decide)⟩, ne 2 5 (by decide), fun hm => Nat.lt_irrefl _ (f1 _ hm), fun hm => Nat.lt_irrefl _ (f2 _ hm)⟩,
    ⟨?_, N1.keep _ _ _ s1 fun c _ o' e => up c o' e, N2.keep _ _ _ s2 fun c _ o' e => up c o' e, rfl, (fun j a ha => nomatch ha), fun c o' e => up c o' (hk c o' e)⟩, up _ _ hz⟩
  obtain ⟨zr, hTI, x, y, hTO⟩ := st
  refine ⟨?_, up _ _ hTI, x, y, up _ _ hTO⟩
  rcases zr with hz | ⟨T, f, o', hz, hT, hw⟩
  · exact .inl (up _ _ hz)
  · exact .inr ⟨T, f, o', up _ _ hz, up _ _ hT, hw⟩
/-- what was taken -/
noncomputable def ZAll (P1 P2 : Nat → Value → Prop) (h0 h : Heap) (as : List Addr) : Prop := ∀ (j : Nat) (a : Addr), as[j]? = some a → ∃ x y, P1 j x ∧ P2 j y ∧ IsPair h a x y ∧ h0.get? a = none
theorem ZGot.all {h0 h : Heap} {S z TO i1 i2 : Addr} {as : List Addr} (g : ZGot P1 P2 h0 h S z TO i1 i2 as) : ZAll P1 P2 h0 h as := fun j a ha => by
  obtain ⟨x, y, g1, g2, g3, _, _, g6⟩ := g j a ha
  exact ⟨x, y, g1, g2, g3, g6⟩
theorem list_zip {h0 : Heap} {b : Addr} {Q : Value → Shared → Prop} (hh : A.handled = none) (hn : n ≤ sizeLine) (U : ZUp prog w h0 s.heap b n P1 P2)
    (hQ : ∀ h' tk acc c as, (∀ c o, h0.get? c = some o → h'.get? c = some o) → ZAll P1 P2 h0 h' as → as.length = n → h'.get? (b + 5) = some { cls := .type "list", dict := none, data := .seq acc c, slots := #[] } → acc.toList = as.map Value.ref → Q (.ref (b + 5)) { s with heap := h', toks := tk }) :
    wpAny (model prog w) A (call (.type "list") [.ref (b + 4)]) Q E s := by
  have hs : s.heap.objs.size = b + 5 := by obtain ⟨_, _, _, _, _, _, _, _, _, _, _, _, _, hs, _⟩ := U; exact hs
  refine callType_codes (Q₁ := fun obj s₁ => obj = .ref s.heap.objs.size ∧ s₁ = { s with heap := s.heap.push { cls := .type "list", data := .seq #[] } }) PySem.F.called_list (PySem.F.typeCall_list_1 _) PySem.F.entry_list_init
    (code_list_new _ ⟨rfl, rfl⟩) fun obj s₁ h₁ => ?_
  obtain ⟨rfl, rfl⟩ := h₁
  have hS : (s.heap.push { cls := .type "list", data := .seq #[] }).get? s.heap.objs.size = some { cls := .type "list", data := .seq #[] } := Heap.get?_push_size _ rfl
  refine ⟨⟨_, hS, rfl⟩, PySem.F.args_list_init_2 _ _, ?_⟩
  obtain ⟨fp1, fp2, S1, S2, N1, N2, D, N, I, hz⟩ := U.start (o := { cls := .type "list", data := .seq #[] })
  rw [hs] at hS ⊢
  show wpAny _ _ (do let old ← Builtin.List.listItems (.ref (b + 5)); Builtin.List.listUpdate (.ref (b + 5)) (fun _ => #[]); letGo old.toList.reverse; Builtin.List.listExtendWith (.ref (b + 5)) (.ref (b + 4)) .none) _ _ _
  refine wpAny_bind ?_
  unfold Builtin.List.listItems
  refine wpAny_bind (wpAny_seqItems hS rfl (wpAny_pure ?_))
  show wpAny _ _ (updateSeq (b + 5) (fun _ => #[]) >>= fun _ => letGo (#[] : Array Value).toList.reverse >>= fun _ => Builtin.List.listExtendWith (.ref (b + 5)) (.ref (b + 4)) .none) _ _ _
  refine wpAny_bind (wpAny_updateSeq hS rfl ?_)
  have hS₂ := Heap.get?_update_self (Obj.mapSeq (fun _ => (#[] : Array Value))) hS rfl
  have oth : ∀ c o, c ≠ b + 5 → (s.heap.push { cls := .type "list", data := .seq #[] }).get? c = some o → ((s.heap.push { cls := .type "list", data := .seq #[] }).update (b + 5) (Obj.mapSeq (fun _ => (#[] : Array Value)))).get? c = some o :=
    fun c o hc e => (Heap.get?_update_other _ _ (Ne.symm hc)).trans e
  refine wpAny_bind (wpAny_letGo ?_)
  refine zip_extend (A := A.in1) hh N1 N2 D N hn .none (I.upd N1 N2 N ⟨_, hS₂⟩ oth) (oth _ _ N.Sw.1.symm hz) hS₂ fun h' tk acc c as g1 g2 g3 g4 g5 => ?_
  exact ⟨rfl, hQ h' tk acc c as g1 g2.all g3 g4 g5⟩
end
end
end Mine
end

section
open PySem
set_option Elab.async false
set_option maxRecDepth 10000
set_option linter.unusedVariables false
namespace Mine

/-! zip: the words -/
noncomputable def zipD (ds es : List PyData) : List PyData := (ds.zip es).map fun p => .tuple [p.1, p.2]
noncomputable def zipV : List V → Option (List PyData × List PyData)
  | [.dat (.list ds), .dat (.list es)] => if ds.length = es.length ∧ ds.length ≤ big then some (ds, es) else none
  | [.dat (.list ds), .rng lo hi] => if lo = 0 ∧ hi = ds.length ∧ smallR lo hi = true ∧ ds.length ≤ big then some (ds, intsD lo hi) else none
  | _ => none
noncomputable def listZipM (ms : List (M V)) : M V := do
  let vs ← seqS ms
  match zipV vs with
  | some p => mpure (.dat (.list (zipD p.1 p.2)))
  | none => mfail
noncomputable def forZipM (bind : V → M Unit) (body : M Fl) (ms : List (M V)) : M Fl := do
  let vs ← seqS ms
  match vs with
  | [.dat (.list ds), .dat (.list es)] => if ds.length = es.length then forS bind body ((zipD ds es).map .dat) else mfail
  | _ => mfail
theorem zip_len {ds es : List PyData} (h : ds.length = es.length) : (zipD ds es).length = ds.length := by
  unfold zipD; rw [List.length_map, List.length_zip, h, Nat.min_self]
theorem zip_at {ds es : List PyData} {j : Nat} {d e : PyData} (h1 : ds[j]? = some d) (h2 : es[j]? = some e) : (zipD ds es)[j]? = some (.tuple [d, e]) := by
  unfold zipD; rw [List.getElem?_map, List.getElem?_zip_eq_some (z := (d, e)) |>.mpr ⟨h1, h2⟩]; rfl

section
variable {X : Cx} {n : Nat} {env : Env} {P : Prm} {A : Around} {ρ : List Addr} {μ : Mu} {σ : St} {s : Shared}
theorem val_zip (ok : CxOk X) : gval X (Str.ofString "zip") = some (.type "zip") := blt_val ok (by unfold bltNames; decide) (by decide) (by decide +kernel)
/-- what a zip of two things that were given will take -/
structure ZP (h : Heap) (ok : Addr → Prop) (ds es : List PyData) (P1 P2 : Nat → Value → Prop) : Prop where
  len : ds.length = es.length
  g1 : ∀ k v, k < ds.length → P1 k v → ∃ d, ds[k]? = some d ∧ DR h ok d v
  g2 : ∀ k v, k < ds.length → P2 k v → ∃ d, es[k]? = some d ∧ DR h ok d v
theorem W_zipC {vs : List V} {xs : List Value} {ds es : List PyData} {Q : Value → Shared → Prop} {E : Value → Shared → Prop} (hz : zipV vs = some (ds, es)) (hv : VRl s.heap (okOf ρ μ) μ vs xs)
    (h : ∀ h' P1 P2, ZUp X.prog X.w s.heap h' s.heap.objs.size ds.length P1 P2 → ZP s.heap (okOf ρ μ) ds es P1 P2 → ds.length ≤ big → Q (.ref (s.heap.objs.size + 4)) { s with heap := h' }) : wpAny (model X.prog X.w) A (call (.type "zip") xs) Q E s := by
  unfold zipV at hz
  split at hz
  · rename_i ds' es'
    split at hz
    · rename_i hc
      cases hz
      obtain ⟨x, r, rfl, h1, y, r', h4, h5, h6⟩ := hv
      rw [show r = y :: r' from h4, show r' = [] from h6]
      have h1 : DR _ _ _ _ := h1
      have h5 : DR _ _ _ _ := h5
      simp only [DR] at h1 h5
      obtain ⟨a, o, ws, nn, rfl, _, i2, i3, i4, i5⟩ := h1
      obtain ⟨b, o', us, nm, rfl, _, j2, j3, j4, j5⟩ := h5
      have l1 : ws.size = ds.length := by have := i5.length; rwa [Array.length_toList] at this
      have l2 : us.size = ds.length := by have := j5.length; rw [Array.length_toList] at this; rw [this, hc.1]
      refine zip_ll ⟨o, i2, i3, nn, i4⟩ ⟨o', j2, j3, nm, j4⟩ l1 l2 fun h' U => h h' _ _ U ⟨hc.1, fun k v _ e => ?_, fun k v _ e => ?_⟩ hc.2
      · exact i5.getV (by rw [Array.getElem?_toList]; exact e)
      · exact j5.getV (by rw [Array.getElem?_toList]; exact e)
    · cases hz
  · rename_i ds' lo hi
    split at hz
    · rename_i hc
      cases hz
      obtain ⟨rfl, rfl, hs, hb⟩ := hc
      obtain ⟨x, r, rfl, h1, y, r', h4, h5, h6⟩ := hv
      rw [show r = y :: r' from h4, show r' = [] from h6]
      have h1 : DR _ _ _ _ := h1
      simp only [DR] at h1
      obtain ⟨a, o, ws, nn, rfl, _, i2, i3, i4, i5⟩ := h1
      obtain ⟨ra, t, u, v, rfl, _, hr⟩ := h5
      have l1 : ws.size = ds.length := by have := i5.length; rwa [Array.length_toList] at this
      have li : (intsD 0 (ds.length : Int)).length = ds.length := by rw [intsD_length]; omega
      refine zip_lr ⟨o, i2, i3, nn, i4⟩ hr (small_range hs).1 l1 fun h' U => h h' _ _ U ⟨li.symm, fun k v _ e => i5.getV (by rw [Array.getElem?_toList]; exact e), fun k v hk e => ?_⟩ hb
      obtain ⟨t, rfl⟩ := e
      refine ⟨.int (k : Int), ?_, by simp only [DR]; exact ⟨t, rfl⟩⟩
      unfold intsD
      rw [List.getElem?_map, List.getElem?_range (by omega)]
      show some (PyData.int (0 + (k : Int))) = _
      rw [Int.zero_add]
    · cases hz
  · cases hz
theorem ZP.drs {h0 h' : Heap} {ds es : List PyData} {P1 P2 : Nat → Value → Prop} {as : List Addr} {ok : Addr → Prop} (Z : ZP h0 ok ds es P1 P2) (hn : ∀ a, h0.get? a = none → ok a) (hk : ∀ b o, h0.get? b = some o → h'.get? b = some o) (G : ZAll P1 P2 h0 h' as) (hl : as.length = ds.length) : DRs h' ok (zipD ds es) (as.map Value.ref) := by
  refine DRs.of_items (by rw [List.length_map, zip_len Z.len, hl]) fun j d v hd hv => ?_
  rw [List.getElem?_map] at hv
  obtain ⟨a, ha, rfl⟩ := Option.map_eq_some_iff.mp hv
  have hj : j < ds.length := by rw [← hl]; exact (List.getElem?_eq_some_iff.mp ha).1
  obtain ⟨x, y, h1, h2, h3, h4⟩ := G j a ha
  obtain ⟨d1, e1, r1⟩ := Z.g1 j x hj h1
  obtain ⟨d2, e2, r2⟩ := Z.g2 j y hj h2
  rw [zip_at e1 e2] at hd
  cases hd
  have kok : ∀ b o, ok b → h0.get? b = some o → h'.get? b = some o ∧ ok b := fun b o q e => ⟨hk b o e, q⟩
  simp only [DR]
  exact ⟨a, _, _, _, rfl, hn a h4, h3, rfl, rfl, _, _, rfl, DR.mono kok r1, _, _, rfl, DR.mono kok r2, rfl⟩
/-- the inner call -/
theorem Ev_ZipC (ok : CxOk X) {p pos : Pos} {es : List Expr} {ms : List (M V)} {vs : List V} {σ1 : St} {ds fs : List PyData} {Q : Value → Shared → Prop} (he : EvL X n env es ms) (hst : es.all noStar = true) (hk : gKind env (Str.ofString "zip") = true) (ga : Ga n A) (R : Rel X ρ μ env σ s.heap) (e1 : seqS ms σ = some (vs, σ1)) (hz : zipV vs = some (ds, fs))
    (h : ∀ μ1 s1, Step (wrt env) μ μ1 s s1 → Rel X ρ μ1 env σ1 s1.heap → ∀ h' P1 P2, ZUp X.prog X.w s1.heap h' s1.heap.objs.size ds.length P1 P2 → ZP s1.heap (okOf ρ μ1) ds fs P1 P2 → ds.length ≤ big → Q (.ref (s1.heap.objs.size + 4)) { s1 with heap := h' }) :
    wpAny (model X.prog X.w) A (eval (.Call (.Name (Str.ofString "zip") p) es [] pos) env) Q (fun _ _ => False) s := by
  refine Call_name ok R hk (val_zip ok) (PyProof.Rows.callWith_type (star_any hst) (wpAny_mono (W_args (ks := []) he hst .nil ga R e1 rfl) (fun ar s2 z => ?_) fun _ _ z => z))
  obtain ⟨μ2, st2, R2, v2, k2⟩ := z
  rw [show ar.kw = [] from k2, List.nil_append]
  exact W_zipC hz v2 (h μ2 s2 st2 R2)
theorem Ev_ListZip (ok : CxOk X) {p1 p2 pos1 pos2 : Pos} {es : List Expr} {ms : List (M V)} (he : EvL X n env es ms) (hst : es.all noStar = true) (hk1 : gKind env (Str.ofString "list") = true) (hk2 : gKind env (Str.ofString "zip") = true) :
    Ev X n env (.Call (.Name (Str.ofString "list") p1) [.Call (.Name (Str.ofString "zip") p2) es [] pos2] [] pos1) (listZipM ms) := by
  intro A ρ μ σ s ga R v σ' e
  refine mbind_elim e fun vs σ1 e1 q => ?_
  cases hz : zipV vs with
  | none => rw [hz] at q; cases q
  | some p =>
    obtain ⟨ds, fs⟩ := p
    rw [hz] at q
    cases q
    refine Call_name ok R hk1 (val_list ok) (PyProof.Rows.callWith_type rfl ?_)
    refine Calls.evalArgs_plain (Calls.spliced_cons (Ev_ZipC ok he hst hk2 ga R e1 hz fun μ1 s1 st1 R1 h' P1 P2 U Z hb => Calls.spliced_nil ?_))
    rw [List.nil_append]
    refine list_zip ga.handled (Nat.le_trans hb big_le) U fun h2 tk acc c as g1 g2 g3 g4 g5 => ?_
    have hd := Z.drs (fun a ha => R1.okNew ha) g1 g2 g3
    refine post_up st1 (post_new R1 g1 ?_)
    show DR _ _ _ _
    simp only [DR]
    refine ⟨_, _, _, _, rfl, R1.okNew (Heap.get?_none_of_le (Nat.le_add_right _ _)), g4, rfl, rfl, ?_⟩
    rw [g5]; exact hd
end
end Mine
end

section
open PySem
set_option Elab.async false
set_option maxRecDepth 10000
set_option linter.unusedVariables false
namespace Mine

/-! a walk over the pairs of a zip -/
section
variable {X : Cx} {n : Nat} {env : Env} {P : Prm} {A : Around} {ρ : List Addr} {μ μ' : Mu} {σ : St} {s : Shared} {h h' : Heap}
structure ItrT (X : Cx) (A : Around) (ow : List Addr) (μ : Mu) (h₀ : Heap) (ok : Addr → Prop) (I : Addr) (res : List Addr) (ds : List PyData) (h₁ : Heap) : Prop where
  fresh : ∀ a ∈ res, h₀.get? a = none
  keep : ∀ b o, h₀.get? b = some o → h₁.get? b = some o
  walk : ∃ fp wr Pt St Mid, WalksT X.prog X.w A I fp wr ds.length Pt St Mid ∧ (∀ b ∈ wr, b ∈ res) ∧ (∀ b ∈ fp, b ∉ res → b ∉ foot μ ∧ b ∉ ow) ∧ St 0 h₁ ∧ (∀ i vals, i < ds.length → Pt i vals → ∃ ts, ds[i]? = some (.tuple ts) ∧ DRs h₀ ok ts vals.toList) ∧ (∀ i h, St i h → ∀ b ∈ res, ∃ o, h.get? b = some o)

theorem For_loopT {elts : List Expr} {kk : Nat} {tp : Pos} {body : List Stmt} {bind : V → M Unit} {mb : M Fl} (hb : As X n env (.Tuple elts kk tp) bind) (hB : Exs X n env body mb) (ga : Ga n A) (R : Rel X ρ μ env σ s.heap) {I : Addr} {res : List Addr} {ds : List PyData} {h₁ : Heap} {tk : Nat}
    (it : ItrT X A (own env) μ s.heap (okOf ρ μ) I res ds h₁) {f : Fl} {σ' : St} (e : forS bind mb (ds.map .dat) σ = some (f, σ')) :
    codeAny (model X.prog X.w) A (.forLoop (.Tuple elts kk tp) (.ref I) body [] env) (fun r s' => match r with | .ok x => Post X ρ μ env s FlR f σ' x s' | .error _ => False) { s with heap := h₁, toks := tk } := by
  obtain ⟨fp, wr, Pt, Ss, Mid, hW, hwr, hfp, hst, hP, hlive⟩ := it.walk
  have hIρ : ∀ a ∈ res, a ∉ ρ := fun a ha hm => by obtain ⟨o, e⟩ := R.liveR a hm; rw [it.fresh a ha] at e; cases e
  have hIμ : ∀ a ∈ res, a ∉ foot μ := fun a ha hm => by obtain ⟨o, e⟩ := R.liveM a hm; rw [it.fresh a ha] at e; cases e
  have hIo : ∀ a ∈ res, a ∉ own env := fun a ha hm => hIρ a ha (R.own a hm)
  have hIr : ∀ a ∈ res, ∀ j, root μ j ≠ some a := fun a ha j hj => by
    obtain ⟨o, e⟩ := R.rootLive hj
    rw [it.fresh a ha] at e; cases e
  have R₁ : Rel X (res ++ ρ) μ env σ h₁ := Rel.reserve (R.ext it.keep) (h₂ := s.heap) it.fresh R it.keep (hlive 0 h₁ hst)
  have leave : ∀ {σ₂ : St} {h₂ h₃ : Heap}, Rel X (res ++ ρ) μ env σ₂ h₂ → (∀ b o, b ∉ wr → h₂.get? b = some o → h₃.get? b = some o) → Rel X ρ μ env σ₂ h₃ := fun r k =>
    r.leave R.own hIρ hIr fun b o hb e => k b o (fun hm => hb (hwr b hm)) e
  refine codeAny_forLoop_any (fun k s' => ∃ i σ₁, k = ds.length + 1 - i ∧ i ≤ ds.length ∧ Step (wrt env) μ μ s s' ∧ Rel X (res ++ ρ) μ env σ₁ s'.heap ∧ Ss i s'.heap ∧ forS bind mb ((ds.drop i).map .dat) σ₁ = some (f, σ')) ?_ (ds.length + 1)
    ⟨0, σ, rfl, Nat.zero_le _, .grow it.keep, R₁, hst, e⟩
  rintro k s' ⟨i, σ₁, rfl, hi, st, R₂, hSt, e₂⟩
  have off : ∀ {b : Addr} {o : Obj}, s.heap.get? b = some o → b ∉ wr := fun e hm => nomatch (it.fresh _ (hwr _ hm)).symm.trans e
  by_cases hlt : i < ds.length
  · refine hW.item i s' _ _ hlt hSt fun T vals h₂ tk₂ hv hge hT hMid hk₂ => ?_
    refine hW.go elts kk tp i T _ _ _ hMid fun h₃ hSt₃ hk₃ => ?_
    have hT₃ : h₃.IsTuple T vals := by
      obtain ⟨o, e, r⟩ := hT
      exact ⟨o, hk₃ T o (hW.apart i T h₂ hMid) e, r⟩
    replace hk₃ : ∀ b o, b ∉ wr → h₂.get? b = some o → h₃.get? b = some o := hk₃
    have hk : ∀ b o, b ∉ wr → s'.heap.get? b = some o → h₃.get? b = some o := fun b o hb e => hk₃ b o hb (hk₂ b o hb e)
    obtain ⟨ts, hd, hdr⟩ := hP i vals hlt hv
    have hdrop : (ds.drop i).map V.dat = .dat (.tuple ts) :: (ds.drop (i + 1)).map V.dat := by
      rw [List.drop_eq_getElem_cons hlt]
      rw [List.getElem?_eq_getElem hlt] at hd
      rw [Option.some.inj hd]; rfl
    rw [hdrop] at e₂
    simp only [forS] at e₂
    have R₃ : Rel X (res ++ ρ) μ env σ₁ h₃ := R₂.setRes (wr := res) (fun a ha => List.mem_append_left _ ha) hIo (hlive _ _ hSt₃) hIr fun b o hb e => hk b o (fun hm => hb (hwr b hm)) e
    have st₃ : Step (wrt env) μ μ s { s' with heap := h₃, toks := tk₂ } := by
      obtain ⟨hh, tt, es⟩ := st.same
      refine ⟨⟨h₃, tk₂, by rw [es]⟩, fun b o q1 q2 q3 => hk b o (off q1) (st.keep b o q1 q2 q3), fun b o q1 => ?_, List.prefix_refl _, fun _ h => .inl h⟩
      obtain ⟨o', q'⟩ := st.live b o q1
      exact ⟨o', hk b o' (off q1) q'⟩
    have hokT : okOf (res ++ ρ) μ T := R₂.okNew (Heap.get?_none_of_le hge)
    have hv₃ : VR h₃ (okOf (res ++ ρ) μ) μ (.dat (.tuple ts)) (.ref T) := by
      obtain ⟨o, e, hc, nn, hdt⟩ := hT₃
      show DR _ _ _ _
      simp only [DR]
      refine ⟨T, o, vals, nn, rfl, hokT, e, hc, hdt, DRs.mono (fun a o ok q => ⟨st₃.keep a o q ok.2 (fun hm => ok.1 (R.own a (wrt_own hm))), fun hm => ?_, ok.2⟩) hdr⟩
      rcases List.mem_append.mp hm with hm | hm
      · exact nomatch (it.fresh a hm).symm.trans q
      · exact ok.1 hm
    cases hs : scopeM (do bind (.dat (.tuple ts)); mb) σ₁ with
    | none => rw [hs] at e₂; cases e₂
    | some r =>
      obtain ⟨f2, σ₃⟩ := r
      rw [hs] at e₂
      obtain ⟨σm, g1, g2, g3⟩ := scopeM_some hs
      rw [← R₂.len] at g2 g3
      refine mbind_elim g1 fun u σb g4 g5 => ?_
      refine wpAny_mono (hb A _ μ σ₁ { s' with heap := h₃, toks := tk₂ } (.dat (.tuple ts)) (.ref T) ga R₃ hv₃ u σb g4) (fun _ s₄ z => ?_) fun _ _ z => z.elim
      refine post_elim z fun μ₄ st₄ R₄ _ => ?_
      refine wpAny_mono (hB A _ μ₄ σb s₄ ga R₄ _ _ g5) (fun x s₅ z => ?_) fun _ _ z => z.elim
      refine post_elim z fun μ₅ st₅ R₅ v₅ => ?_
      obtain ⟨st₆, R₆, v₆⟩ := post_cut (s := { s' with heap := h₃, toks := tk₂ }) ⟨μ₅, st₄.trans st₅, R₅, v₅⟩ g2 g3
      have hSt₆ : Ss (i + 1) s₅.heap := hW.frame _ _ _ hSt₃ fun b hb o q => by
        by_cases hbI : b ∈ res
        · exact st₆.keep b o q (hIμ b hbI) fun hm => hIo b hbI (wrt_own hm)
        · exact st₆.keep b o q (hfp b hb hbI).1 fun hm => (hfp b hb hbI).2 (wrt_own hm)
      have st₇ := st₃.trans st₆
      cases f2 with
      | next =>
        rw [show x = Flow.next from v₆]
        exact ⟨ds.length + 1 - (i + 1), by omega, i + 1, σ₃, rfl, hlt, st₇, R₆, hSt₆, e₂⟩
      | cont =>
        rw [show x = Flow.cont from v₆]
        exact ⟨ds.length + 1 - (i + 1), by omega, i + 1, σ₃, rfl, hlt, st₇, R₆, hSt₆, e₂⟩
      | brk =>
        rw [show x = Flow.brk from v₆]
        cases e₂
        exact ⟨μ, st₇, leave R₆ fun _ _ _ e => e, rfl⟩
      | ret v =>
        obtain ⟨y, rfl, hy⟩ := v₆
        cases e₂
        refine ⟨μ, st₇, leave R₆ fun _ _ _ e => e, y, rfl, hy.mono (fun _ _ e => e) fun a o ok q => ⟨q, fun hm => ok.1 (List.mem_append_right _ hm), ok.2⟩⟩
  · have hin : i = ds.length := by omega
    subst hin
    rw [List.drop_length] at e₂
    cases e₂
    refine hW.done s' _ _ hSt fun h₂ tk₂ hk₂ => ?_
    refine wpAny_execs_nil ⟨μ, ?_, leave R₂ hk₂, rfl⟩
    obtain ⟨hh, tt, es⟩ := st.same
    refine ⟨⟨h₂, tk₂, by rw [es]⟩, fun b o q1 q2 q3 => hk₂ b o (off q1) (st.keep b o q1 q2 q3), fun b o q1 => ?_, List.prefix_refl _, fun _ h => .inl h⟩
    obtain ⟨o', q'⟩ := st.live b o q1
    exact ⟨o', hk₂ b o' (off q1) q'⟩

theorem zapart {b l1 l2 : Addr} (h1 : l1 < b) (h2 : l2 < b) : ZipApart (b + 4) (b + 2) (b + 3) b (b + 1) l1 l2 := by
  have n1 : ∀ k, l1 ≠ b + k := fun k => Nat.ne_of_lt (Nat.lt_of_lt_of_le h1 (Nat.le_add_right b k))
  have n2 : ∀ k, l2 ≠ b + k := fun k => Nat.ne_of_lt (Nat.lt_of_lt_of_le h2 (Nat.le_add_right b k))
  have ne : ∀ i j, i ≠ j → b + i ≠ b + j := fun i j h q => h (Nat.add_left_cancel q)
  exact ⟨ne 2 4 (by decide), ne 3 4 (by decide), ne 0 4 (by decide), ne 1 4 (by decide), ne 2 3 (by decide), ne 2 0 (by decide), ne 2 1 (by decide), ne 3 0 (by decide), ne 3 1 (by decide), ne 0 1 (by decide), n1 4, n1 3, n1 0, n1 1, n2 4, n2 3, n2 0, n2 1⟩
theorem Ex_ForZip (ok : CxOk X) {elts : List Expr} {kk : Nat} {tp : Pos} {body : List Stmt} {pos p cp : Pos} {bind : V → M Unit} {mb : M Fl} {es : List Expr} {ms : List (M V)} (he : EvL X n env es ms) (hst : es.all noStar = true) (hk : gKind env (Str.ofString "zip") = true) (hb : As X n env (.Tuple elts kk tp) bind) (hB : Exs X n env body mb)
    (hset : ∀ x, foldedSetIterable (.Call (.Name (Str.ofString "zip") p) es [] cp) env x = pure x) :
    Ex X n env (.For (.Tuple elts kk tp) (.Call (.Name (Str.ofString "zip") p) es [] cp) body [] pos) (forZipM bind mb ms) := by
  intro A ρ μ σ s ga R f σ' e
  refine mbind_elim e fun vs σ1 e1 q => ?_
  match vs, e1, q with
  | [.dat (.list ds), .dat (.list fs)], e1, q =>
    have q : (if ds.length = fs.length then forS bind mb ((zipD ds fs).map .dat) else mfail) σ1 = some (f, σ') := q
    by_cases hl : ds.length = fs.length
    · rw [if_pos hl] at q
      refine wpAny_For (Call_name ok R hk (val_zip ok) (PyProof.Rows.callWith_type (star_any hst) (wpAny_mono (W_args (ks := []) he hst .nil ga R e1 rfl) (fun ar s2 z => ?_) fun _ _ z => z))) hset
      refine wrap fun G kG => ?_
      obtain ⟨μ2, st2, R2, ⟨x, r, hx, hv1, y, r', hr, hv2, hr'⟩, k2⟩ := z
      have hv1 : DR _ _ _ _ := hv1
      have hv2 : DR _ _ _ _ := hv2
      simp only [DR] at hv1 hv2
      obtain ⟨a, o, ws, nn, rfl, okA, i2, i3, i4, i5⟩ := hv1
      obtain ⟨b, o', us, nm, rfl, okB, j2, j3, j4, j5⟩ := hv2
      have l1 : ws.size = ds.length := by have := i5.length; rwa [Array.length_toList] at this
      have l2 : us.size = ds.length := by have := j5.length; rw [Array.length_toList] at this; rw [this, hl]
      have hL1 : s2.heap.IsList a ws := ⟨o, i2, i3, nn, i4⟩
      have hL2 : s2.heap.IsList b us := ⟨o', j2, j3, nm, j4⟩
      have t1 := Heap.lt_size i2
      have t2 := Heap.lt_size j2
      refine kG ?_
      clear kG
      rw [show ar.kw = [] from k2, hx, hr, show r' = [] from hr', List.nil_append]
      refine call_zip_2 hL1 hL2 fun h' hz hTI hTO g1 g2 hsz hk' => ?_
      refine wpAny_pyIter_zip hz ?_
      have hW := WalksT.zip2 (prog := X.prog) (w := X.w) ga.handled _ _ _ _ _ _ _ (zapart t1 t2) ws us
      have hmin : min ws.size us.size = (zipD ds fs).length := by rw [l1, l2, Nat.min_self, zip_len hl]
      rw [hmin] at hW
      refine codeAny_mono (For_loopT (tk := s2.toks) hb hB ga R2 (res := [s2.heap.objs.size + 4, s2.heap.objs.size + 2, s2.heap.objs.size + 3, s2.heap.objs.size, s2.heap.objs.size + 1]) ⟨?_, hk', _, _, _, _, _, hW, ?_, ?_, ⟨hz, hTI, ⟨_, _, hTO⟩, g1, g2, hL1.at fun o e => hk' a o e, hL2.at fun o e => hk' b o e⟩, ?_, ?_⟩ q) fun r s'' y => ?_
      · intro c hc
        refine Heap.get?_none_of_le ?_
        simp only [List.mem_cons, List.not_mem_nil, or_false] at hc
        rcases hc with rfl | rfl | rfl | rfl | rfl <;> first | exact Nat.le_add_right _ _ | exact Nat.le_refl _
      · intro c hc
        simp only [List.mem_cons, List.not_mem_nil, or_false] at hc ⊢
        rcases hc with h | h | h | h <;> simp [h]
      · intro c hc hn
        simp only [List.mem_cons, List.not_mem_nil, or_false, not_or] at hc hn
        rcases hc with h | h | h | h | h | rfl | rfl
        · exact absurd h hn.1
        · exact absurd h hn.2.1
        · exact absurd h hn.2.2.1
        · exact absurd h hn.2.2.2.1
        · exact absurd h hn.2.2.2.2
        · exact ⟨okA.2, fun hm => okA.1 (R2.own _ hm)⟩
        · exact ⟨okB.2, fun hm => okB.1 (R2.own _ hm)⟩
      · rintro i vals hi ⟨x, y, hx, hy, rfl⟩
        obtain ⟨d1, e1, r1⟩ := i5.getV (k := i) (v := x) (by rw [Array.getElem?_toList]; exact hx)
        obtain ⟨d2, e2, r2⟩ := j5.getV (k := i) (v := y) (by rw [Array.getElem?_toList]; exact hy)
        exact ⟨_, zip_at e1 e2, _, _, rfl, r1, _, _, rfl, r2, rfl⟩
      · rintro i h ⟨hz, hTI, ⟨_, _, hTO⟩, ⟨o1, e1, _⟩, ⟨o2, e2, _⟩, _⟩ c hc
        simp only [List.mem_cons, List.not_mem_nil, or_false] at hc
        rcases hc with rfl | rfl | rfl | rfl | rfl
        · exact ⟨_, hz⟩
        · exact ⟨_, hTI⟩
        · exact ⟨_, hTO⟩
        · exact ⟨_, e1⟩
        · exact ⟨_, e2⟩
      · cases r with
        | ok x => exact post_up st2 y
        | error x => exact y.elim
    · rw [if_neg hl] at q; cases q
end
section
variable {X : Cx} {n : Nat} {se : Env} {es : List Expr} {ms : List (M V)} {pos p q : Pos}
theorem X_forZip (ok : CxOk X) {elts : List Expr} {kk : Nat} {tp : Pos} {ts : List Stmt} {mT : M Fl} {bind : V → M Unit} (h : EvLR X n se es ms) (hst : es.all noStar = true) (hk : gKind se (Str.ofString "zip") = true) (k' : AsR X n se (.Tuple elts kk tp) bind) (j : ExsR X n se ts mT) (hs' : noSet (.Call (.Name (Str.ofString "zip") p) es [] q) = true) :
    ExR X n se (.For (.Tuple elts kk tp) (.Call (.Name (Str.ofString "zip") p) es [] q) ts [] pos) (forZipM bind mT ms) := fun v hs => Ex_ForZip ok (h v hs) hst (by rw [← hs.gKind]; exact hk) (k' v hs) (j v hs) (folded_no hs')
theorem D_listZip (ok : CxOk X) {p1 p2 pos1 pos2 : Pos} (h : EvLR X n se es ms) (hst : es.all noStar = true) (hk1 : gKind se (Str.ofString "list") = true) (hk2 : gKind se (Str.ofString "zip") = true) : EvR X n se (.Call (.Name (Str.ofString "list") p1) [.Call (.Name (Str.ofString "zip") p2) es [] pos2] [] pos1) (listZipM ms) :=
  fun v hs => Ev_ListZip ok (h v hs) hst (by rw [← hs.gKind]; exact hk1) (by rw [← hs.gKind]; exact hk2)
end
theorem o_forZip {σ σ1 : St} {R : Fl → St → Prop} {bind : V → M Unit} {body b : M Fl} {ms : List (M V)} {ds es : List PyData} (h : Run (seqS ms) σ [.dat (.list ds), .dat (.list es)] σ1) (hl : ds.length = es.length) (k : Ok (forS bind body ((zipD ds es).map .dat)) σ1 (thenQ b R)) : Ok (thenM (forZipM bind body ms) b) σ R :=
  o_then (ok_run h (by show Ok (if ds.length = es.length then _ else _) _ _; rw [if_pos hl]; exact k))
theorem r_listZip {σ σ1 : St} {ms : List (M V)} {ds es : List PyData} (h : Run (seqS ms) σ [.dat (.list ds), .dat (.list es)] σ1) (hl : ds.length = es.length ∧ ds.length ≤ big) : Run (listZipM ms) σ (.dat (.list (zipD ds es))) σ1 := by
  refine run_bind h ?_
  show Run (match (if ds.length = es.length ∧ ds.length ≤ big then some (ds, es) else none) with | some p => mpure (V.dat (.list (zipD p.1 p.2))) | none => mfail) _ _ _
  rw [if_pos hl]; rfl
end Mine
end

section
open PySem
set_option Elab.async false
set_option maxRecDepth 10000
set_option linter.unusedVariables false
namespace Mine

/-! cuts by steps -/
noncomputable def pick3 {α : Type} (lo hi st : Int) (xs : List α) : List α := (sliceRange (sliceBounds (some lo) (some hi) (some st) xs.length).1 (sliceBounds (some lo) (some hi) (some st) xs.length).2.1 (sliceBounds (some lo) (some hi) (some st) xs.length).2.2).filterMap (xs[·]?)
noncomputable def slice3M (o : M V) (lo hi st : Int) : M V := do
  let v ← o
  let d ← readD v
  match d with
  | .list ds => if st ≠ 0 ∧ ds.length ≤ big then mpure (.dat (.list (pick3 lo hi st ds))) else mfail
  | _ => mfail
section
variable {X : Cx} {n : Nat} {env : Env} {P : Prm} {A : Around} {ρ : List Addr} {μ : Mu} {σ : St} {s : Shared}
theorem DRs.pick {h : Heap} {ok : Addr → Prop} {ds : List PyData} {vs : List Value} (e : DRs h ok ds vs) : ∀ idx : List Nat, DRs h ok (idx.filterMap (ds[·]?)) (idx.filterMap (vs[·]?))
  | [] => by simp [DRs]
  | i :: idx => by
    have ih := e.pick idx
    cases hd : ds[i]? with
    | none =>
      have hv : vs[i]? = none := by
        rw [List.getElem?_eq_none_iff] at hd ⊢
        rw [e.length]; exact hd
      rw [List.filterMap_cons_none hd, List.filterMap_cons_none hv]; exact ih
    | some d =>
      obtain ⟨v, hv, r⟩ := e.get hd
      rw [List.filterMap_cons_some hd, List.filterMap_cons_some hv]
      simp only [DRs]
      exact ⟨v, _, rfl, r, ih⟩
theorem Ev_Slice3 {o : Expr} {lo hi st : Int} {k1 k2 k3 : Nat} {p1 p2 p3 p pos : Pos} {mo : M V} (ho : Ev X n env o mo) :
    Ev X n env (.Subscript o (.Slice (some (.Constant (.int lo) k1 p1)) (some (.Constant (.int hi) k2 p2)) (some (.Constant (.int st) k3 p3)) p) pos) (slice3M mo lo hi st) := by
  intro A ρ μ σ s ga R v σ' e
  refine mbind_elim e fun ov σ1 e1 q => ?_
  refine mbind_elim q fun d σ2 e2 q2 => ?_
  have hs := readD_state e2
  subst hs
  match d, q2, e2 with
  | .list ds, q2, e2 =>
    have q2 : (if st ≠ 0 ∧ ds.length ≤ big then mpure (V.dat (.list (pick3 lo hi st ds))) else mfail) _ = some (v, σ') := q2
    by_cases hc : st ≠ 0 ∧ ds.length ≤ big
    · rw [if_pos hc] at q2
      cases q2
      refine PyProof.Rows.Subscript_ ?_
      refine wpAny_mono (ho A ρ μ σ s ga R ov _ e1) (fun x s1 z => ?_) fun _ _ z => z
      refine post_elim z fun μ1 st1 R1 v1 => ?_
      refine wpAny_Slice ?_
      show wpAny _ A (eval (.Constant (.int lo) k1 p1) env) _ _ _
      refine wpAny_mono (Ev_Constant (c := .int lo) A ρ μ1 σ' s1 ga R1 (.dat (.int lo)) σ' rfl) (fun y1 s2 z => ?_) fun _ _ z => z
      refine post_elim z fun μ2 st2 R2 w1 => ?_
      show wpAny _ A (eval (.Constant (.int hi) k2 p2) env) _ _ _
      refine wpAny_mono (Ev_Constant (c := .int hi) A ρ μ2 σ' s2 ga R2 (.dat (.int hi)) σ' rfl) (fun y2 s3 z => ?_) fun _ _ z => z
      refine post_elim z fun μ3 st3 R3 w2 => ?_
      show wpAny _ A (eval (.Constant (.int st) k3 p3) env) _ _ _
      refine wpAny_mono (Ev_Constant (c := .int st) A ρ μ3 σ' s3 ga R3 (.dat (.int st)) σ' rfl) (fun y3 s4 z => ?_) fun _ _ z => z
      refine post_elim z fun μ4 st4 R4 w3 => ?_
      have w1 : DR _ _ _ _ := w1
      have w2 : DR _ _ _ _ := w2
      have w3 : DR _ _ _ _ := w3
      simp only [DR] at w1 w2 w3
      obtain ⟨t1, rfl⟩ := w1
      obtain ⟨t2, rfl⟩ := w2
      obtain ⟨t3, rfl⟩ := w3
      obtain ⟨l, vs, rfl, hL, hds⟩ := list_of_LR (readD_ok R4 (VR.step R3 st4 (VR.step R2 st3 (VR.step R1 st2 v1))) e2).2
      have ln := hds.length
      rw [Array.length_toList] at ln
      have k1 : ∀ b o, s4.heap.get? b = some o → (s4.heap.push { cls := .type "slice", data := .fields #[.int lo t1, .int hi t2, .int st t3] }).get? b = some o := fun b o e => Heap.get?_push_of_some _ e
      have hL' : (s4.heap.push { cls := .type "slice", data := .fields #[.int lo t1, .int hi t2, .int st t3] }).IsList l vs := hL.at fun o e => k1 _ _ e
      refine PyProof.Rows.tail_any (Heap.IsList.typeIs (s := { s4 with heap := s4.heap.push { cls := .type "slice", data := .fields #[.int lo t1, .int hi t2, .int st t3] } }) hL') slot_list_getitem.lookup ?_ (ops := [.ref l, .ref s4.heap.objs.size]) rfl
      refine wpAny_getItem_list_slice hL' (Heap.IsSliceOf.new ..) (.int lo t1) (.int hi t2) (.int st t3) (fun q => hc.1 (Option.some.inj q)) ?_ (by rw [ln]; exact Nat.le_trans hc.2 big_le)
      refine (FreshL.dat (FreshL.trans (.grow (tk := s4.toks) k1) (FreshL.push (R4.ext k1) (ds := pick3 lo hi st ds) ?_)) |> post_up (((st1.trans st2).trans st3).trans st4))
      have hp := (DRs.mono (fun a o ok e => ⟨k1 _ _ e, ok⟩) hds).pick (h := s4.heap.push { cls := .type "slice", data := .fields #[.int lo t1, .int hi t2, .int st t3] }) (sliceRange (sliceBounds (some lo) (some hi) (some st) ds.length).1 (sliceBounds (some lo) (some hi) (some st) ds.length).2.1 (sliceBounds (some lo) (some hi) (some st) ds.length).2.2)
      unfold slicePick
      rw [ln]
      have e5 : (vs[·]? : Nat → Option Value) = (vs.toList[·]?) := by funext k; simp
      rw [e5]
      exact hp
    · rw [if_neg hc] at q2; cases q2

/-! a text times a number -/
noncomputable def repStr (x : Str) (k : Int) : Str := ⟨((List.replicate k.toNat x.cps.toList).flatten).toArray⟩
noncomputable def repSM (a b : M V) : M V := do
  let v ← a
  let w ← b
  match v, w with
  | .dat (.str x), .dat (.int k) => if x.length ≤ 1000 ∧ k.natAbs ≤ 1000 then mpure (.dat (.str (repStr x k))) else mfail
  | _, _ => mfail
theorem fold_app : ∀ (l : List (Array Nat)) (a : Array Nat), (l.foldl (· ++ ·) a).toList = a.toList ++ (l.map Array.toList).flatten
  | [], a => by simp
  | b :: l, a => by rw [List.foldl_cons, fold_app l, Array.toList_append, List.map_cons, List.flatten_cons, List.append_assoc]
theorem txt_mul (x : Str) (k : Int) : Txt.mul x k = repStr x k := by
  unfold Txt.mul repStr
  by_cases h1 : k < 1
  · rw [if_pos h1, show k.toNat = 0 by omega]; rfl
  · rw [if_neg h1]
    by_cases h2 : (k == 1 || x.length == 0) = true
    · rw [if_pos h2]
      rw [Bool.or_eq_true, beq_iff_eq, beq_iff_eq] at h2
      apply Str.ext'
      rcases h2 with h2 | h2
      · subst h2
        show _ = (List.replicate 1 x.cps.toList).flatten
        simp
      · have hx : x.cps.toList = [] := by
          have : x.cps.toList.length = 0 := by rw [Array.length_toList]; exact h2
          exact List.eq_nil_of_length_eq_zero this
        show _ = (List.replicate k.toNat x.cps.toList).flatten
        rw [hx, List.flatten_replicate_nil]
    · rw [if_neg h2]
      apply Str.ext'
      show (List.foldl (· ++ ·) #[] (List.replicate k.toNat x.cps)).toList = _
      rw [fold_app, List.map_replicate]; rfl
theorem asc_rep {x : Str} (h : asc x = true) (k : Int) : asc (repStr x k) = true := by
  unfold asc repStr at *
  rw [List.all_eq_true] at *
  intro c hc
  obtain ⟨l, hl, hc⟩ := List.mem_flatten.mp (show c ∈ (List.replicate k.toNat x.cps.toList).flatten from hc)
  rw [(List.mem_replicate.mp hl).2] at hc
  exact h c hc
theorem Ev_RepS {l r : Expr} {ml mr : M V} {pos : Pos} (hl : Ev X n env l ml) (hr : Ev X n env r mr) : Ev X n env (.BinOp l .Mult r pos) (repSM ml mr) := by
  intro A ρ μ σ s ga R v σ' e
  refine mbind_elim e fun a σ1 e1 q => ?_
  refine mbind_elim q fun b σ2 e2 q2 => ?_
  match a, b, e1, e2, q2 with
  | .dat (.str x), .dat (.int k), e1, e2, q2 =>
    have q2 : (if x.length ≤ 1000 ∧ k.natAbs ≤ 1000 then mpure (V.dat (.str (repStr x k))) else mfail) σ2 = some (v, σ') := q2
    by_cases hc : x.length ≤ 1000 ∧ k.natAbs ≤ 1000
    · rw [if_pos hc] at q2
      cases q2
      rw [arm_eval_BinOp]
      refine wpAny_bind (wpAny_mono (hl A ρ μ σ s ga R _ σ1 e1) (fun xv s1 z => ?_) fun _ _ z => z)
      refine post_elim z fun μ1 st1 R1 v1 => ?_
      refine wpAny_bind (wpAny_holding (wpAny_mono (hr A ρ μ1 σ1 s1 ga R1 _ _ e2) (fun yv s2 z => ?_) fun _ _ z => z))
      refine post_elim z fun μ2 st2 R2 v2 => ?_
      have v1 : DR _ _ _ _ := VR.step R1 st2 v1
      have v2 : DR _ _ _ _ := v2
      simp only [DR] at v1 v2
      obtain ⟨ha, t, rfl⟩ := v1
      obtain ⟨u, rfl⟩ := v2
      refine wpAny_bind (wpAny_standAt (wpAny_operateT ?_))
      have hl3 : x.length * k.toNat ≤ 1000 * 1000 := Nat.mul_le_mul hc.1 (by omega)
      refine SB.mul ⟨by simp; omega, fun h1 _ => ?_, fun _ _ => ?_⟩ fun t' k' => ?_
      · have h3 : (1000 : Int) ≤ (2 ^ 63 - 1) / k := (Int.le_ediv_iff_mul_le (by omega)).mpr (by omega)
        omega
      · unfold Builtin.Str.tooLong
        simp [sizeLine]
        omega
      · rw [txt_mul]
        refine post_up (st1.trans st2) (post_tok R2 _ ?_)
        show DR _ _ _ _
        simp only [DR]
        exact ⟨asc_rep ha k, _, rfl⟩
    · rw [if_neg hc] at q2; cases q2
/-! sum -/
noncomputable def sumD : List PyData → Option Int
  | [] => some 0
  | .int i :: r => (sumD r).map (i + ·)
  | _ => none
noncomputable def sumB : List V → M V
  | [.dat (.list ds)] => mopt (if ds.length ≤ big then (sumD ds).map fun i => .dat (.int i) else none)
  | _ => mfail
theorem val_sum (ok : CxOk X) : gval X (Str.ofString "sum") = some (.builtin "sum") := blt_val ok (by unfold bltNames; decide) (by decide) (by decide +kernel)
noncomputable def intAt (ds : List PyData) (i : Nat) : Int := match ds[i]? with
  | some (.int j) => j
  | _ => 0
theorem preSum_shift (f : Nat → Int) : ∀ n : Nat, preSum f (n + 1) = f 0 + preSum (fun i => f (i + 1)) n
  | 0 => by simp [preSum]
  | n + 1 => by
    show preSum f (n + 1) + f (n + 1) = f 0 + (preSum (fun i => f (i + 1)) n + f (n + 1))
    rw [preSum_shift f n, Int.add_assoc]
theorem sumD_pre : ∀ {ds : List PyData} {i : Int}, sumD ds = some i → preSum (intAt ds) ds.length = i ∧ ∀ d ∈ ds, ∃ j, d = .int j
  | [], i, h => by cases h; exact ⟨rfl, fun _ h => nomatch h⟩
  | d :: ds, i, h => by
    cases d with
    | int j =>
      obtain ⟨k, hk, rfl⟩ := Option.map_eq_some_iff.mp h
      obtain ⟨h1, h2⟩ := sumD_pre hk
      refine ⟨?_, fun d hd => ?_⟩
      · rw [List.length_cons, preSum_shift]
        show j + preSum (fun i => intAt (PyData.int j :: ds) (i + 1)) ds.length = j + k
        rw [← h1]; rfl
      · rcases List.mem_cons.mp hd with rfl | hd
        · exact ⟨_, rfl⟩
        · exact h2 d hd
    | _ => cases h
theorem W_sumB (ga : Ga (n + 1) A) (R : Rel X ρ μ env σ s.heap) {vs : List V} {xs : List Value} (hv : VRl s.heap (okOf ρ μ) μ vs xs) : W X A ρ μ env s VRr (call (.builtin "sum") xs []) (sumB vs σ) := by
  intro v σ' q
  match vs, q, hv with
  | [.dat (.list ds)], q, hv =>
    obtain ⟨q1, h2⟩ := mopt_some q
    subst h2
    split at q1
    · rename_i hb
      obtain ⟨i, hi, rfl⟩ := Option.map_eq_some_iff.mp q1
      obtain ⟨x, r, rfl, h1, hr⟩ := hv
      rw [show r = [] from hr]
      have h1 : DR _ _ _ _ := h1
      simp only [DR] at h1
      obtain ⟨a, o, ws, nn, rfl, ok, i2, i3, i4, i5⟩ := h1
      obtain ⟨e1, e2⟩ := sumD_pre hi
      have ln := i5.length
      rw [Array.length_toList] at ln
      have hL : s.heap.IsList a ws := ⟨o, i2, i3, nn, i4⟩
      refine call_sum_walkAnyS (wpAny_pyIter_list hL ?_)
      refine ⟨s.heap.objs.size, _, _, _, ws.size, _, _, intAt ds, rfl, (Walks.list (A := A.in1) ga.handled s.heap.objs.size a (Nat.ne_of_lt (Heap.lt_size i2)) ws).toS, ⟨⟨_, Heap.get?_push_size _ rfl, rfl, rfl⟩, hL.at fun o e => Heap.get?_push_of_some _ e⟩, ?_, ?_, fun s' t' hm => ?_⟩
      · intro b hb
        show b < (s.heap.push _).objs.size
        rw [Heap.size_push]
        simp only [List.mem_cons, List.not_mem_nil, or_false] at hb
        rcases hb with rfl | rfl
        · exact Nat.lt_succ_self _
        · exact Nat.lt_succ_of_lt (Heap.lt_size i2)
      · intro j w hj
        obtain ⟨d, hd, rd⟩ := i5.getV (k := j) (v := w) (by rw [Array.getElem?_toList]; exact hj)
        obtain ⟨m, rfl⟩ := e2 d (List.mem_of_getElem? hd)
        simp only [DR] at rd
        obtain ⟨t, rfl⟩ := rd
        refine ⟨t, ?_⟩
        unfold intAt
        rw [hd]
      · rw [Moved.eq_with hm]
        refine post_new (tk := s'.toks) R (fun b o e => hm.heap b o (fun hI => absurd (Heap.lt_size e) (by rw [List.mem_singleton.mp hI]; exact Nat.lt_irrefl _)) (Heap.get?_push_of_some _ e)) ?_
        rw [ln, e1]
        exact VR_int
    · cases q1
/-! dicts: their length, and whether they differ -/
noncomputable def lenDB : List V → M V
  | [v] => fun σ => match v with
    | .obj j => (match (σ.heap[j]?).bind udI with
      | some kvs => if kvs.length ≤ big then some (.dat (.int kvs.length), σ) else none
      | none => none)
    | _ => none
  | _ => mfail
theorem W_lenDB (R : Rel X ρ μ env σ s.heap) {vs : List V} {xs : List Value} (hv : VRl s.heap (okOf ρ μ) μ vs xs) : W X A ρ μ env s VRr (call (.builtin "len") xs []) (lenDB vs σ) := by
  intro v σ' q
  match vs, q, hv with
  | [w0], q, hv =>
    cases w0 with
    | dat _ => cases q
    | rng _ _ => cases q
    | emp => cases q
    | obj j =>
    have q : (match (σ.heap[j]?).bind udI with
      | some kvs => if kvs.length ≤ big then some (V.dat (.int kvs.length), σ) else none
      | none => none) = some (v, σ') := q
    cases hu : (σ.heap[j]?).bind udI with
    | none => rw [hu] at q; cases q
    | some kvs =>
      rw [hu] at q
      have q : (if kvs.length ≤ big then some (V.dat (.int kvs.length), σ) else none) = some (v, σ') := q
      by_cases hb : kvs.length ≤ big
      · rw [if_pos hb] at q
        cases q
        obtain ⟨x, r, hx, hvx, hr⟩ := hv
        rw [hx, show r = [] from hr]
        obtain ⟨o, h3, h4⟩ := bind_un hu
        rw [duI.un _ _ h4] at h3
        obtain ⟨a, kws, rfl, g2, g3, g4, g5, g6⟩ := dct_at dkI R hvx h3
        have hlen : kws.length = kvs.length := by have := congrArg List.length g5; rwa [List.length_map, List.length_map] at this
        refine call_len_dict g3 g4 (by rw [hlen]; unfold big at hb; omega) ?_
        rw [hlen]
        exact post_tok R _ VR_int
      · rw [if_neg hb] at q; cases q
noncomputable def strD : PyData → Bool
  | .str _ => true
  | _ => false
noncomputable def eqKv (ka kb : List (Int × PyData)) : Bool := ka.length == kb.length && ka.all fun kv => match valD kb kv.1 with
  | some d => PyData.eqv kv.2 d
  | none => false
noncomputable def neDS (a b : V) : M V := fun σ => match a, b with
  | .obj i, .obj j => (match (σ.heap[i]?).bind udI, (σ.heap[j]?).bind udI with
    | some ka, some kb => if (ka.all fun kv => strD kv.2) && (kb.all fun kv => strD kv.2) then some (.dat (.bool (!eqKv ka kb)), σ) else none
    | _, _ => none)
  | _, _ => none
noncomputable def neDM (a b : M V) : M V := do
  let v ← a
  let w ← b
  neDS v w
theorem flat_str {h : Heap} {ok : Addr → Prop} {d : PyData} {v : Value} (hd : strD d = true) (r : DR h ok d v) : PyProof.V.Flat v d := by
  cases d with
  | str x =>
    simp only [DR] at r
    obtain ⟨_, t, rfl⟩ := r
    exact PyProof.V.Flat.str x t
  | _ => cases hd
theorem valD_mem {K : Type} [DecidableEq K] {kvs : List (K × PyData)} {k : K} {d : PyData} (h : valD kvs k = some d) : ∃ kv ∈ kvs, kv.2 = d := by
  unfold valD at h
  obtain ⟨kv, h1, h2⟩ := Option.map_eq_some_iff.mp h
  exact ⟨kv, List.mem_of_find?_eq_some h1, h2⟩
theorem hits_of {B : Around} {kb : List (Int × PyData)} {wb : List (Int × Value)} (eb : wb.map (·.1) = kb.map (·.1)) (qb : DRs s.heap (okOf ρ μ) (kb.map (·.2)) (wb.map (·.2))) (sb : (kb.all fun kv => strD kv.2) = true) :
    ∀ {ka : List (Int × PyData)} {wa : List (Int × Value)}, wa.map (·.1) = ka.map (·.1) → DRs s.heap (okOf ρ μ) (ka.map (·.2)) (wa.map (·.2)) → (ka.all fun kv => strD kv.2) = true →
      W.KeqHits B s wb wa (ka.all fun kv => match valD kb kv.1 with | some d => PyData.eqv kv.2 d | none => false)
  | [], [], _, _, _ => .nil
  | [], _ :: _, e, _, _ => nomatch e
  | _ :: _, [], e, _, _ => nomatch e
  | (k, d) :: ka, (k', v) :: wa, e, q, sa => by
    have e1 : k' = k := (List.cons.inj e).1
    subst e1
    obtain ⟨v', r, e3, h1, h2⟩ := (show ∃ v' r, v :: wa.map (·.2) = v' :: r ∧ DR s.heap (okOf ρ μ) d v' ∧ DRs s.heap (okOf ρ μ) (ka.map (·.2)) r from q)
    obtain ⟨rfl, rfl⟩ := List.cons.inj e3
    rw [List.all_cons, Bool.and_eq_true] at sa
    have ih := hits_of (B := B) eb qb sb (List.cons.inj e).2 h2 sa.2
    have hsp := DRs.split eb qb k'
    rw [List.all_cons]
    cases hw : valueAt wb k' with
    | none =>
      cases hk : valD kb k' with
      | none => exact .miss hw
      | some d' => rw [hw, hk] at hsp; exact hsp.elim
    | some y =>
      cases hk : valD kb k' with
      | none => rw [hw, hk] at hsp; exact hsp.elim
      | some d' =>
        rw [hw, hk] at hsp
        obtain ⟨kv, hm, rfl⟩ := valD_mem hk
        exact .hit hw (W.keq_flat (flat_str sa.1 h1) (flat_str (List.all_eq_true.mp sb kv hm) hsp)) ih
theorem W_neDS (ga : Ga (n + 1) A) (R : Rel X ρ μ env σ s.heap) {a b : V} {x y : Value} (ha : VR s.heap (okOf ρ μ) μ a x) (hb : VR s.heap (okOf ρ μ) μ b y) : W X A ρ μ env s VRr (compareOp .NotEq x y) (neDS a b σ) := by
  intro r σ' e
  unfold neDS at e
  split at e
  · rename_i i j
    split at e
    · rename_i ka kb h1 h2
      split at e
      · rename_i hs
        cases e
        rw [Bool.and_eq_true] at hs
        obtain ⟨o1, h3, h4⟩ := bind_un h1
        obtain ⟨o2, h5, h6⟩ := bind_un h2
        rw [duI.un _ _ h4] at h3
        rw [duI.un _ _ h6] at h5
        obtain ⟨a1, wa, rfl, f2, f3, f4, f5, f6⟩ := dct_at dkI R ha h3
        obtain ⟨a2, wb, rfl, g2, g3, g4, g5, g6⟩ := dct_at dkI R hb h5
        have l1 : wa.length = ka.length := by have := congrArg List.length f5; rwa [List.length_map, List.length_map] at this
        have l2 : wb.length = kb.length := by have := congrArg List.length g5; rwa [List.length_map, List.length_map] at this
        refine W.keq_ne f3 g3 f4 g4 (by have := ga.units; unfold cLine; omega) (fun _ => hits_of g5 g6 hs.2 f5 f6 hs.1) ?_
        rw [l1, l2]
        refine post_same R ?_
        show DR _ _ _ _
        simp only [DR]; rfl
      · cases e
    · cases e
  · cases e
theorem Te_NeD {l r : Expr} {pos : Pos} {ml mr : M V} (hl : Ev X (n + 1) env l ml) (hr : Ev X (n + 1) env r mr) (hm : noMark .NotEq r = true) : Te X (n + 1) env (.Compare l [.NotEq] [r] pos) (truT (neDM ml mr)) := by
  intro A ρ μ σ s ga R t σ' e
  have hm' : behindInMarks .NotEq r = false := by unfold noMark at hm; simpa using hm
  refine mbind_elim e fun v σ3 e0 q3 => ?_
  refine mbind_elim e0 fun a σ1 e1 q => ?_
  refine mbind_elim q fun b σ2 e2 q2 => ?_
  refine wpAny_isTrue_Compare1 ?_ hm'
  refine wpAny_mono (hl A ρ μ σ s ga R a σ1 e1) (fun x s1 z => ?_) fun _ _ z => z
  refine post_elim z fun μ1 st1 R1 v1 => ?_
  refine wpAny_mono (hr A ρ μ1 σ1 s1 ga R1 b σ2 e2) (fun y s2 z => ?_) fun _ _ z => z
  refine post_elim z fun μ2 st2 R2 v2 => ?_
  refine wpAny_mono (W_neDS ga R2 (VR.step R1 st2 v1) v2 v σ3 q2) (fun c s3 z => ?_) fun _ _ z => z
  refine post_elim z fun μ3 st3 R3 v3 => ?_
  exact wpAny_mono (W_truthS R3 v3 t σ' q3) (fun c s3 z => post_up ((st1.trans st2).trans st3) z) fun _ _ z => z
end
section
variable {X : Cx} {n : Nat} {se : Env} {o l r : Expr} {a c : M V} {es : List Expr} {ms : List (M V)} {pos p : Pos}
theorem D_slice3 {lo hi st : Int} {k1 k2 k3 : Nat} {p1 p2 p3 : Pos} (h : EvR X n se o a) : EvR X n se (.Subscript o (.Slice (some (.Constant (.int lo) k1 p1)) (some (.Constant (.int hi) k2 p2)) (some (.Constant (.int st) k3 p3)) p) pos) (slice3M a lo hi st) := fun v hs => Ev_Slice3 (h v hs)
theorem D_repS (h : EvR X n se l a) (k : EvR X n se r c) : EvR X n se (.BinOp l .Mult r pos) (repSM a c) := fun v hs => Ev_RepS (h v hs) (k v hs)
theorem D_sum (ok : CxOk X) (h : EvLR X (n + 1) se es ms) (hst : es.all noStar = true) (hk : gKind se (Str.ofString "sum") = true) : EvR X (n + 1) se (.Call (.Name (Str.ofString "sum") p) es [] pos) (bltM sumB ms) := fun v hs => Ev_BltB ok (val_sum ok) (h v hs) hst (by rw [← hs.gKind]; exact hk) fun ga R hv => W_sumB ga R hv
theorem D_lenD (ok : CxOk X) (h : EvLR X (n + 1) se es ms) (hst : es.all noStar = true) (hk : gKind se (Str.ofString "len") = true) : EvR X (n + 1) se (.Call (.Name (Str.ofString "len") p) es [] pos) (bltM lenDB ms) := fun v hs => Ev_BltB ok (val_len ok) (h v hs) hst (by rw [← hs.gKind]; exact hk) fun ga R hv => W_lenDB R hv
theorem T_neDI (h : EvR X (n + 1) se l a) (k : EvR X (n + 1) se r c) (hm : noMark .NotEq r = true) : TeR X (n + 1) se (.Compare l [.NotEq] [r] pos) (truT (neDM a c)) := fun v hs => Te_NeD (h v hs) (k v hs) hm
end
section
variable {l l1 l2 : Str → Option V} {hp h1 h2 : List AObj} {σ σ1 σ2 : St}
theorem r_slice3 {o : M V} {v : V} {ds : List PyData} {lo hi st : Int} (ho : Run o σ v σ1) (hd : Rd v σ1 (.list ds)) (hb : st ≠ 0 ∧ ds.length ≤ big) : Run (slice3M o lo hi st) σ (.dat (.list (pick3 lo hi st ds))) σ1 := by
  refine run_bind ho (run_bind hd ?_)
  show Run (if st ≠ 0 ∧ ds.length ≤ big then mpure (V.dat (.list (pick3 lo hi st ds))) else mfail) _ _ _
  rw [if_pos hb]; rfl
theorem r_repS {a b : M V} {x : Str} {k : Int} (ha : Run a σ (.dat (.str x)) σ1) (hb : Run b σ1 (.dat (.int k)) σ2) (hc : x.length ≤ 1000 ∧ k.natAbs ≤ 1000) : Run (repSM a b) σ (.dat (.str (repStr x k))) σ2 := by
  refine run_bind ha (run_bind hb ?_)
  show Run (if x.length ≤ 1000 ∧ k.natAbs ≤ 1000 then mpure (V.dat (.str (repStr x k))) else mfail) _ _ _
  rw [if_pos hc]; rfl
theorem sumD_map : ∀ ns : List Int, sumD (ns.map .int) = some ns.sum
  | [] => rfl
  | i :: ns => by
    show (sumD (ns.map .int)).map (i + ·) = _
    rw [sumD_map ns]; rfl
theorem f_sum {ns : List Int} (h : ns.length ≤ big) : Run (sumB [.dat (.list (ns.map .int))]) σ (.dat (.int ns.sum)) σ := by
  show mopt _ σ = _
  rw [if_pos (by rw [List.length_map]; exact h), sumD_map]; rfl
theorem f_lenD {j : Nat} {kvs : List (Int × PyData)} (hj : hp[j]? = some (.dctI kvs)) (h : kvs.length ≤ big) : Run (lenDB [.obj j]) ⟨l, hp⟩ (.dat (.int kvs.length)) ⟨l, hp⟩ := by
  unfold Run lenDB
  simp only [hj, Option.bind_some, udI, if_pos h]
theorem r_neD {a b : M V} {i j : Nat} {ka kb : List (Int × PyData)} (ha : Run a σ (.obj i) σ1) (hb : Run b σ1 (.obj j) ⟨l2, h2⟩) (hi : h2[i]? = some (.dctI ka)) (hj : h2[j]? = some (.dctI kb)) (hs : ((ka.all fun kv => strD kv.2) && (kb.all fun kv => strD kv.2)) = true) : Run (neDM a b) σ (.dat (.bool (!eqKv ka kb))) ⟨l2, h2⟩ := by
  refine run_bind ha (run_bind hb ?_)
  unfold Run neDS
  simp only [hi, hj, Option.bind_some, udI, if_pos hs]
end
end Mine
end

section
open PySem
set_option Elab.async false
set_option maxRecDepth 10000
set_option linter.unusedVariables false
namespace Mine

/-! l[i] += v on a list -/
noncomputable def getL (ov iv : V) : M PyData := fun σ => match ov, iv with
  | .obj l, .dat (.int k) => (match σ.heap[l]? with
    | some (.lst ds) => if 0 ≤ k ∧ k ≤ 1000 then (ds[k.toNat]?).map (·, σ) else none
    | _ => none)
  | _, _ => none
noncomputable def augLM (Q : Prm) (o i : M V) (op : Operator) (m : M V) : M Fl := do
  let ov ← o
  let iv ← i
  let old ← getL ov iv
  let v ← m
  let b ← asDat v
  let d ← mopt (binD op old b)
  setItemS Q ov iv (.dat d)
  mpure .next
section
variable {X : Cx} {n : Nat} {env : Env} {P : Prm} {A : Around} {ρ : List Addr} {μ : Mu} {σ : St} {s : Shared}
theorem W_getL (R : Rel X ρ μ env σ s.heap) {ov iv : V} {x y : Value} (ho : VR s.heap (okOf ρ μ) μ ov x) (hi : VR s.heap (okOf ρ μ) μ iv y) {d : PyData} {σ' : St} (e : getL ov iv σ = some (d, σ')) :
    wpAny (model X.prog X.w) A (getItem x y) (Post X ρ μ env s VRr (.dat d) σ') (fun _ _ => False) s := by
  unfold getL at e
  split at e
  · rename_i l k
    split at e
    · rename_i ds hl
      split at e
      · rename_i hk
        obtain ⟨d', h1, h2⟩ := Option.map_eq_some_iff.mp e
        cases h2
        obtain ⟨p, g1, vs, mm, g2, g3, g4⟩ := R.objs l _ hl
        obtain ⟨a, h1', rfl⟩ := ho
        rw [root_some g1] at h1'; cases h1'
        have hi : DR _ _ _ _ := hi
        simp only [DR] at hi
        obtain ⟨t, rfl⟩ := hi
        obtain ⟨v, hv, hdv⟩ := g4.get h1
        have hL : s.heap.IsList p.1 vs := ⟨_, g3, rfl, mm, rfl⟩
        exact wpAny_getItem_list hL hk.1 (by omega) (by rw [← Array.getElem?_toList]; exact hv) (post_same R hdv)
      · cases e
    · cases e
  · cases e
theorem Ex_AugL (ok : CxOk X) (pok : PrmOk X n P) {o i e : Expr} {tp pos : Pos} {op : Operator} {mo mi m : M V} (ho : Ev X (n + 1) env o mo) (hi : Ev X (n + 1) env i mi) (hs : noSlice i = true) (he : Ev X (n + 1) env e m) (hop : augOk op = true) :
    Ex X (n + 1) env (.AugAssign (.Subscript o i tp) op e pos) (augLM P mo mi op m) := by
  intro A ρ μ σ s ga R r σ' q
  refine mbind_elim q fun ov σ1 e1 q1 => ?_
  refine mbind_elim q1 fun iv σ2 e2 q2 => ?_
  refine mbind_elim q2 fun old σ3 e3 q3 => ?_
  refine mbind_elim q3 fun v σ4 e4 q4 => ?_
  refine mbind_elim q4 fun b σ5 e5 q5 => ?_
  refine mbind_elim q5 fun d σ6 e6 q6 => ?_
  refine mbind_elim q6 fun u σ7 e7 q7 => ?_
  cases q7
  obtain ⟨e6', h6⟩ := mopt_some e6
  cases v with
  | dat v =>
    cases e5
    subst h6
    refine wpAny_AugAssign_SubscriptAny ?_ (by cases i <;> first | (intros; rfl) | cases hs)
    refine wpAny_mono (ho A ρ μ σ s ga R ov σ1 e1) (fun x s1 z => ?_) fun _ _ z => z.elim
    refine post_elim z fun μ1 st1 R1 v1 => ?_
    refine wpAny_mono (hi A ρ μ1 σ1 s1 ga R1 iv σ2 e2) (fun y s2 z => ?_) fun _ _ z => z.elim
    refine post_elim z fun μ2 st2 R2 v2 => ?_
    refine wpAny_mono (W_getL R2 (VR.step R1 st2 v1) v2 e3) (fun w s3 z => ?_) fun _ _ z => z.elim
    refine post_elim z fun μ3 st3 R3 v3 => ?_
    refine wpAny_mono (he A ρ μ3 σ3 s3 ga R3 _ _ e4) (fun w2 s4 z => ?_) fun _ _ z => z.elim
    refine post_elim z fun μ4 st4 R4 v4 => ?_
    refine wpAny_mono (W_inplace hop R4 (VR.step R3 st4 v3) v4 e6') (fun w3 s5 z => ?_) fun _ _ z => z.elim
    refine post_elim z fun μ5 st5 R5 v5 => ?_
    refine wpAny_mono (W_setItemS ok pok ga R5 (VR.step R4 st5 (VR.step R3 st4 (VR.step R2 st3 (VR.step R1 st2 v1)))) (VR.step R4 st5 (VR.step R3 st4 (VR.step R2 st3 v2))) v5 u _ e7) (fun _ s6 z => ?_) fun _ _ z => z.elim
    refine post_elim z fun μ6 st6 R6 _ => ?_
    exact ⟨μ6, ((((st1.trans st2).trans st3).trans st4).trans st5).trans st6, R6, rfl⟩
  | _ => cases e5
end
section
variable {X : Cx} {n : Nat} {se : Env} {o i e : Expr} {a c m : M V} {P : Prm} {pos p : Pos}
theorem X_augIt (ok : CxOk X) (pok : PrmOk X n P) {op : Operator} (h : EvR X (n + 1) se o a) (k : EvR X (n + 1) se i c) (hs' : noSlice i = true) (j : EvR X (n + 1) se e m) (hop : augOk op = true) : ExR X (n + 1) se (.AugAssign (.Subscript o i p) op e pos) (augLM P a c op m) := fun v hs => Ex_AugL ok pok (h v hs) (k v hs) hs' (j v hs) hop
end
section
variable {Q : Prm} {l l1 l2 : Str → Option V} {hp h1 h2 : List AObj} {σ σ1 σ2 : St} {R : Fl → St → Prop}
theorem o_augL {o i m : M V} {b : M Fl} {op : Operator} {j k : Nat} {ds : List PyData} {d e r : PyData} (ho : Run o σ (.obj j) σ1) (hi : Run i σ1 (.dat (.int (k : Int))) ⟨l2, h2⟩) (hj : h2[j]? = some (.lst ds)) (hd : ds[k]? = some d) (hm : Run m ⟨l2, h2⟩ (.dat e) ⟨l2, h2⟩) (hr : binD op d e = some r) (hk : k ≤ 1000 ∧ ds.length ≤ big)
    (q : Ok b ⟨l2, h2.set j (.lst (ds.set k r))⟩ R) : Ok (thenM (augLM Q o i op m) b) σ R := by
  have hlt : k < ds.length := (List.getElem?_eq_some_iff.mp hd).1
  have g : Run (getL (.obj j) (.dat (.int (k : Int)))) ⟨l2, h2⟩ d ⟨l2, h2⟩ := by
    unfold Run getL
    simp only [hj]
    rw [if_pos ⟨by omega, by omega⟩, Int.toNat_natCast, hd]; rfl
  have w := s_lst (Q := Q) (l := l2) (k := (k : Int)) (d := r) hj ⟨by omega, by omega, hk.2⟩
  rw [Int.toNat_natCast] at w
  refine o_then ⟨_, _, run_bind ho (run_bind hi (run_bind g (run_bind hm (run_bind (show Run (asDat (.dat e)) ⟨l2, h2⟩ e ⟨l2, h2⟩ from rfl) (run_bind (show Run (mopt (binD op d e)) ⟨l2, h2⟩ r ⟨l2, h2⟩ by rw [hr]; rfl) (run_bind w rfl)))))), q⟩
end
end Mine
end

section
open PySem PySem.W PyProof.Rows
set_option Elab.async false
set_option maxRecDepth 100000
set_option maxHeartbeats 8000000
namespace Mine
open_top hd for PySem.Challenge.rw_dn0264_12
end Mine
end

section
open PySem
set_option Elab.async false
set_option maxRecDepth 10000
set_option linter.unusedVariables false
namespace Mine
noncomputable def law12_r1 (Q : Prm) : M Fl := thenM (asgM x_told (imM Q (nameS x_table) x_values [] [])) (thenM (ifM (allTS .Or [truT (cmpM Q .In (datM (.str (Str.ofString "0"))) (nameS x_told)), truT (cmpM Q .NotEq (bltM sumB [lcM (fscope [(x_dot0, .local), (x_value, .local), (x_int, .globalImplicit)]) (setLoc x_value) [] (bltM intB [nameS x_value]) (nameS x_told)]) (nameS x_total))]) (thenM (retM (datM (.bool false))) (endM)) (endM)) (endM))
noncomputable def law12_b2 (Q : Prm) : M Fl := thenM (asgM x_product (binM .Mult (itemM Q (nameS x_one) (nameS x_left)) (itemM Q (nameS x_two) (nameS x_right)))) (thenM (augLM Q (nameS x_plain) (binM .Add (nameS x_left) (nameS x_right)) .Add (nameS x_product)) (thenM (augM x_total .Add (nameS x_product)) (thenM (asgM x_letter (ifxM (truT (cmpM Q .Eq (binM .Mod (nameS x_left) (datM (.int 2))) (datM (.int 0)))) (datM (.str (Str.ofString "x"))) (datM (.str (Str.ofString "X"))))) (thenM (asgM x_name (repSM (nameS x_letter) (binM .Add (nameS x_left) (nameS x_right)))) (thenM (asgM x_amount (binM .Add (bltM intB [imM Q (nameS x_table) x_get [strM sw (nameS x_name), datM (.str (Str.ofString "0"))] []]) (nameS x_product))) (thenM (ifM (truT (cmpM Q .Eq (nameS x_amount) (datM (.int 0)))) (thenM (delM Q (nameS x_table) (nameS x_name)) (endM)) (thenM (asgItM Q (nameS x_table) (nameS x_name) (bltM strB [nameS x_amount])) (endM))) (law12_r1 Q)))))))
noncomputable def law12_b3 (Q : Prm) : M Fl := thenM (forM (setLoc x_right) (law12_b2 Q) (bltM rangeB [bltM (lenB Q) [nameS x_two]])) (endM)
noncomputable def law12_b4 (Q : Prm) : M Fl := thenM (asgDM .dctI udI kyI (nameS x_ends) (bltM (lenB Q) [nameS x_name]) (nameS x_value)) (endM)
noncomputable def law12_b5 (Q : Prm) : M Fl := thenM (ifM (truT (cmpM Q .NotEq (itemM Q (nameS x_plain) (nameS x_place)) (datM (.int 0)))) (thenM (asgDM .dctI udI kyI (nameS x_right) (nameS x_place) (bltM strB [itemM Q (nameS x_plain) (nameS x_place)])) (endM)) (endM)) (endM)
noncomputable def law12_r6 (Q : Prm) : M Fl := thenM (retM (cmpM Q .Eq (listZipM [imM Q (nameS x_table) x_keys [] [], imM Q (nameS x_table) x_values [] []]) (imM Q (nameS x_table) x_items [] []))) (endM)
noncomputable def law12_r7 (Q : Prm) : M Fl := thenM (ifM (allTS .Or [truT (neDM (nameS x_ends) (nameS x_right)), truT (cmpM Q .NotEq (bltM (lenB Q) [imM Q (nameS x_table) x_values [] []]) (bltM lenDB [nameS x_right]))]) (thenM (retM (datM (.bool false))) (endM)) (endM)) (law12_r6 Q)
noncomputable def law12_r8 (Q : Prm) : M Fl := thenM (asgM x_right (newObj (.dctI []))) (thenM (forM (setLoc x_place) (law12_b5 Q) (bltM rangeB [datM (.int 10)])) (law12_r7 Q))
noncomputable def law12_r9 (Q : Prm) : M Fl := thenM (asgM x_ends (newObj (.dctI []))) (thenM (forZipM (two (setLoc x_name) (setLoc x_value)) (law12_b4 Q) [imM Q (nameS x_table) x_keys [] [], imM Q (nameS x_table) x_values [] []]) (law12_r8 Q))
noncomputable def law12 (Q : Prm) : M Fl := thenM (asgM x_one (lcM (fscope [(x_dot0, .local), (x_number, .local)]) (setLoc x_number) [] (binM .Sub (binM .Mod (nameS x_number) (datM (.int 7))) (datM (.int 3))) (slice3M (nameS x_script) 0 10 2))) (thenM (asgM x_two (lcM (fscope [(x_dot0, .local), (x_number, .local)]) (setLoc x_number) [] (binM .Sub (binM .Mod (nameS x_number) (datM (.int 7))) (datM (.int 3))) (slice3M (nameS x_script) 1 10 2))) (thenM (asgM x_plain (ownRepM Q [datM (.int 0)] (datM (.int 10)))) (thenM (asgM x_table (mkM Q [])) (thenM (asgM x_total (datM (.int 0))) (thenM (forM (setLoc x_left) (law12_b3 Q) (bltM rangeB [bltM (lenB Q) [nameS x_one]])) (law12_r9 Q))))))
end Mine
end

section
open PySem
set_option Elab.async false
set_option maxRecDepth 100000
set_option linter.unusedVariables false
namespace Mine.L12

noncomputable abbrev KK (p : Params) : W.Frag := hd.heap_39 p
section
variable (p : Params)
theorem k1 : W.findIn (KK p) (.ref 171) "__getattribute__" = some (some (.builtin "object.__getattribute__")) := by kernel_rfl
theorem k2 : W.findIn (KK p) (.ref 171) "__getattr__" = some none := by kernel_rfl
theorem k3 : W.noSeq (KK p) 171 = true := by kernel_rfl
theorem k4 : W.findIn (KK p) (.ref 171) "__setattr__" = some (some (.builtin "object.__setattr__")) := by kernel_rfl
theorem k5 : W.plainOver (KK p) 171 = true := by kernel_rfl
theorem k6 : W.findIn (KK p) (.ref 171) hdrKey = some none := by kernel_rfl
theorem k7 : (W.clsIn (KK p) 171).any (·.hasDict) = true := by kernel_rfl
theorem k8 : W.keepIn (KK p) (.ref 171) = true := by kernel_rfl
theorem k9 : W.makesIn (KK p) 171 = true := by kernel_rfl
theorem g0 : isDict (KK p) mainGlobals = true := by kernel_rfl
theorem g4 : bltNames.all (fun x => (nsFind (dictOf (KK p) mainGlobals) x).isNone) = true := by kernel_rfl
theorem gn (x : Str) (v : Value) (h : (nsFind (dictOf (KK p) mainGlobals) x == some v) = true) : nsFind (dictOf (KK p) mainGlobals) x = some v := by simpa using h
end

section
variable (p : Params)
theorem f_init : fnChk (KK p) 63 [x_self, x_headers] = true := by kernel_rfl
theorem df_init : (fdOf (KK p) 63).defaults = .ref 56 := by kernel_rfl
theorem dl_init : (KK p).lookup 56 = some { cls := .type "tuple", data := .seq #[.none] 0 } := by kernel_rfl
theorem b_init {s : Shared} (hK : (KK p).In s.heap) (x y : Value) : BindsTo s (fdOf (KK p) 63) ⟨[x, y], []⟩ [(x_self, x), (x_headers, y)] := BindsTo.of_defaults (df_init p) (hK _ _ (dl_init p)) rfl (by unfold bindArgs; rfl) (by kernel_rfl)
theorem c_init {s : Shared} (hK : (KK p).In s.heap) (x : Value) : BindsTo s (fdOf (KK p) 63) ⟨[x], []⟩ [(x_self, x), (x_headers, .none)] := BindsTo.of_defaults (df_init p) (hK _ _ (dl_init p)) rfl (by unfold bindArgs; rfl) (by kernel_rfl)
theorem f_setitem : fnChk (KK p) 84 [x_self, x_name, x_val] = true := by kernel_rfl
theorem b_setitem (x y z : Value) : bindArgs (fdOf (KK p) 84) ⟨[x, y, z], []⟩ = pure [(x_self, x), (x_name, y), (x_val, z)] := by kernel_rfl
theorem f_delitem : fnChk (KK p) 89 [x_self, x_name] = true := by kernel_rfl
theorem b_delitem (x y : Value) : bindArgs (fdOf (KK p) 89) ⟨[x, y], []⟩ = pure [(x_self, x), (x_name, y)] := by kernel_rfl
theorem f_get : fnChk (KK p) 118 [x_self, x_name, x_default] = true := by kernel_rfl
theorem df_get : (fdOf (KK p) 118).defaults = .ref 111 := by kernel_rfl
theorem dl_get : (KK p).lookup 111 = some { cls := .type "tuple", data := .seq #[.none] 0 } := by kernel_rfl
theorem b_get {s : Shared} (hK : (KK p).In s.heap) (x y z : Value) : BindsTo s (fdOf (KK p) 118) ⟨[x, y, z], []⟩ [(x_self, x), (x_name, y), (x_default, z)] := BindsTo.of_defaults (df_get p) (hK _ _ (dl_get p)) rfl (by unfold bindArgs; rfl) (by kernel_rfl)
theorem c_get {s : Shared} (hK : (KK p).In s.heap) (x y : Value) : BindsTo s (fdOf (KK p) 118) ⟨[x, y], []⟩ [(x_self, x), (x_name, y), (x_default, .none)] := BindsTo.of_defaults (df_get p) (hK _ _ (dl_get p)) rfl (by unfold bindArgs; rfl) (by kernel_rfl)
theorem f_keys : fnChk (KK p) 123 [x_self] = true := by kernel_rfl
theorem b_keys (x : Value) : bindArgs (fdOf (KK p) 123) ⟨[x], []⟩ = pure [(x_self, x)] := by kernel_rfl
theorem f_values : fnChk (KK p) 128 [x_self] = true := by kernel_rfl
theorem b_values (x : Value) : bindArgs (fdOf (KK p) 128) ⟨[x], []⟩ = pure [(x_self, x)] := by kernel_rfl
theorem f_items : fnChk (KK p) 135 [x_self] = true := by kernel_rfl
theorem b_items (x : Value) : bindArgs (fdOf (KK p) 135) ⟨[x], []⟩ = pure [(x_self, x)] := by kernel_rfl
theorem f_convert_string_type : fnChk (KK p) 70 [x_self, x_value, x_name] = true := by kernel_rfl
theorem b_convert_string_type (x y z : Value) : bindArgs (fdOf (KK p) 70) ⟨[x, y], [(sName, z)]⟩ = pure [(sSelf, x), (sValue, y), (sName, z)] := by kernel_rfl
end
section
variable {X : Cx} {n : Nat} {P : Prm} (p : Params) (ok : CxOk X) (pok : PrmOk X n P)
include ok pok
theorem d_init : ExsR X (n + 1) (fnEnv (fdOf (KK p) 63).scope) (bodyOf (fdOf (KK p) 63)) (Dinit P) := by
  conv => arg 4; whnf
  exact S_cons (X_asg (D_ifx (T_cmp ok pok (D_name) (D_none) rfl) (D_name) (O_lst (L_nil) rfl)) (by kernel_rfl) rfl) (S_cons (X_if (T_typ ok (D_name) (by kernel_rfl)) (S_cons (X_fail) (S_nil)) (S_nil)) (S_cons (X_asgAttr ok (D_name) (D_name) rfl) (S_cons (X_if (T_plain (D_bool) rfl) (S_cons (X_for (D_name) (A_two (A_name (by kernel_rfl)) (A_name (by kernel_rfl)) rfl) (S_cons (X_expr (D_im ok pok (D_name) (L_cons (D_name) (L_nil)) (K_cons (D_bool) (K_nil)) rfl) rfl) (S_cons (X_expr (D_im ok pok (D_name) (L_cons (D_name) (L_nil)) (K_cons (D_bool) (K_nil)) rfl) rfl) (S_nil))) rfl) (S_nil)) (S_nil)) (S_nil))))
theorem d_setitem : ExsR X (n + 1) (fnEnv (fdOf (KK p) 84).scope) (bodyOf (fdOf (KK p) 84)) (Dset P) := by
  conv => arg 4; whnf
  exact S_cons (X_del ok pok (D_name) (D_name)) (S_cons (X_expr (D_lm append_get append_ok (D_attr ok) (L_cons (D_tup (L_cons (D_im ok pok (D_name) (L_cons (D_name) (L_nil)) (K_cons (D_bool) (K_nil)) rfl) (L_cons (D_im ok pok (D_name) (L_cons (D_name) (L_nil)) (K_cons (D_bool) (K_nil)) rfl) (L_nil))) rfl) (L_nil)) rfl) rfl) (S_nil))
theorem d_delitem : ExsR X (n + 1) (fnEnv (fdOf (KK p) 89).scope) (bodyOf (fdOf (KK p) 89)) (Ddel P) := by
  conv => arg 4; whnf
  exact S_cons (X_asg (D_im ok pok (D_name) (L_cons (D_sm lower_ok (D_name) rfl) (L_nil)) (K_cons (D_bool) (K_nil)) rfl) (by kernel_rfl) rfl) (S_cons (X_allLc ⟨(by kernel_rfl), D_attr ok, A_name (by kernel_rfl), TL_cons (T_cmp ok pok (D_sm lower_ok (D_item ok pok (D_name) (D_int) rfl) rfl) (D_name) rfl) (TL_nil), D_name, rfl⟩ (D_attr ok)) (S_nil))
theorem d_get : ExsR X (n + 1) (fnEnv (fdOf (KK p) 118).scope) (bodyOf (fdOf (KK p) 118)) (Dget P) := by
  conv => arg 4; whnf
  exact S_cons (X_asg (D_im ok pok (D_name) (L_cons (D_sm lower_ok (D_name) rfl) (L_nil)) (K_cons (D_bool) (K_nil)) rfl) (by kernel_rfl) rfl) (S_cons (X_for (D_attr ok) (A_two (A_name (by kernel_rfl)) (A_name (by kernel_rfl)) rfl) (S_cons (X_if (T_cmp ok pok (D_sm lower_ok (D_name) rfl) (D_name) rfl) (S_cons (X_ret (D_name)) (S_nil)) (S_nil)) (S_nil)) rfl) (S_cons (X_ret (D_name)) (S_nil)))
theorem d_keys : ExsR X (n + 1) (fnEnv (fdOf (KK p) 123).scope) (bodyOf (fdOf (KK p) 123)) (Dkeys P) := by
  conv => arg 4; whnf
  exact S_cons (X_ret (D_lc ⟨(by kernel_rfl), D_attr ok, A_two (A_name (by kernel_rfl)) (A_name (by kernel_rfl)) rfl, TL_nil, D_name, rfl⟩)) (S_nil)
theorem d_values : ExsR X (n + 1) (fnEnv (fdOf (KK p) 128).scope) (bodyOf (fdOf (KK p) 128)) (Dvals P) := by
  conv => arg 4; whnf
  exact S_cons (X_ret (D_lc ⟨(by kernel_rfl), D_attr ok, A_two (A_name (by kernel_rfl)) (A_name (by kernel_rfl)) rfl, TL_nil, D_name, rfl⟩)) (S_nil)
theorem d_items : ExsR X (n + 1) (fnEnv (fdOf (KK p) 135).scope) (bodyOf (fdOf (KK p) 135)) (Ditems P) := by
  conv => arg 4; whnf
  exact S_cons (X_ret (D_slice (D_attr ok) (OP_none) (OP_none))) (S_nil)
set_option maxHeartbeats 4000000 in
theorem d_fnlaw : ExsR X (n + 1) (fnEnv (fdOf (KK p) 180).scope) (bodyOf (fdOf (KK p) 180)) (law12 P) := by
  conv => arg 4; whnf
  exact S_cons (X_asgLc ⟨(by kernel_rfl), D_slice3 (D_name), A_name (by kernel_rfl), TL_nil, D_bin (D_bin (D_name) (D_int)) (D_int), rfl⟩ (by kernel_rfl)) (S_cons (X_asgLc ⟨(by kernel_rfl), D_slice3 (D_name), A_name (by kernel_rfl), TL_nil, D_bin (D_bin (D_name) (D_int)) (D_int), rfl⟩ (by kernel_rfl)) (S_cons (X_asg (O_rep (L_cons (D_int) (L_nil)) (D_int) rfl) (by kernel_rfl) rfl) (S_cons (X_asg (D_mk ok pok (L_nil) rfl (by kernel_rfl)) (by kernel_rfl) rfl) (S_cons (X_asg (D_int) (by kernel_rfl) rfl) (S_cons (X_for (D_range ok (L_cons (D_len ok pok (L_cons (D_name) (L_nil)) rfl (by kernel_rfl)) (L_nil)) rfl (by kernel_rfl)) (A_name (by kernel_rfl)) (S_cons (X_for (D_range ok (L_cons (D_len ok pok (L_cons (D_name) (L_nil)) rfl (by kernel_rfl)) (L_nil)) rfl (by kernel_rfl)) (A_name (by kernel_rfl)) (S_cons (X_asg (D_bin (D_item ok pok (D_name) (D_name) rfl) (D_item ok pok (D_name) (D_name) rfl)) (by kernel_rfl) rfl) (S_cons (X_augIt ok pok (D_name) (D_bin (D_name) (D_name)) rfl (D_name) rfl) (S_cons (X_aug (D_name) (by kernel_rfl) rfl) (S_cons (X_asg (D_ifx (T_cmp ok pok (D_bin (D_name) (D_int)) (D_int) rfl) (D_str (by kernel_rfl)) (D_str (by kernel_rfl))) (by kernel_rfl) rfl) (S_cons (X_asg (D_repS (D_name) (D_bin (D_name) (D_name))) (by kernel_rfl) rfl) (S_cons (X_asg (D_bin (D_intB ok (L_cons (D_im ok pok (D_name) (L_cons (D_sm swapcase_ok (D_name) rfl) (L_cons (D_str (by kernel_rfl)) (L_nil))) (K_nil) rfl) (L_nil)) rfl (by kernel_rfl)) (D_name)) (by kernel_rfl) rfl) (S_cons (X_if (T_cmp ok pok (D_name) (D_int) rfl) (S_cons (X_del ok pok (D_name) (D_name)) (S_nil)) (S_cons (X_asgIt ok pok (D_strB ok (L_cons (D_name) (L_nil)) rfl (by kernel_rfl)) (D_name) (D_name) rfl) (S_nil))) (S_cons (X_asg (D_im ok pok (D_name) (L_nil) (K_nil) rfl) (by kernel_rfl) rfl) (S_cons (X_if (T_bool (TL_cons (T_cmp ok pok (D_str (by kernel_rfl)) (D_name) rfl) (TL_cons (T_cmp ok pok (D_sum ok (L_cons (D_lc ⟨(by kernel_rfl), D_name, A_name (by kernel_rfl), TL_nil, D_intB ok (L_cons (D_name) (L_nil)) rfl (by kernel_rfl), rfl⟩) (L_nil)) rfl (by kernel_rfl)) (D_name) rfl) (TL_nil)))) (S_cons (X_ret (D_bool)) (S_nil)) (S_nil)) (S_nil)))))))))) rfl) (S_nil)) rfl) (S_cons (X_asg (O_newDI ok) (by kernel_rfl) rfl) (S_cons (X_forZip ok (L_cons (D_im ok pok (D_name) (L_nil) (K_nil) rfl) (L_cons (D_im ok pok (D_name) (L_nil) (K_nil) rfl) (L_nil))) rfl (by kernel_rfl) (A_two (A_name (by kernel_rfl)) (A_name (by kernel_rfl)) rfl) (S_cons (X_asgDI (D_name) (D_name) (D_len ok pok (L_cons (D_name) (L_nil)) rfl (by kernel_rfl)) rfl) (S_nil)) rfl) (S_cons (X_asg (O_newDI ok) (by kernel_rfl) rfl) (S_cons (X_for (D_range ok (L_cons (D_int) (L_nil)) rfl (by kernel_rfl)) (A_name (by kernel_rfl)) (S_cons (X_if (T_cmp ok pok (D_item ok pok (D_name) (D_name) rfl) (D_int) rfl) (S_cons (X_asgDI (D_strB ok (L_cons (D_item ok pok (D_name) (D_name) rfl) (L_nil)) rfl (by kernel_rfl)) (D_name) (D_name) rfl) (S_nil)) (S_nil)) (S_nil)) rfl) (S_cons (X_if (T_bool (TL_cons (T_neDI (D_name) (D_name) rfl) (TL_cons (T_cmp ok pok (D_len ok pok (L_cons (D_im ok pok (D_name) (L_nil) (K_nil) rfl) (L_nil)) rfl (by kernel_rfl)) (D_lenD ok (L_cons (D_name) (L_nil)) rfl (by kernel_rfl)) rfl) (TL_nil)))) (S_cons (X_ret (D_bool)) (S_nil)) (S_nil)) (S_cons (X_ret (D_cmp ok pok (D_listZip ok (L_cons (D_im ok pok (D_name) (L_nil) (K_nil) rfl) (L_cons (D_im ok pok (D_name) (L_nil) (K_nil) rfl) (L_nil))) rfl (by kernel_rfl) (by kernel_rfl)) (D_im ok pok (D_name) (L_nil) (K_nil) rfl) rfl)) (S_nil))))))))))))
end
section
variable (p : Params)
end

noncomputable def mkX (prog : Program) (w : World) (base : Heap) (mg mb : Str → Option Value) : Cx := ⟨prog, w, base, 171, KK w.params, mg, mb⟩

noncomputable def mtL : List (Str × Info) := [(x___setitem__, ⟨84, [x_self, x_name, x_val], [], Dset⟩), (x___delitem__, ⟨89, [x_self, x_name], [], Ddel⟩), (x_get, ⟨118, [x_self, x_name, x_default], [.none], Dget⟩), (x_keys, ⟨123, [x_self], [], Dkeys⟩), (x_values, ⟨128, [x_self], [], Dvals⟩), (x_items, ⟨135, [x_self], [], Ditems⟩)]
noncomputable def fnL : List (Str × Info) := []
noncomputable def T : Tab := ⟨fun x => List.lookup x mtL, fun x => List.lookup x fnL, ⟨63, [x_self, x_headers], [.none], Dinit⟩, 1000⟩

variable {prog : Program} {w : World} {base : Heap} {mg mb : Str → Option Value}
theorem cxok (hK : (KK w.params).In base) (hg : base.Ns mainGlobals mg) (hb : base.Ns builtinsNs mb) (hbt : ∀ x : Str, x ≠ "__name__" → mb x = bootBuiltins x) (hn : base.NoLimit) : CxOk (mkX prog w base mg mb) where
  kin := hK
  g := hg
  b := hb
  blt := hbt
  nolimit := hn
  ga := k1 _
  noga := k2 _
  noSeq := k3 _
  noG := fun x hx => by
    show mg x = none
    rw [mg_of hK hg (g0 _)]
    exact Option.isNone_iff_eq_none.mp (List.all_eq_true.mp (g4 w.params) x hx)
  sa := k4 _
  po := k5 _
  hd := k6 _
  hasD := k7 _
  keep := k8 _
theorem p1 (p : Params) : PatAt (KK p) 43 code1 := ⟨_, _, _, _, _, _, _, _, rfl, rfl, by kernel_rfl⟩
theorem p2 (p : Params) : PatAt (KK p) 48 code2 := ⟨_, _, _, _, _, _, _, _, rfl, rfl, by kernel_rfl⟩
theorem m1 (p : Params) : (match W.findIn (KK p) (.ref 171) sConv with | some (some (.ref f)) => if W.isFn (KK p) (.ref f) && W.fnIn (KK p) f then some f else none | _ => none) = some 70 := by kernel_rfl
theorem i1 (p : Params) : W.findIn (KK p) (.ref 171) "__init__" = some (some (.ref 63)) := by kernel_rfl
theorem i2 (p : Params) : W.typeIn (KK p) (.ref 63) = some (.type "function") := by kernel_rfl
theorem c1 (p : Params) : (fnEnv (fdOf (KK p) 70).scope).kindOf sRegex = some .local := by kernel_rfl
theorem c2 (p : Params) (q : Pos) : typOk (fnEnv (fdOf (KK p) 70).scope) (.Name sValue q) (Str.ofString "str") = true := by kernel_rfl
theorem c3 (p : Params) : gKind (fnEnv (fdOf (KK p) 70).scope) (Str.ofString "_name_disallowed_re") = true := by kernel_rfl
theorem c4 (p : Params) : gKind (fnEnv (fdOf (KK p) 70).scope) (Str.ofString "_value_disallowed_re") = true := by kernel_rfl
theorem mth_of (name : Str) (f : Addr) (h : ((match W.findIn (KK w.params) (.ref 171) name with | some (some (.ref f)) => if W.isFn (KK w.params) (.ref f) && W.fnIn (KK w.params) f then some f else none | _ => none) == some f) = true) : mth (mkX prog w base mg mb) name = some f := beq_iff_eq.mp h

theorem mt_ok (ok : CxOk (mkX prog w base mg mb)) : ∀ q ∈ mtL, InfoOk (mkX prog w base mg mb) q.2 ∧ mth (mkX prog w base mg mb) q.1 = some q.2.f := by
  unfold mtL
  refine List.forall_mem_cons.mpr ⟨⟨.plain (f_setitem _) (fun n P pok => d_setitem _ ok pok) rfl (bind3 (b_setitem _)), mth_of _ _ (by kernel_rfl)⟩, ?_⟩
  refine List.forall_mem_cons.mpr ⟨⟨.plain (f_delitem _) (fun n P pok => d_delitem _ ok pok) rfl (bind2 (b_delitem _)), mth_of _ _ (by kernel_rfl)⟩, ?_⟩
  refine List.forall_mem_cons.mpr ⟨⟨.plain (f_get _) (fun n P pok => d_get _ ok pok) rfl (bind3d (fun s x y z hK => b_get _ hK x y z) (fun s x y hK => c_get _ hK x y)), mth_of _ _ (by kernel_rfl)⟩, ?_⟩
  refine List.forall_mem_cons.mpr ⟨⟨.plain (f_keys _) (fun n P pok => d_keys _ ok pok) rfl (bind1 (b_keys _)), mth_of _ _ (by kernel_rfl)⟩, ?_⟩
  refine List.forall_mem_cons.mpr ⟨⟨.plain (f_values _) (fun n P pok => d_values _ ok pok) rfl (bind1 (b_values _)), mth_of _ _ (by kernel_rfl)⟩, ?_⟩
  refine List.forall_mem_cons.mpr ⟨⟨.plain (f_items _) (fun n P pok => d_items _ ok pok) rfl (bind1 (b_items _)), mth_of _ _ (by kernel_rfl)⟩, ?_⟩
  exact fun q h => by cases h
theorem fn_ok (hK : (KK w.params).In base) (hg : base.Ns mainGlobals mg) (ok : CxOk (mkX prog w base mg mb)) : ∀ q ∈ fnL, InfoOk (mkX prog w base mg mb) q.2 ∧ mg q.1 = some (.ref q.2.f) := by
  unfold fnL
  exact fun q h => by cases h

set_option maxHeartbeats 4000000 in
theorem tabok (hK : (KK w.params).In base) (hg : base.Ns mainGlobals mg) (ok : CxOk (mkX prog w base mg mb)) : TabOk (mkX prog w base mg mb) T where
  mt := fun name i h => mt_ok ok _ (mem_of_look h)
  fn := fun name i h => fn_ok hK hg ok _ (mem_of_look h)
  init := .plain (f_init _) (fun n P pok => d_init _ ok pok) rfl (bind2d (fun s x y hK => b_init _ hK x y) (fun s x hK => c_init _ hK x))
  initF := i1 _
  initT := i2 _
  makes := k9 _
  head := by
    show mg _ = _
    rw [mg_of hK hg (g0 _)]; exact gn _ _ _ (by kernel_rfl)
  conv := by
    refine ⟨70, m1 w.params, f_convert_string_type w.params, fun k env' hs => ?_, fun s x y z => ?_⟩
    rotate_left
    · show BindsTo s (fdOf (KK w.params) 70) ⟨[x, y], [(sName, z)]⟩ [(sSelf, x), (sValue, y), (sName, z)]
      exact BindsTo.of_eq (b_convert_string_type w.params x y z)
    have q1 : PatOk (mkX prog w base mg mb) (Str.ofString "_name_disallowed_re") := patOk_of hK (by show mg _ = _; rw [mg_of hK hg (g0 _)]; exact gn _ _ _ (by kernel_rfl)) (p1 _) code1_ok
    have q2 : PatOk (mkX prog w base mg mb) (Str.ofString "_value_disallowed_re") := patOk_of hK (by show mg _ = _; rw [mg_of hK hg (g0 _)]; exact gn _ _ _ (by kernel_rfl)) (p2 _) code2_ok
    exact Exs_conv ok q1 q2 (by rw [← hs.kindOf]; exact c1 _) (by rw [← hs.typOk]; exact c2 _ _) (by rw [← hs.gKind]; exact c3 _) (by rw [← hs.gKind]; exact c4 _) rfl

theorem h_getd : MGetd (prm T 20) := tb_getd (k := 18) ⟨_, rfl⟩
theorem h_set : MSet (prm T 20) := tb_set (k := 17) ⟨_, rfl⟩ ⟨_, rfl⟩
theorem h_del : MDel (prm T 20) := tb_del (k := 18) ⟨_, rfl⟩
theorem h_vals : MVals (prm T 20) := tb_vals (k := 19) ⟨_, rfl⟩
theorem h_keys : MKeys (prm T 20) := tb_keys (k := 19) ⟨_, rfl⟩
theorem h_items : MItems (prm T 20) := tb_items (k := 19) ⟨_, rfl⟩
theorem h_make0 : MMake0 (prm T 20) := tb_make0 (k := 19) rfl
end Mine.L12
end

section
open PySem
set_option Elab.async false
set_option maxRecDepth 10000
set_option linter.unusedVariables false
namespace Mine
/-! Sums by places. An entry: its sign, how many of them, its number. -/
noncomputable abbrev En := Nat × Nat × Int
noncomputable def nmX (c k : Nat) : Str := tx (List.replicate k c)
noncomputable def pp12 (T : List En) : List (Str × Str) := T.map fun e => (nmX e.1 e.2.1, strI e.2.2)
noncomputable def okC (c : Nat) : Prop := lowC c = 120
theorem repX (c k : Nat) : repStr (ch c) (k : Int) = nmX c k := by
  apply Str.ext'
  show (List.replicate ((k : Int)).toNat [c]).flatten = List.replicate k c
  rw [Int.toNat_natCast]
  induction k with
  | zero => rfl
  | succ k ih => rw [List.replicate_succ, List.flatten_cons, ih, List.replicate_succ]; rfl
theorem nm_len (c k : Nat) : (nmX c k).length = k := by unfold nmX; rw [tx_len, List.length_replicate]
theorem low_nm (c k : Nat) : low (nmX c k) = nmX (lowC c) k := by
  apply Str.ext'
  show (List.replicate k c).map lowC = List.replicate k (lowC c)
  rw [List.map_replicate]
theorem sw_nm (c k : Nat) : sw (nmX c k) = nmX (swC c) k := by
  apply Str.ext'
  show (List.replicate k c).map swC = List.replicate k (swC c)
  rw [List.map_replicate]
theorem low_eq12 {a b i j : Nat} (ha : okC a) (hb : okC b) : (low (nmX a i) == low (nmX b j)) = decide (i = j) := by
  rw [Bool.eq_iff_iff, beq_iff_eq, decide_eq_true_eq, low_nm, low_nm, ha, hb]
  constructor
  · intro h
    have := congrArg Str.length h
    rwa [nm_len, nm_len] at this
  · rintro rfl; rfl
theorem okC_sw {c : Nat} (h : okC c) : okC (swC c) := (lowC_swC c).trans h
noncomputable def okT (T : List En) : Prop := ∀ e ∈ T, okC e.1 ∧ e.2.1 < 10 ∧ e.2.2.natAbs < 300
noncomputable def rest12 (T : List En) (k : Nat) : List En := T.filter fun e => !decide (e.2.1 = k)
theorem del12 {T : List En} {c k : Nat} (hT : okT T) (hc : okC c) : delP (pp12 T) (nmX c k) = pp12 (rest12 T k) := by
  unfold delP pp12 rest12
  rw [List.filter_map]
  congr 1
  apply List.filter_congr
  intro e he
  show (!(low (nmX e.1 e.2.1) == low (nmX c k))) = _
  rw [low_eq12 (hT e he).1 hc]
theorem get12 {T : List En} {c k : Nat} {d : PyData} (hT : okT T) (hc : okC c) : getP (pp12 T) (nmX c k) d = match T.find? (fun e => decide (e.2.1 = k)) with
    | some e => .str (strI e.2.2)
    | none => d := by
  unfold getP pp12
  rw [List.find?_map]
  have h : T.find? ((fun p : Str × Str => low p.1 == low (nmX c k)) ∘ fun e : En => (nmX e.1 e.2.1, strI e.2.2)) = T.find? fun e => decide (e.2.1 = k) := by
    induction T with
    | nil => rfl
    | cons e T ih =>
      have e1 : ((fun p : Str × Str => low p.1 == low (nmX c k)) ∘ fun e : En => (nmX e.1 e.2.1, strI e.2.2)) e = decide (e.2.1 = k) := low_eq12 (hT e (.head _)).1 hc
      rw [List.find?_cons, List.find?_cons, e1, ih fun a ha => hT a (.tail _ ha)]
  rw [h]
  cases T.find? fun e => decide (e.2.1 = k) with
  | none => rfl
  | some e => rfl
theorem strI_t : (∀ k : Nat, k < 300 → PySem.intText? (strI (k : Int)) = some (k : Int) ∧ (strI (k : Int)).length ≤ 10) ∧ ∀ k : Nat, k < 300 → PySem.intText? (strI (-(k : Int))) = some (-(k : Int)) ∧ (strI (-(k : Int))).length ≤ 10 := by decide +kernel
theorem strI_300 {v : Int} (h : v.natAbs < 300) : PySem.intText? (strI v) = some v ∧ (strI v).length ≤ 10 := by
  rcases Int.le_total 0 v with h0 | h0
  · have := strI_t.1 v.natAbs h
    rwa [Int.natAbs_of_nonneg h0] at this
  · have := strI_t.2 v.natAbs h
    rwa [Int.ofNat_natAbs_of_nonpos h0, Int.neg_neg] at this
theorem strI_inj {a b : Int} (ha : a.natAbs < 300) (hb : b.natAbs < 300) (h : strI a = strI b) : a = b := by
  have := (strI_300 ha).1
  rw [h, (strI_300 hb).1] at this
  exact (Option.some.inj this).symm
theorem zero_text : Str.ofString "0" = strI 0 := by decide +kernel
/-- the table holds what the plain row says -/
structure I12 (pl : List Int) (T : List En) (n : Nat) : Prop where
  len : pl.length = 10
  okc : ∀ e ∈ T, okC e.1
  mem : ∀ e ∈ T, e.2.1 < 10 ∧ pl.getD e.2.1 0 = e.2.2 ∧ e.2.2 ≠ 0
  all : ∀ k, k < 10 → pl.getD k 0 ≠ 0 → ∃ e ∈ T, e.2.1 = k
  nd : (T.map (·.2.1)).Nodup
  bnd : ∀ k, k < 10 → (pl.getD k 0).natAbs ≤ 9 * n
  n25 : n ≤ 25
section
variable {pl : List Int} {T : List En} {n : Nat}
theorem I12.ok (I : I12 pl T n) : okT T := fun e he => ⟨I.okc e he, (I.mem e he).1, by
  have h1 := I.bnd _ (I.mem e he).1
  rw [(I.mem e he).2.1] at h1
  have := I.n25
  omega⟩
theorem I12.tlen (I : I12 pl T n) : T.length ≤ 10 := by
  have h1 : (T.map (·.2.1)).length ≤ (List.range 10).length := (List.Nodup.length_le_of_subset I.nd fun k hk => by
    obtain ⟨e, he, rfl⟩ := List.mem_map.mp hk
    exact List.mem_range.mpr (I.mem e he).1)
  rwa [List.length_map, List.length_range] at h1
theorem I12.tiny (I : I12 pl T n) : tiny (pp12 T) := by
  refine ⟨?_, fun p hp => ?_⟩
  · unfold pp12; rw [List.length_map]; exact Nat.le_trans I.tlen (by decide)
  · obtain ⟨e, he, rfl⟩ := List.mem_map.mp hp
    have := I.ok e he
    refine ⟨?_, ?_⟩
    · show (nmX e.1 e.2.1).length ≤ 1000
      rw [nm_len]; omega
    · exact Nat.le_trans (strI_300 this.2.2).2 (by decide)
/-- what get tells, read as a number -/
theorem I12.get (I : I12 pl T n) {c k : Nat} (hc : okC c) (hk : k < 10) : ∃ x, getP (pp12 T) (nmX c k) (.str (Str.ofString "0")) = .str x ∧ PySem.intText? x = some (pl.getD k 0) ∧ x.length ≤ 640 := by
  rw [get12 I.ok hc]
  cases hf : T.find? (fun e => decide (e.2.1 = k)) with
  | none =>
    refine ⟨_, rfl, ?_, by decide⟩
    have h0 : pl.getD k 0 = 0 := by
      by_cases h : pl.getD k 0 = 0
      · exact h
      · obtain ⟨e, he, hk'⟩ := I.all k hk h
        exact absurd (List.find?_eq_none.mp hf e he) (by simp [hk'])
    rw [h0]; decide +kernel
  | some e =>
    have h1 := List.mem_of_find?_eq_some hf
    have h2 : e.2.1 = k := of_decide_eq_true (List.find?_some (p := fun e : En => decide (e.2.1 = k)) hf)
    have h3 := strI_300 (I.ok e h1).2.2
    refine ⟨_, rfl, ?_, Nat.le_trans h3.2 (by decide)⟩
    rw [h3.1, ← (I.mem e h1).2.1, h2]
theorem getD_set {pl : List Int} {k j : Nat} {v : Int} (hk : k < pl.length) : (pl.set k v).getD j 0 = if j = k then v else pl.getD j 0 := by
  rw [List.getD_eq_getElem?_getD, List.getD_eq_getElem?_getD, List.getElem?_set]
  by_cases h : k = j
  · rw [if_pos h, if_pos h.symm]
    subst h
    rw [if_pos hk]; rfl
  · rw [if_neg h, if_neg (Ne.symm h)]
theorem rest_mem {k : Nat} {e : En} : e ∈ rest12 T k ↔ e ∈ T ∧ e.2.1 ≠ k := by
  unfold rest12
  rw [List.mem_filter]
  simp
theorem rest_nd {k : Nat} (h : (T.map (·.2.1)).Nodup) : ((rest12 T k).map (·.2.1)).Nodup := List.Nodup.sublist (List.Sublist.map _ List.filter_sublist) h
theorem bnd_step {a p : Int} {n : Nat} (h : a.natAbs ≤ 9 * n) (hp : p.natAbs ≤ 9) : (a + p).natAbs ≤ 9 * (n + 1) := by omega
theorem I12.put (I : I12 pl T n) {c k : Nat} {p : Int} (hc : okC c) (hk : k < 10) (hp : p.natAbs ≤ 9) (hn : n < 25) (h0 : pl.getD k 0 + p ≠ 0) : I12 (pl.set k (pl.getD k 0 + p)) (rest12 T k ++ [(c, k, pl.getD k 0 + p)]) (n + 1) where
  len := by rw [List.length_set]; exact I.len
  okc := fun e he => by
    rcases List.mem_append.mp he with he | he
    · exact I.okc e (rest_mem.mp he).1
    · rw [List.mem_singleton.mp he]; exact hc
  mem := fun e he => by
    rw [getD_set (by rw [I.len]; exact hk)]
    rcases List.mem_append.mp he with he | he
    · obtain ⟨h1, h2⟩ := rest_mem.mp he
      rw [if_neg h2]
      exact I.mem e h1
    · rw [List.mem_singleton.mp he]
      exact ⟨hk, if_pos rfl, h0⟩
  all := fun j hj h => by
    rw [getD_set (by rw [I.len]; exact hk)] at h
    by_cases hjk : j = k
    · exact ⟨_, List.mem_append_right _ (.head _), hjk.symm⟩
    · rw [if_neg hjk] at h
      obtain ⟨e, he, hk'⟩ := I.all j hj h
      exact ⟨e, List.mem_append_left _ (rest_mem.mpr ⟨he, by rw [hk']; exact hjk⟩), hk'⟩
  nd := by
    rw [List.map_append, List.nodup_append]
    refine ⟨rest_nd I.nd, by simp, fun a ha b hb => ?_⟩
    obtain ⟨e, he, rfl⟩ := List.mem_map.mp ha
    rw [List.mem_singleton.mp hb]
    exact (rest_mem.mp he).2
  bnd := fun j hj => by
    rw [getD_set (by rw [I.len]; exact hk)]
    have := I.bnd j hj
    split
    · exact bnd_step (I.bnd k hk) hp
    · omega
  n25 := hn
theorem I12.drop (I : I12 pl T n) {k : Nat} {p : Int} (hk : k < 10) (hp : p.natAbs ≤ 9) (hn : n < 25) (h0 : pl.getD k 0 + p = 0) : I12 (pl.set k (pl.getD k 0 + p)) (rest12 T k) (n + 1) where
  len := by rw [List.length_set]; exact I.len
  okc := fun e he => I.okc e (rest_mem.mp he).1
  mem := fun e he => by
    rw [getD_set (by rw [I.len]; exact hk)]
    obtain ⟨h1, h2⟩ := rest_mem.mp he
    rw [if_neg h2]
    exact I.mem e h1
  all := fun j hj h => by
    rw [getD_set (by rw [I.len]; exact hk)] at h
    by_cases hjk : j = k
    · rw [if_pos hjk] at h; exact absurd h0 h
    · rw [if_neg hjk] at h
      obtain ⟨e, he, hk'⟩ := I.all j hj h
      exact ⟨e, rest_mem.mpr ⟨he, by rw [hk']; exact hjk⟩, hk'⟩
  nd := rest_nd I.nd
  bnd := fun j hj => by
    rw [getD_set (by rw [I.len]; exact hk)]
    have := I.bnd j hj
    split
    · exact bnd_step (I.bnd k hk) hp
    · omega
  n25 := hn
/-- the sum of the values -/
noncomputable def tot (T : List En) : Int := (T.map (·.2.2)).sum
theorem tot_app (S : List En) (e : En) : tot (S ++ [e]) = tot S + e.2.2 := by
  unfold tot
  rw [List.map_append, List.sum_append, List.map_cons, List.map_nil, List.sum_cons, List.sum_nil, Int.add_zero]
theorem tot_rest : ∀ {T : List En} {k : Nat} {a : Int}, (T.map (·.2.1)).Nodup → (∀ e ∈ T, e.2.1 = k → e.2.2 = a) → ((∀ e ∈ T, e.2.1 ≠ k) → a = 0) → tot T = tot (rest12 T k) + a
  | [], k, a, _, _, h => by rw [h fun _ h => nomatch h]; rfl
  | e :: T, k, a, hn, h1, h2 => by
    rw [List.map_cons] at hn
    obtain ⟨n1, n2⟩ := List.nodup_cons.mp hn
    have c1 : ∀ S, tot (e :: S) = e.2.2 + tot S := fun S => by unfold tot; rw [List.map_cons, List.sum_cons]
    by_cases hk : e.2.1 = k
    · have hr : rest12 (e :: T) k = T := by
        unfold rest12
        rw [List.filter_cons_of_neg (by simp [hk]), List.filter_eq_self]
        intro b hb
        have : b.2.1 ≠ k := fun q => n1 (hk ▸ q ▸ List.mem_map_of_mem (f := fun e : En => e.2.1) hb)
        simp [this]
      rw [hr, c1, h1 e (.head _) hk, Int.add_comm]
    · have hr : rest12 (e :: T) k = e :: rest12 T k := by
        unfold rest12
        rw [List.filter_cons_of_pos (by simp [hk])]
      rw [hr, c1, c1, tot_rest n2 (fun b hb => h1 b (.tail _ hb)) (fun h => h2 fun b hb => by
        rcases List.mem_cons.mp hb with rfl | hb
        · exact hk
        · exact h b hb), Int.add_assoc]
theorem I12.rest_tot (I : I12 pl T n) {k : Nat} (hk : k < 10) : tot T = tot (rest12 T k) + pl.getD k 0 := by
  refine tot_rest I.nd (fun e he q => by rw [← (I.mem e he).2.1, q]) fun h => ?_
  by_cases h0 : pl.getD k 0 = 0
  · exact h0
  · obtain ⟨e, he, q⟩ := I.all k hk h0
    exact absurd q (h e he)
/-- a step -/
noncomputable def step12 (T : List En) (c k : Nat) (v : Int) : List En := if v = 0 then rest12 T k else rest12 T k ++ [(c, k, v)]
theorem I12.step (I : I12 pl T n) {c k : Nat} {p : Int} (hc : okC c) (hk : k < 10) (hp : p.natAbs ≤ 9) (hn : n < 25) : I12 (pl.set k (pl.getD k 0 + p)) (step12 T c k (pl.getD k 0 + p)) (n + 1) ∧ tot (step12 T c k (pl.getD k 0 + p)) = tot T + p := by
  have h1 := I.rest_tot hk
  unfold step12
  by_cases h0 : pl.getD k 0 + p = 0
  · rw [if_pos h0]
    refine ⟨I.drop hk hp hn h0, ?_⟩
    omega
  · rw [if_neg h0]
    refine ⟨I.put hc hk hp hn h0, ?_⟩
    rw [tot_app]
    show tot (rest12 T k) + (pl.getD k 0 + p) = _
    omega
theorem I12.nil : I12 (List.replicate 10 0) [] 0 where
  len := rfl
  okc := fun _ h => nomatch h
  mem := fun _ h => nomatch h
  all := fun k hk h => absurd (by
    revert hk h
    match k with
    | 0 | 1 | 2 | 3 | 4 | 5 | 6 | 7 | 8 | 9 => exact fun _ h => absurd rfl h
    | k + 10 => exact fun hk => absurd hk (by omega)) id
  nd := .nil
  bnd := fun k hk => by
    match k, hk with
    | 0, _ | 1, _ | 2, _ | 3, _ | 4, _ | 5, _ | 6, _ | 7, _ | 8, _ | 9, _ => exact Nat.le_refl _
    | k + 10, hk => exact absurd hk (by omega)
  n25 := by decide
end
end Mine
end

section
open PySem
set_option Elab.async false
set_option maxRecDepth 10000
set_option linter.unusedVariables false
namespace Mine

noncomputable def iN (k : Nat) : PyData := .int (k : Int)
theorem intsN (n : Nat) : intsD 0 n = (List.range n).map iN := by
  rw [ints0]
  apply List.map_congr_left
  intro k _
  show PyData.int _ = PyData.int _
  rw [Int.zero_add]
theorem vals12 (T : List En) : (pp12 T).map (fun p => PyData.str p.2) = (T.map fun e => strI e.2.2).map .str := by
  unfold pp12; rw [List.map_map, List.map_map]; rfl
theorem mapset {pl : List Int} {k : Nat} {v : Int} : (pl.map PyData.int).set k (.int v) = (pl.set k v).map .int := by rw [List.map_set]
noncomputable def n3 (pl : List Int) : Prop := pl.length ≤ 5 ∧ ∀ a ∈ pl, a.natAbs ≤ 3
theorem prod9 {a b : Int} (ha : a.natAbs ≤ 3) (hb : b.natAbs ≤ 3) : (a * b).natAbs ≤ 9 := by
  rw [Int.natAbs_mul]
  exact Nat.mul_le_mul ha hb

section
variable {Q : Prm} {l : Str → Option V} {hp : List AObj} {R : Fl → St → Prop}

noncomputable abbrev KT (one two : List Int) : List (Str × V) := [(x_one, .dat (.list (one.map .int))), (x_two, .dat (.list (two.map .int))), (x_plain, .obj 0), (x_table, .obj 1)]
noncomputable abbrev KU (one two : List Int) (t : Int) : List (Str × V) := (x_total, .dat (.int t)) :: KT one two
noncomputable def HH (pl : List Int) (T : List En) : List AObj := [.lst (pl.map .int), .inst (some 2), .lst ((pp12 T).map pr)]

/-- the end of a step -/
theorem r1_ok (hvals : MVals Q) {one two : List Int} {pl : List Int} {T : List En} {n i : Nat} (I : I12 pl T n) (hk : Kn ((x_left, .dat (iN i)) :: KU one two (tot T)) l)
    (hR : ∀ l, Kn ((x_left, .dat (iN i)) :: KU one two (tot T)) l → R .next ⟨l, HH pl T⟩) : Ok (law12_r1 Q) ⟨l, HH pl T⟩ (Cut 3 R) := by
  have t : Tb (HH pl T) 1 2 (pp12 T) := ⟨rfl, rfl, rfl, I.tiny⟩
  have hb : T.length ≤ big := Nat.le_trans I.tlen (by decide)
  unfold law12_r1
  refine o_asg (v := .dat (.list ((T.map fun e => strI e.2.2).map .str))) (l1 := l) (h1 := HH pl T) (by rw [← vals12]; wtm_at "ev") hk fun l hk => ?_
  have c1 : cmpD .In (.str (Str.ofString "0")) (.list ((T.map fun e => strI e.2.2).map .str)) = some false := by
    show (if PyData.depth (.str (Str.ofString "0")) ≤ 50 then some (id (((T.map fun e => strI e.2.2).map PyData.str).any fun d => PyData.eqv d (.str (Str.ofString "0")))) else none) = _
    rw [if_pos (by simp [PyData.depth])]
    congr 1
    show List.any _ _ = false
    rw [List.any_eq_false]
    intro d hd
    obtain ⟨x, hx, rfl⟩ := List.mem_map.mp hd
    obtain ⟨e, he, rfl⟩ := List.mem_map.mp hx
    rw [eqv_str, zero_text]
    intro q
    exact (I.mem e he).2.2 (strI_inj (I.ok e he).2.2 (by decide) (of_decide_eq_true q))
  have r1 : Run (bltM sumB [lcM (fscope [(x_dot0, .local), (x_value, .local), (x_int, .globalImplicit)]) (setLoc x_value) [] (bltM intB [nameS x_value]) (nameS x_told)]) ⟨l, HH pl T⟩ (.dat (.int (tot T))) ⟨l, HH pl T⟩ := by
    refine r_blt (q_cons (r_lc (σ1 := ⟨l, HH pl T⟩) (v := .dat (.list ((T.map fun e => strI e.2.2).map .str))) (ds := (T.map fun e => e.2.2).map .int) (by wtm_at "ev") (cv_dat (ds := (T.map fun e => strI e.2.2).map .str) rfl ?_)) q_nil) (f_sum (by rw [List.length_map]; exact hb))
    have e1 : (T.map fun e => strI e.2.2).map PyData.str = T.map fun e => .str (strI e.2.2) := by rw [List.map_map]; rfl
    have e2 : (T.map fun e => e.2.2).map PyData.int = T.map fun e => .int e.2.2 := by rw [List.map_map]; rfl
    rw [e1, e2]
    refine comp1m (hp := HH pl T) (K := []) (e := fun e : En => .str (strI e.2.2)) (f := fun e : En => .int e.2.2) rfl kn_nil rfl hb fun e he l hk => ?_
    have h3 := strI_300 (I.ok e he).2.2
    exact r_blt (q_cons (r_name hk rfl) q_nil) (f_int (Nat.le_trans h3.2 (by decide)) h3.1)
  have c2 : cmpD .NotEq (.int (tot T)) (.int (tot T)) = some false := by rw [cNeI]; simp
  refine o_if0 (σ1 := ⟨l, HH pl T⟩) (t_or (b := false) (c := false) (by wtm_at "ev") (fun _ => t_cmp (r_cmp r1 (r_name hk rfl) (c_rd rd_dat rd_dat c2)))) ?_
  wtm_at "st"
  exact o_end (cut_ok' rfl rfl rfl (hR _ (kn_cut rfl (by wtm_at "kn"))))

/-- a step -/
theorem b2_ok (hset : MSet Q) (hdel : MDel Q) (hgetd : MGetd Q) (hvals : MVals Q) {one two : List Int} (h1 : n3 one) (h2 : n3 two) {pl : List Int} {T : List En} {n i j : Nat} (I : I12 pl T n) (hi : i < one.length) (hj : j < two.length) (hn : n < 25)
    (hk : Kn ((x_right, .dat (iN j)) :: (x_left, .dat (iN i)) :: KU one two (tot T)) l)
    (hR : ∀ l pl T, I12 pl T (n + 1) → Kn ((x_left, .dat (iN i)) :: KU one two (tot T)) l → R .next ⟨l, HH pl T⟩) : Ok (law12_b2 Q) ⟨l, HH pl T⟩ (Cut 3 R) := by
  have g1 : one[i]? = some one[i] := List.getElem?_eq_getElem hi
  have g2 : two[j]? = some two[j] := List.getElem?_eq_getElem hj
  have b1 := h1.2 _ (List.getElem_mem hi)
  have b2 := h2.2 _ (List.getElem_mem hj)
  generalize one[i] = a at g1 b1
  generalize two[j] = b at g2 b2
  have hi5 : i < 5 := Nat.lt_of_lt_of_le hi h1.1
  have hj5 : j < 5 := Nat.lt_of_lt_of_le hj h2.1
  have hkk : i + j < 10 := by omega
  have s1 := small_int (k := i) (by omega)
  have s2 := small_int (k := j) (by omega)
  have d1 : itemD (.list (one.map PyData.int)) (.int (i : Int)) = some (.int a) := item_map g1
  have d2 : itemD (.list (two.map PyData.int)) (.int (j : Int)) = some (.int b) := item_map g2
  have m1 : a.natAbs < 2 ^ 31 ∧ b.natAbs < 2 ^ 31 := ⟨by omega, by omega⟩
  have hp := prod9 b1 b2
  have hk : Kn ((x_right, .dat (.int (j : Int))) :: (x_left, .dat (.int (i : Int))) :: KU one two (tot T)) l := hk
  have hplk : (pl.map PyData.int)[i + j]? = some (.int (pl.getD (i + j) 0)) := by
    have hlt : i + j < pl.length := by rw [I.len]; exact hkk
    rw [List.getElem?_map, List.getD_eq_getElem?_getD, List.getElem?_eq_getElem hlt]; rfl
  unfold law12_b2
  wtm_at "st"
  have hidx : Run (binM .Add (nameS x_left) (nameS x_right)) ⟨l, HH pl T⟩ (.dat (.int ((i + j : Nat) : Int))) ⟨l, HH pl T⟩ := by rw [Int.natCast_add]; wtm_at "ev"
  refine o_augL (σ1 := ⟨l, HH pl T⟩) (j := 0) (e := .int (a * b)) (r := .int (pl.getD (i + j) 0 + a * b)) (by wtm_at "ev") hidx rfl hplk (by wtm_at "ev") rfl ⟨by omega, by rw [List.length_map, I.len]; decide⟩ ?_
  rw [mapset]
  show Ok _ ⟨l, HH (pl.set (i + j) (pl.getD (i + j) 0 + a * b)) T⟩ _
  obtain ⟨c, hc, hcx⟩ : ∃ c, (if decide ((i : Int).fmod 2 = 0) = true then PyData.str (Str.ofString "x") else .str (Str.ofString "X")) = .str (ch c) ∧ okC c := by
    cases decide ((i : Int).fmod 2 = 0) with
    | true => exact ⟨120, rfl, rfl⟩
    | false => exact ⟨88, rfl, rfl⟩
  have hok := I.ok
  obtain ⟨I', hT'⟩ := I.step hcx hkk hp hn
  have hset0 : pl.length = (pl.set (i + j) (pl.getD (i + j) 0 + a * b)).length := List.length_set.symm
  generalize hpl' : pl.set (i + j) (pl.getD (i + j) 0 + a * b) = pl' at I' ⊢
  have t : Tb (HH pl' T) 1 2 (pp12 T) := ⟨rfl, rfl, rfl, I.tiny⟩
  wtm_at "st"
  refine o_asg (v := .dat (.str (ch c))) (l1 := l) (h1 := HH pl' T) (by rw [← hc]; wtm_at "ev") hk fun l hk => ?_
  have hidx : Run (binM .Add (nameS x_left) (nameS x_right)) ⟨l, HH pl' T⟩ (.dat (.int ((i + j : Nat) : Int))) ⟨l, HH pl' T⟩ := by rw [Int.natCast_add]; wtm_at "ev"
  refine o_asg (v := .dat (.str (nmX c (i + j)))) (l1 := l) (h1 := HH pl' T) (by rw [← repX]; exact r_repS (by wtm_at "ev") hidx ⟨ch_tiny c, by omega⟩) hk fun l hk => ?_
  obtain ⟨x, x1, x2, x3⟩ := I.get (okC_sw hcx) hkk
  have hnt : tinyS (nmX c (i + j)) := by unfold tinyS; rw [nm_len]; omega
  have hnt2 : tinyS (nmX (swC c) (i + j)) := by unfold tinyS; rw [nm_len]; omega
  have rg : Run (Q.mt x_get (.obj 1) [.dat (.str (sw (nmX c (i + j)))), .dat (.str (Str.ofString "0"))] []) ⟨l, HH pl' T⟩ (.dat (.str x)) ⟨l, HH pl' T⟩ := by
    rw [sw_nm]
    have := hgetd (l := l) (d := .str (Str.ofString "0")) t hnt2
    rwa [x1] at this
  have rgi : Run (bltM intB [imM Q (nameS x_table) x_get [strM sw (nameS x_name), datM (.str (Str.ofString "0"))] []]) ⟨l, HH pl' T⟩ (.dat (.int (pl.getD (i + j) 0))) ⟨l, HH pl' T⟩ := by
    have hnb := hnt.big
    refine r_blt (vs := [.dat (.str x)]) (σ1 := ⟨l, HH pl' T⟩) ?_ (f_int x3 x2)
    wtm_at "ev"
  wtm_at "st"
  have hvb : (pl.getD (i + j) 0 + a * b).natAbs < 300 := by
    have := I.bnd _ hkk
    have := I.n25
    omega
  generalize hv : pl.getD (i + j) 0 + a * b = v at *
  have kk : Unit → Kn ((x_left, .dat (iN i)) :: KU one two (tot T + a * b)) l := fun _ => by
    show Kn ((x_left, .dat (.int (i : Int))) :: KU one two (tot T + a * b)) l
    wtm_at "kn"
  refine o_if (q := decide (v = 0)) (σ1 := ⟨l, HH pl' T⟩) (by wtm_at "ev") ?_ ?_
  · intro hq
    have hq := of_decide_eq_true hq
    wtm_at "st"
    wtm_at "st"
    wtm_at "st"
    rw [del12 hok hcx]
    have e : step12 T c (i + j) v = rest12 T (i + j) := if_pos hq
    rw [e] at I' hT'
    have kk := kk ()
    rw [← hT'] at kk
    exact r1_ok hvals I' kk fun l hk => hR l _ _ I' hk
  · intro hq
    have hq := of_decide_eq_false hq
    have hz : v.natAbs < 10 ^ 100 := Nat.lt_of_lt_of_le hvb (by decide)
    have hvt : tinyS (strI v) := Nat.le_trans (strI_300 hvb).2 (by decide)
    wtm_at "st"
    wtm_at "st"
    wtm_at "st"
    rw [del12 hok hcx]
    have e : step12 T c (i + j) v = rest12 T (i + j) ++ [(c, i + j, v)] := if_neg hq
    rw [e] at I' hT'
    have kk := kk ()
    rw [← hT'] at kk
    have e2 : pp12 (rest12 T (i + j)) ++ [(nmX c (i + j), strI v)] = pp12 (rest12 T (i + j) ++ [(c, i + j, v)]) := by unfold pp12; rw [List.map_append]; rfl
    rw [e2]
    exact r1_ok hvals I' kk fun l hk => hR l _ _ I' hk

theorem b3_ok (hset : MSet Q) (hdel : MDel Q) (hgetd : MGetd Q) (hvals : MVals Q) {one two : List Int} (h1 : n3 one) (h2 : n3 two) {pl : List Int} {T : List En} {i : Nat} (I : I12 pl T (i * two.length)) (hi : i < one.length) (hk : Kn ((x_left, .dat (iN i)) :: KU one two (tot T)) l)
    (hR : ∀ l pl T, I12 pl T ((i + 1) * two.length) → Kn (KU one two (tot T)) l → R .next ⟨l, HH pl T⟩) : Ok (law12_b3 Q) ⟨l, HH pl T⟩ (Cut 3 R) := by
  have hl : lenD (.list (two.map PyData.int)) = some two.length := by show some _ = _; rw [List.length_map]
  have hm := h2.1
  have hb : two.length ≤ big := Nat.le_trans hm (by decide)
  have hr : ((two.length : Nat) : Int).natAbs < 2 ^ 40 := by omega
  have hmul : (i + 1) * two.length ≤ 5 * 5 := Nat.mul_le_mul (Nat.le_trans hi h1.1) hm
  rw [Nat.succ_mul] at hmul
  unfold law12_b3
  apply o_for
  · wtm_at "ev"
  refine o_forRng (smallR0 (by omega)) ?_
  rw [intsN]
  refine o_forK (x := x_right) (List.range two.length) iN (fun j l h => ∃ pl T, I12 pl T (i * two.length + j) ∧ h = HH pl T ∧ Kn ((x_left, .dat (iN i)) :: KU one two (tot T)) l) ⟨pl, T, I, rfl, hk⟩ ?_ ?_
  · rintro j a l h hja ⟨pl, T, I, rfl, hk⟩ l' hl'
    obtain ⟨hlt, rfl⟩ := List.getElem?_eq_some_iff.mp hja
    rw [List.length_range] at hlt
    rw [List.getElem_range] at hl'
    exact b2_ok hset hdel hgetd hvals h1 h2 I hi hlt (by omega) (hl' _ hk) fun l pl T I hk => ⟨pl, T, I, rfl, hk⟩
  · rintro l h ⟨pl, T, I, rfl, hk⟩
    rw [List.length_range] at I
    show Ok endM ⟨l, HH pl T⟩ (Cut 3 R)
    refine o_end (cut_ok' rfl rfl rfl (hR _ _ _ (by rw [Nat.succ_mul]; exact I) (kn_cut rfl ?_)))
    wtm_at "kn"

noncomputable def HE (pl : List Int) (T : List En) (kv : List (Int × PyData)) : List AObj := [.lst (pl.map .int), .inst (some 2), .lst ((pp12 T).map pr), .dctI kv]
noncomputable def HF (pl : List Int) (T : List En) (kv kw : List (Int × PyData)) : List AObj := [.lst (pl.map .int), .inst (some 2), .lst ((pp12 T).map pr), .dctI kv, .dctI kw]
noncomputable def encE (e : En) : Int × PyData := ((e.2.1 : Int), .str (strI e.2.2))
noncomputable def encR (pl : List Int) (k : Nat) : Int × PyData := ((k : Int), .str (strI (pl.getD k 0)))
noncomputable def nz (pl : List Int) (k : Nat) : Bool := !decide (pl.getD k 0 = 0)
noncomputable abbrev KE : List (Str × V) := [(x_plain, .obj 0), (x_table, .obj 1), (x_ends, .obj 3)]
noncomputable abbrev KF : List (Str × V) := (x_right, .obj 4) :: KE
theorem putD_new {K : Type} [DecidableEq K] {kvs : List (K × PyData)} {k : K} {d : PyData} (h : ∀ kv ∈ kvs, kv.1 ≠ k) : putD kvs k d = kvs ++ [(k, d)] := by
  unfold putD
  rw [if_neg]
  intro q
  obtain ⟨kv, h1, h2⟩ := List.any_eq_true.mp q
  exact h kv h1 (of_decide_eq_true h2)
theorem valD_of {K : Type} [DecidableEq K] {kvs : List (K × PyData)} {k : K} {d : PyData} (h1 : ∃ kv ∈ kvs, kv.1 = k) (h2 : ∀ kv ∈ kvs, kv.1 = k → kv.2 = d) : valD kvs k = some d := by
  unfold valD
  cases hf : kvs.find? (fun kv => decide (kv.1 = k)) with
  | none =>
    obtain ⟨kv, h3, h4⟩ := h1
    exact absurd (List.find?_eq_none.mp hf kv h3) (by simp [h4])
  | some kv =>
    have h3 := List.mem_of_find?_eq_some hf
    have h4 : kv.1 = k := of_decide_eq_true (List.find?_some (p := fun kv : K × PyData => decide (kv.1 = k)) hf)
    rw [Option.map_some, h2 kv h3 h4]
theorem I12.perm {pl : List Int} {T : List En} {n : Nat} (I : I12 pl T n) : (T.map (·.2.1)).Perm ((List.range 10).filter (nz pl)) := by
  rw [List.perm_ext_iff_of_nodup I.nd (List.Pairwise.filter _ List.nodup_range)]
  intro k
  rw [List.mem_filter, List.mem_range]
  unfold nz
  constructor
  · intro hk
    obtain ⟨e, he, rfl⟩ := List.mem_map.mp hk
    obtain ⟨g1, g2, g3⟩ := I.mem e he
    exact ⟨g1, by rw [g2]; simpa using g3⟩
  · rintro ⟨g1, g2⟩
    obtain ⟨e, he, rfl⟩ := I.all k g1 (by simpa using g2)
    exact List.mem_map_of_mem he
theorem I12.same {pl : List Int} {T : List En} {n : Nat} (I : I12 pl T n) : eqKv (T.map encE) (((List.range 10).filter (nz pl)).map (encR pl)) = true ∧ T.length = (((List.range 10).filter (nz pl)).map (encR pl)).length := by
  have hl := I.perm.length_eq
  rw [List.length_map] at hl
  refine ⟨?_, by rw [List.length_map]; exact hl⟩
  unfold eqKv
  rw [Bool.and_eq_true]
  refine ⟨by rw [List.length_map, List.length_map, hl]; simp, ?_⟩
  rw [List.all_eq_true]
  intro kv hkv
  obtain ⟨e, he, rfl⟩ := List.mem_map.mp hkv
  obtain ⟨g1, g2, g3⟩ := I.mem e he
  have : valD (((List.range 10).filter (nz pl)).map (encR pl)) (encE e).1 = some (.str (strI e.2.2)) := by
    refine valD_of ⟨encR pl e.2.1, List.mem_map_of_mem (I.perm.mem_iff.mp (List.mem_map_of_mem (f := fun e : En => e.2.1) he)), rfl⟩ fun kv hkv q => ?_
    obtain ⟨k, hk, rfl⟩ := List.mem_map.mp hkv
    have q : ((k : Nat) : Int) = ((e.2.1 : Nat) : Int) := q
    have q : k = e.2.1 := by omega
    subst q
    show PyData.str (strI (pl.getD e.2.1 0)) = _
    rw [g2]
  rw [this]
  show PyData.eqv (.str (strI e.2.2)) (.str (strI e.2.2)) = true
  rw [eqv_str]; simp
theorem zip_pr (ps : List (Str × Str)) : zipD (ps.map fun p => .str p.1) (ps.map fun p => .str p.2) = ps.map pr := by
  unfold zipD
  rw [List.zip_map', List.map_map]; rfl

/-- a pair of the table goes into the dict -/
theorem b4_ok {pl : List Int} {T : List En} {n j : Nat} {e : En} (I : I12 pl T n) (he : T[j]? = some e) (hk : Kn ((x_value, .dat (.str (strI e.2.2))) :: (x_name, .dat (.str (nmX e.1 e.2.1))) :: KE) l)
    (hR : ∀ l, Kn KE l → R .next ⟨l, HE pl T ((T.take (j + 1)).map encE)⟩) : Ok (law12_b4 Q) ⟨l, HE pl T ((T.take j).map encE)⟩ (Cut 4 R) := by
  have e1 : T.take (j + 1) = T.take j ++ [e] := by rw [List.take_add_one, he]; rfl
  have hm := List.mem_of_getElem? he
  have hk10 := (I.mem e hm).1
  have hlen : lenD (.str (nmX e.1 e.2.1)) = some e.2.1 := by
    have := nm_len e.1 e.2.1
    show some (nmX e.1 e.2.1).length = _
    rw [this]
  have hb : e.2.1 ≤ big := Nat.le_trans (Nat.le_of_lt hk10) (by decide)
  have hnew : ∀ kv ∈ (T.take j).map encE, kv.1 ≠ ((e.2.1 : Nat) : Int) := fun kv hkv q => by
    obtain ⟨f, hf, rfl⟩ := List.mem_map.mp hkv
    have q : ((f.2.1 : Nat) : Int) = ((e.2.1 : Nat) : Int) := q
    have q : f.2.1 = e.2.1 := by omega
    have hn : ((T.take (j + 1)).map (·.2.1)).Nodup := List.Nodup.sublist (List.Sublist.map _ (List.take_sublist _ _)) I.nd
    rw [e1, List.map_append] at hn
    exact (List.nodup_append.mp hn).2.2 _ (List.mem_map_of_mem hf) _ (.head _) q
  unfold law12_b4
  refine o_asgD (σ1 := ⟨l, HE pl T ((T.take j).map encE)⟩) (σ2 := ⟨l, HE pl T ((T.take j).map encE)⟩) (l2 := l) (h2 := HE pl T ((T.take j).map encE)) (d := .str (strI e.2.2)) (j := 3) (v := .dat (.int (e.2.1 : Int))) (by wtm_at "ev") (by wtm_at "ev") (by wtm_at "ev") (a := .dctI ((T.take j).map encE)) rfl (un := udI) rfl (ky := kyI) rfl ?_ ?_
  · rw [List.length_map]
    exact Nat.le_trans (List.length_take_le' _ _) (Nat.le_trans I.tlen (by decide))
  · rw [putD_new hnew]
    have hf := hR (cutL 4 l) (kn_cut rfl (by wtm_at "kn"))
    rw [e1, List.map_append] at hf
    exact o_end (cut_ok' rfl rfl rfl hf)

/-- a place of the plain row goes into the other dict -/
theorem b5_ok {pl : List Int} {T : List En} {n k : Nat} {kv : List (Int × PyData)} (I : I12 pl T n) (hk10 : k < 10) (hk : Kn ((x_place, .dat (.int (k : Int))) :: KF) l)
    (hR : ∀ l, Kn KF l → R .next ⟨l, HF pl T kv (((List.range (k + 1)).filter (nz pl)).map (encR pl))⟩) : Ok (law12_b5 Q) ⟨l, HF pl T kv (((List.range k).filter (nz pl)).map (encR pl))⟩ (Cut 5 R) := by
  have hlt : k < pl.length := by rw [I.len]; exact hk10
  have hd : itemD (.list (pl.map PyData.int)) (.int (k : Int)) = some (.int (pl.getD k 0)) := item_map (by rw [List.getD_eq_getElem?_getD, List.getElem?_eq_getElem hlt]; rfl)
  have hs := small_int (k := k) (by omega)
  have hz : (pl.getD k 0).natAbs < 10 ^ 100 := by
    have := I.bnd k hk10
    have := I.n25
    exact Nat.lt_of_lt_of_le (show (pl.getD k 0).natAbs < 1000 by omega) (by decide)
  have rr : (List.range (k + 1)).filter (nz pl) = (List.range k).filter (nz pl) ++ (if nz pl k then [k] else []) := by
    rw [List.range_succ, List.filter_append]
    congr 1
    rw [List.filter_cons, List.filter_nil]
  unfold law12_b5
  refine o_if (q := nz pl k) (σ1 := ⟨l, HF pl T kv (((List.range k).filter (nz pl)).map (encR pl))⟩) (by unfold nz; wtm_at "ev") ?_ ?_
  · intro hq
    rw [hq, if_pos rfl] at rr
    refine o_assoc (o_asgD (σ1 := ⟨l, HF pl T kv (((List.range k).filter (nz pl)).map (encR pl))⟩) (σ2 := ⟨l, HF pl T kv (((List.range k).filter (nz pl)).map (encR pl))⟩) (l2 := l) (h2 := HF pl T kv (((List.range k).filter (nz pl)).map (encR pl))) (d := .str (strI (pl.getD k 0))) (j := 4) (v := .dat (.int (k : Int))) (by wtm_at "ev") (by wtm_at "ev") (by wtm_at "ev") (a := .dctI (((List.range k).filter (nz pl)).map (encR pl))) rfl (un := udI) rfl (ky := kyI) rfl ?_ ?_)
    · rw [List.length_map]
      refine Nat.le_trans (List.length_filter_le _ _) ?_
      rw [List.length_range]; exact Nat.le_trans (Nat.le_of_lt hk10) (by decide)
    · rw [putD_new fun kv hkv q => by
        obtain ⟨f, hf, rfl⟩ := List.mem_map.mp hkv
        have q : ((f : Nat) : Int) = ((k : Nat) : Int) := q
        have := List.mem_range.mp (List.mem_filter.mp hf).1
        omega]
      have hf := hR (cutL 5 l) (kn_cut rfl (by wtm_at "kn"))
      rw [rr, List.map_append] at hf
      exact o_endthen (o_end (cut_ok' rfl rfl rfl hf))
  · intro hq
    rw [hq] at rr
    simp only [Bool.false_eq_true, if_false, List.append_nil] at rr
    have hf := hR (cutL 5 l) (kn_cut rfl (by wtm_at "kn"))
    rw [rr] at hf
    exact o_endthen (o_end (cut_ok' rfl rfl rfl hf))

/-- the end -/
theorem r7_ok (hvals : MVals Q) (hkeys : MKeys Q) (hitems : MItems Q) {pl : List Int} {T : List En} {n : Nat} (I : I12 pl T n) (hk : Kn KF l) : Ok (law12_r7 Q) ⟨l, HF pl T (T.map encE) (((List.range 10).filter (nz pl)).map (encR pl))⟩ fun f _ => f = .ret (.dat (.bool true)) := by
  obtain ⟨q1, q2⟩ := I.same
  have hS1 : (T.map encE).all (fun kv => strD kv.2) = true := by
    rw [List.all_eq_true]
    intro kv hkv
    obtain ⟨e, he, rfl⟩ := List.mem_map.mp hkv
    rfl
  have hS2 : (((List.range 10).filter (nz pl)).map (encR pl)).all (fun kv => strD kv.2) = true := by
    rw [List.all_eq_true]
    intro kv hkv
    obtain ⟨e, he, rfl⟩ := List.mem_map.mp hkv
    rfl
  generalize (((List.range 10).filter (nz pl)).map (encR pl)) = kR at *
  have t : Tb (HF pl T (T.map encE) kR) 1 2 (pp12 T) := ⟨rfl, rfl, rfl, I.tiny⟩
  have hbT : T.length ≤ big := Nat.le_trans I.tlen (by decide)
  have n1 : Run (neDM (nameS x_ends) (nameS x_right)) ⟨l, HF pl T (T.map encE) kR⟩ (.dat (.bool false)) ⟨l, HF pl T (T.map encE) kR⟩ := by
    have := r_neD (r_name (hp := HF pl T (T.map encE) kR) hk (x := x_ends) rfl) (r_name (hp := HF pl T (T.map encE) kR) hk (x := x_right) rfl) rfl rfl (by rw [hS1, hS2]; rfl)
    rwa [q1] at this
  have n2 : Run (bltM (lenB Q) [imM Q (nameS x_table) x_values [] []]) ⟨l, HF pl T (T.map encE) kR⟩ (.dat (.int (T.length : Int))) ⟨l, HF pl T (T.map encE) kR⟩ := by
    have hlen : lenD (.list ((pp12 T).map fun p => PyData.str p.2)) = some T.length := by
      show some _ = _
      rw [List.length_map]; unfold pp12; rw [List.length_map]
    wtm_at "ev"
  have n3 : Run (bltM lenDB [nameS x_right]) ⟨l, HF pl T (T.map encE) kR⟩ (.dat (.int (T.length : Int))) ⟨l, HF pl T (T.map encE) kR⟩ := by
    rw [q2]
    exact r_blt (q_cons (r_name hk rfl) q_nil) (f_lenD rfl (by rw [← q2]; exact hbT))
  unfold law12_r7
  refine o_if0 (σ1 := ⟨l, HF pl T (T.map encE) kR⟩) (t_or (b := false) (c := false) (t_bool n1) (fun _ => t_cmp (r_cmp n2 n3 (c_rd rd_dat rd_dat (by rw [cNeI]; simp))))) ?_
  wtm_at "st"
  unfold law12_r6
  have hb : ((pp12 T).map fun p => PyData.str p.1).length = ((pp12 T).map fun p => PyData.str p.2).length ∧ ((pp12 T).map fun p => PyData.str p.1).length ≤ big := by
    refine ⟨by rw [List.length_map, List.length_map], ?_⟩
    rw [List.length_map]; unfold pp12; rw [List.length_map]; exact hbT
  refine o_ret (v := .dat (.bool true)) (r_cmp (r_listZip (σ1 := ⟨l, HF pl T (T.map encE) kR⟩) (by wtm_at "ev") hb) (by wtm_at "ev") (c_rd (σ := ⟨l, HF pl T (T.map encE) kR⟩) rd_dat rd_dat ?_)) rfl
  rw [zip_pr, cEqPr]; simp
theorem ints10 : intsD 0 10 = (List.range 10).map iN := by rfl
theorem r9_ok (hvals : MVals Q) (hkeys : MKeys Q) (hitems : MItems Q) {pl : List Int} {T : List En} {n : Nat} {one two : List Int} {tt : Int} (I : I12 pl T n) (hk : Kn (KU one two tt) l) : Ok (law12_r9 Q) ⟨l, HH pl T⟩ fun f _ => f = .ret (.dat (.bool true)) := by
  unfold law12_r9
  refine o_asg (r_newO (o := .dctI [])) hk fun l hk => ?_
  show Ok _ ⟨l, HE pl T []⟩ _
  have hk : Kn KE l := by wtm_at "kn"
  have t : Tb (HE pl T []) 1 2 (pp12 T) := ⟨rfl, rfl, rfl, I.tiny⟩
  have r1 : Run (seqS [imM Q (nameS x_table) x_keys [] [], imM Q (nameS x_table) x_values [] []]) ⟨l, HE pl T []⟩ [.dat (.list ((pp12 T).map fun p => .str p.1)), .dat (.list ((pp12 T).map fun p => .str p.2))] ⟨l, HE pl T []⟩ := by wtm_at "ev"
  refine o_forZip r1 (by rw [List.length_map, List.length_map]) ?_
  rw [zip_pr]
  have e1 : (pp12 T).map pr = T.map fun e => .tuple [.str (nmX e.1 e.2.1), .str (strI e.2.2)] := by unfold pp12; rw [List.map_map]; rfl
  rw [e1]
  refine o_forK2 (x := x_name) (y := x_value) T (fun e => .str (nmX e.1 e.2.1)) (fun e => .str (strI e.2.2)) (fun j l h => h = HE pl T ((T.take j).map encE) ∧ Kn KE l) ⟨by rw [List.take_zero]; rfl, hk⟩ ?_ ?_
  · rintro j e l h he ⟨rfl, hk⟩ l' hl
    exact b4_ok I he (hl _ hk) fun l hk => ⟨rfl, hk⟩
  · rintro l h ⟨rfl, hk⟩
    rw [List.take_length]
    show Ok (law12_r8 Q) _ _
    unfold law12_r8
    refine o_asg (r_newO (o := .dctI [])) hk fun l hk => ?_
    show Ok _ ⟨l, HF pl T (T.map encE) []⟩ _
    have hk : Kn KF l := by wtm_at "kn"
    apply o_for
    · wtm_at "ev"
    refine o_forRng (by decide) ?_
    rw [ints10]
    refine o_forK (x := x_place) (List.range 10) iN (fun k l h => h = HF pl T (T.map encE) (((List.range k).filter (nz pl)).map (encR pl)) ∧ Kn KF l) ⟨rfl, hk⟩ ?_ ?_
    · rintro k a l h hka ⟨rfl, hk⟩ l' hl
      obtain ⟨hlt, rfl⟩ := List.getElem?_eq_some_iff.mp hka
      rw [List.length_range] at hlt
      rw [List.getElem_range] at hl
      exact b5_ok I hlt (hl _ hk) fun l hk => ⟨rfl, hk⟩
    · rintro l h ⟨rfl, hk⟩
      exact r7_ok hvals hkeys hitems I hk

theorem pick_len {α : Type} {xs : List α} {lo : Int} (h : lo = 0 ∨ lo = 1) : (pick3 lo 10 2 xs).length ≤ 5 := by
  unfold pick3
  refine Nat.le_trans (List.length_filterMap_le _ _) ?_
  unfold sliceRange sliceBounds
  rw [List.length_map, List.length_range]
  simp only [Option.getD_some]
  rcases h with rfl | rfl <;> simp <;> omega
theorem pick_map {α β : Type} {xs : List α} {f : α → β} {lo hi st : Int} : pick3 lo hi st (xs.map f) = (pick3 lo hi st xs).map f := by
  unfold pick3
  rw [List.length_map, List.map_filterMap]
  congr 1
  funext i
  rw [List.getElem?_map]
noncomputable def num12 (n : Int) : Int := n.fmod 7 - 3
theorem num_ok {xs : List Int} (h : xs.length ≤ 5) : n3 (xs.map num12) := ⟨by rw [List.length_map]; exact h, fun a ha => by
  obtain ⟨n, _, rfl⟩ := List.mem_map.mp ha
  have := fmod_range (n := n) (m := 7) (by decide)
  unfold num12
  omega⟩
theorem lc12 {is : List Int} {lo : Int} (hlo : lo = 0 ∨ lo = 1) (hb : (is.map PyData.int).length ≤ big) {K : List (Str × V)} (hk : Kn K l) (hw : wf hp = true) (hs : lkp K x_script = some (.dat (.list (is.map .int)))) :
    Run (lcM (fscope [(x_dot0, .local), (x_number, .local)]) (setLoc x_number) [] (binM .Sub (binM .Mod (nameS x_number) (datM (.int 7))) (datM (.int 3))) (slice3M (nameS x_script) lo 10 2)) ⟨l, hp⟩ (.dat (.list (((pick3 lo 10 2 is).map num12).map .int))) ⟨l, hp⟩ := by
  refine r_lc (σ1 := ⟨l, hp⟩) (v := .dat (.list ((pick3 lo 10 2 is).map .int))) ?_ (cv_dat (ds := (pick3 lo 10 2 is).map .int) rfl ?_)
  · rw [← pick_map]
    exact r_slice3 (r_name hk hs) rd_dat ⟨by decide, hb⟩
  · rw [show ((pick3 lo 10 2 is).map num12).map PyData.int = (pick3 lo 10 2 is).map (PyData.int ∘ num12) by rw [List.map_map]]
    refine comp1m (K := []) (e := PyData.int) (f := PyData.int ∘ num12) hw kn_nil rfl (Nat.le_trans (pick_len hlo) (by decide)) fun n hn l hk => ?_
    show Run _ _ (V.dat (.int (n.fmod 7 - 3))) _
    wtm_at "ev"

theorem law12_ok (hgetd : MGetd Q) (hset : MSet Q) (hdel : MDel Q) (hvals : MVals Q) (hkeys : MKeys Q) (hitems : MItems Q) (hmake : MMake0 Q) (hf : Q.fuel = 1000) {is : List Int} (hl : is.length ≤ 63) (hk : Kn [(x_script, .dat (.list (is.map .int)))] l) : Ok (law12 Q) ⟨l, []⟩ fun f _ => f = .ret (.dat (.bool true)) := by
  have b1 : (is.map PyData.int).length ≤ big := by simp [big]; omega
  have h1 := num_ok (pick_len (xs := is) (.inl rfl))
  have h2 := num_ok (pick_len (xs := is) (.inr rfl))
  unfold law12
  refine o_asg (lc12 (.inl rfl) b1 hk rfl rfl) hk fun l hk => ?_
  refine o_asg (lc12 (.inr rfl) b1 hk rfl rfl) hk fun l hk => ?_
  generalize (pick3 0 10 2 is).map num12 = one at *
  generalize (pick3 1 10 2 is).map num12 = two at *
  wtm_at "st"
  wtm_at "st"
  wtm_at "st"
  have hk : Kn (KU one two 0) l := by wtm_at "kn"
  show Ok _ ⟨l, HH (List.replicate 10 0) []⟩ _
  have hl1 : lenD (.list (one.map PyData.int)) = some one.length := by show some _ = _; rw [List.length_map]
  have hm := h1.1
  have hb : one.length ≤ big := Nat.le_trans hm (by decide)
  have hr : ((one.length : Nat) : Int).natAbs < 2 ^ 40 := by omega
  apply o_for
  · wtm_at "ev"
  refine o_forRng (smallR0 (by omega)) ?_
  rw [intsN]
  refine o_forK (x := x_left) (List.range one.length) iN (fun i l h => ∃ pl T, I12 pl T (i * two.length) ∧ h = HH pl T ∧ Kn (KU one two (tot T)) l) ⟨_, [], by rw [Nat.zero_mul]; exact I12.nil, rfl, hk⟩ ?_ ?_
  · rintro i a l h hia ⟨pl, T, I, rfl, hk⟩ l' hl'
    obtain ⟨hlt, rfl⟩ := List.getElem?_eq_some_iff.mp hia
    rw [List.length_range] at hlt
    rw [List.getElem_range] at hl'
    exact b3_ok hset hdel hgetd hvals h1 h2 I hlt (hl' _ hk) fun l pl T I hk => ⟨pl, T, I, rfl, hk⟩
  · rintro l h ⟨pl, T, I, rfl, hk⟩
    exact r9_ok hvals hkeys hitems I hk
end
end Mine
end

section
open PySem PySem.W PyProof.Rows
set_option Elab.async false
set_option maxRecDepth 100000
set_option maxHeartbeats 8000000
namespace Mine.L12
theorem link {w : World} {s₁ : Shared} {mg mb : Str → Option Value} {prog : Program} {name : Str} {fa a : Addr} {cd : Value} {h₁ : Heap} {is : List Int} {vs : List Value} {sc : Scope} {body : List Stmt} {c : ClaimW} {cl : Str → Option Addr} {mean : ExcName → Option Value} {args : List WData} {tk : Nat} {E : Value → Shared → Prop}
    {ds : List DefItem} {cs : List (Str × PyData)} {os : List (Str × (Obj → Prop))} {ns : List Str}
    (hK : (KK w.params).In s₁.heap) (GL : Glob 0 mg mb ds cs os ns s₁.heap) (F : Fr s₁.heap s₁.heap.objs.size h₁ fun x => List.lookup x [(Str.ofString "script", Value.ref a)].reverse)
    (hl : s₁.heap.IsList a vs.toArray) (hI : IntsAre vs is) (hg : s₁.gens = #[]) (hlen : ¬ ((63 : Nat) : Int) < (is.length : Int)) (hn : ∀ cls, c.raises args cls = false) (hp : c.post args (.bool true) args = true)
    (hk : sc.kind = .function) (hsc : sc.names.lookup (Str.ofString "script") = some .local) (hcl : ((cellsFrom 0 sc.names []).map (·.1)) = []) (e1 : (fdOf (KK w.params) 180).scope = sc) (e2 : bodyOf (fdOf (KK w.params) 180) = body) :
    wpAny (model prog w) (callerA.deeper (envOf name sc s₁.heap.objs.size fa cd)) (execs body (envOf name sc s₁.heap.objs.size fa cd)) (fun f s' => GoodW c cl mean args s₁ (.ok (.ret (match f with | .ret v => v | _ => .none))) s') E
      { heap := h₁, gens := s₁.gens, drawn := s₁.drawn, toks := tk, os := s₁.os } := by
  subst e1 e2
  have ok : CxOk (mkX prog w s₁.heap mg mb) := cxok hK GL.g GL.b GL.builtins GL.nolimit
  exact link_of (X := mkX prog w s₁.heap mg mb) rfl ok (tabok hK GL.g ok) F hl hI hg hn hp hk hsc hcl (fun n P pok => d_fnlaw _ ok pok) (law12_ok h_getd h_set h_del h_vals h_keys h_items h_make0 rfl (by omega) (kn_scr))
end Mine.L12
end

end

open PySem PySem.W PyProof.Rows
set_option maxRecDepth 100000 in
set_option maxHeartbeats 8000000 in
theorem PySem.Challenge.cw_dn0264_12_holds : PySem.Challenge.rw_dn0264_12.Holds := by
  refine Mine.hd ?_
  w_strict (
    k_fill
    intro w s₀ s₁ mg mb G Y fa o pm cd doc dV kV ho hd hcd hD hmg hg args vals as hpre hlay hrd hwl hlo
    have KX := kIn_of Y
    have X := (Ground.X G).1
    have V := (Ground.X G).2
    have GL := glob_more (Ground.glob G (by decide +kernel) (by decide +kernel)) V
    refine Ground.open G ?_
    intro T B D TE TW
    try (refine guard_noD D (by decide +kernel) ?_; clear D)
    obtain ⟨_, _, M⟩ := bmod_of_top T
    have TA := at_of_top T
    clear hmg
    wrow_args hpre hlay hrd hwl hlo
    all_goals (
      first | refine callC_kw (enter_call ?_) | refine enter_call ?_
      w_top on
      try refine codeAny_mono ?_ (fun _ _ g => GoodW.toG g)
      have K0 := below_caller (Top.heap T)
      w_call any ho hd hcd hD T F
      clear hd TA
      k_drop
      skip)
    refine Mine.L12.link (by assumption) (by assumption) (by assumption) (by assumption) (by assumption) (by assumption) (by assumption) (fun _ => rfl) ?_ rfl rfl rfl ?_ ?_; (· kernel_rfl); (· kernel_rfl); (· kernel_rfl))
