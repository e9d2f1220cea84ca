import PyProof.Rows.All
import Wide.All
import OpenK.AllK
import Wide.FinOn
import KE.KPop
import PySem.Challenge.RW_dn0264_05
set_option Elab.async false
set_option linter.all false

section
open PySem
set_option Elab.async false
namespace Mine

/-! The abstract semantics. -/

inductive V where
  | dat (d : PyData)
  | obj (i : Nat)
  | rng (lo hi : Int)
  | emp

inductive AObj where
  | lst (ds : List PyData)
  | frz (ds : List PyData)
  | inst (l : Option Nat)

structure St where
  loc : Str → Option V
  heap : List AObj

noncomputable def M (α : Type) : Type := St → Option (α × St)

noncomputable def mpure {α : Type} (a : α) : M α := fun σ => some (a, σ)
noncomputable def mbind {α β : Type} (m : M α) (f : α → M β) : M β := fun σ => match m σ with
  | none => none
  | some (a, σ') => f a σ'
noncomputable instance : Monad M where
  pure := mpure
  bind := mbind

noncomputable def mfail {α : Type} : M α := fun _ => none
noncomputable def mopt {α : Type} (o : Option α) : M α := fun σ => o.map (·, σ)
noncomputable def mguard (b : Bool) : M Unit := fun σ => if b then some ((), σ) else none

noncomputable def upd (l : Str → Option V) (x : Str) (v : V) : Str → Option V := fun y => if y = x then some v else l y

noncomputable def getLoc (x : Str) : M V := fun σ => (σ.loc x).map (·, σ)
noncomputable def setLoc (x : Str) (v : V) : M Unit := fun σ => some ((), ⟨upd σ.loc x v, σ.heap⟩)
noncomputable def setObj (i : Nat) (o : AObj) : M Unit := fun σ => if i < σ.heap.length then some ((), ⟨σ.loc, σ.heap.set i o⟩) else none
noncomputable def newObj (o : AObj) : M V := fun σ => some (.obj σ.heap.length, ⟨σ.loc, σ.heap ++ [o]⟩)

inductive Fl where
  | next | brk | cont
  | ret (v : V)

/-- an object's reading as data -/
noncomputable def readD : V → M PyData
  | .dat d => mpure d
  | .obj i => fun σ => match σ.heap[i]? with
    | some (.lst ds) => some (.list ds, σ)
    | some (.frz ds) => some (.list ds, σ)
    | _ => none
  | .rng _ _ => mfail
  | .emp => mfail

noncomputable def asDat : V → M PyData
  | .dat d => mpure d
  | _ => mfail

noncomputable def allDat : List V → Option (List PyData)
  | [] => some []
  | .dat d :: r => (allDat r).map (d :: ·)
  | _ :: _ => none

/-- printable signs -/
noncomputable def pc (c : Nat) : Bool := 32 ≤ c && c < 127
noncomputable def asc (x : Str) : Bool := x.cps.toList.all pc

noncomputable def upC (c : Nat) : Nat := if 97 ≤ c && c ≤ 122 then c - 32 else c
noncomputable def mapS (f : Nat → Nat) (x : Str) : Str := ⟨(x.cps.toList.map f).toArray⟩
noncomputable def up (x : Str) : Str := mapS upC x
noncomputable def big : Nat := 1000000

noncomputable def truthD : PyData → Option Bool
  | .none => some false
  | .bool b => some b
  | .int i => some (i != 0)
  | .str x => if x.length ≤ big then some (x.length != 0) else none
  | .list ds => if ds.length ≤ big then some (ds.length != 0) else none
  | _ => none

noncomputable def truthS (v : V) : M Bool := do
  let d ← readD v
  mopt (truthD d)

noncomputable def addD : PyData → PyData → Option PyData
  | .int i, .int j => some (.int (i + j))
  | .str x, .str y => if x.length + y.length ≤ big then some (.str (x ++ y)) else none
  | _, _ => none
noncomputable def intD (f : Int → Int → Option Int) : PyData → PyData → Option PyData
  | .int i, .int j => (f i j).map .int
  | _, _ => none
noncomputable def mulI (i j : Int) : Option Int := if i.natAbs < 2 ^ 31 ∧ j.natAbs < 2 ^ 31 then some (i * j) else none
noncomputable def fdivI (i j : Int) : Option Int := if j ≠ 0 ∧ j.natAbs < 2 ^ 30 then some (i.fdiv j) else none
noncomputable def modI (i j : Int) : Option Int := if j ≠ 0 then some (i.fmod j) else none
noncomputable def binD (op : Operator) (a b : PyData) : Option PyData := match op with
  | .Add => addD a b
  | .Sub => intD (fun i j => some (i - j)) a b
  | .Mult => intD mulI a b
  | .FloorDiv => intD fdivI a b
  | .Mod => intD modI a b
  | _ => none

/-- what is a new list -/
noncomputable def binL : Operator → PyData → PyData → Option (List PyData)
  | .Add, .list xs, .list ys => if xs.length + ys.length ≤ big then some (xs ++ ys) else none
  | _, _, _ => none

noncomputable def binS (op : Operator) (a b : V) : M V := do
  let x ← readD a
  let y ← readD b
  match binD op x y with
  | some d => pure (.dat d)
  | none => do
    let ds ← mopt (binL op x y)
    pure (.dat (.list ds))

noncomputable def eqD (a b : PyData) : Option Bool := if min a.depth b.depth ≤ 50 then some (PyData.eqv a b) else none
noncomputable def neD (a b : PyData) : Option Bool := if min a.depth b.depth ≤ 50 then some (!PyData.eqv a b) else none
noncomputable def ltD : PyData → PyData → Option Bool
  | .int i, .int j => some (decide (i < j))
  | .str x, .str y => some (decide (x.cps.toList < y.cps.toList))
  | _, _ => none
noncomputable def leD : PyData → PyData → Option Bool
  | .int i, .int j => some (decide (i ≤ j))
  | .str x, .str y => some (!decide (y.cps.toList < x.cps.toList))
  | _, _ => none
noncomputable def gtD : PyData → PyData → Option Bool
  | .int i, .int j => some (decide (j < i))
  | .str x, .str y => some (decide (y.cps.toList < x.cps.toList))
  | _, _ => none
noncomputable def geD : PyData → PyData → Option Bool
  | .int i, .int j => some (decide (j ≤ i))
  | .str x, .str y => some (!decide (x.cps.toList < y.cps.toList))
  | _, _ => none
noncomputable def inStr (x y : Str) (f : Bool → Bool) : Option Bool := match x.cps.toList with
  | [c] => some (f (decide (c ∈ y.cps.toList)))
  | _ => none
noncomputable def inLst (a : PyData) (ds : List PyData) (f : Bool → Bool) : Option Bool := if a.depth ≤ 50 then some (f (ds.any fun d => PyData.eqv d a)) else none
noncomputable def inD (f : Bool → Bool) : PyData → PyData → Option Bool
  | .str x, .str y => inStr x y f
  | a, .list ds => inLst a ds f
  | _, _ => none
noncomputable def noneD : PyData → Bool
  | .none => true
  | _ => false
noncomputable def isD (f : Bool → Bool) (a : PyData) : PyData → Option Bool
  | .none => some (f (noneD a))
  | _ => none
noncomputable def cmpD (op : CmpOp) (a b : PyData) : Option Bool := match op with
  | .Eq => eqD a b
  | .NotEq => neD a b
  | .Lt => ltD a b
  | .LtE => leD a b
  | .Gt => gtD a b
  | .GtE => geD a b
  | .In => inD id a b
  | .NotIn => inD not a b
  | .Is => isD id a b
  | .IsNot => isD not a b

/-! scopes -/
noncomputable def okV (n : Nat) : V → Bool
  | .obj i => decide (i < n)
  | _ => true
noncomputable def okO (n : Nat) : AObj → Bool
  | .inst (some l) => decide (l < n)
  | _ => true
noncomputable def cutM (n : Nat) (σ : St) : Option St :=
  if (σ.heap.take n).all (okO n) then some ⟨fun x => (σ.loc x).filter (okV n), σ.heap.take n⟩ else none
noncomputable def okF (n : Nat) : Fl → Bool
  | .ret v => okV n v
  | _ => true

noncomputable def scopeM (m : M Fl) : M Fl := fun σ => match m σ with
  | none => none
  | some (f, σ') => if okF σ.heap.length f then (cutM σ.heap.length σ').map (f, ·) else none

noncomputable def forS (bind : V → M Unit) (body : M Fl) : List V → M Fl
  | [] => mpure .next
  | v :: vs => fun σ => match scopeM (do bind v; body) σ with
    | none => none
    | some (.brk, σ') => some (.next, σ')
    | some (.ret r, σ') => some (.ret r, σ')
    | some (_, σ') => forS bind body vs σ'

noncomputable def whileS (test : M Bool) (body : M Fl) : Nat → M Fl
  | 0 => mfail
  | n + 1 => fun σ => match test σ with
    | none => none
    | some (false, σ') => some (.next, σ')
    | some (true, σ') => match scopeM body σ' with
      | none => none
      | some (.brk, σ'') => some (.next, σ'')
      | some (.ret r, σ'') => some (.ret r, σ'')
      | some (_, σ'') => whileS test body n σ''

noncomputable def allS : List (M Bool) → M Bool
  | [] => mpure true
  | t :: r => do
    let b ← t
    if b then allS r else mpure false

noncomputable def bindP (ps : List Str) (vs : List V) : Str → Option V := fun x => (ps.zip vs).lookup x

noncomputable def retV : Fl → V
  | .ret v => v
  | _ => .dat .none

noncomputable def callB (ps : List Str) (body : M Fl) (vs : List V) : M V := fun σ =>
  if ps.length = vs.length then match body ⟨bindP ps vs, σ.heap⟩ with
    | none => none
    | some (f, σ') => match (if okV σ.heap.length (retV f) then cutM σ.heap.length σ' else none) with
      | some σ₁ => some (retV f, ⟨σ.loc, σ₁.heap⟩)
      | none => some (retV f, ⟨σ.loc, σ'.heap⟩)
  else none

/-- a loop over an object's list: it is frozen meanwhile -/
noncomputable def frozenG {α : Type} (i : Nat) (m : List PyData → M α) : M α := fun σ => match σ.heap[i]? with
  | some (.lst ds) => (match m ds ⟨σ.loc, σ.heap.set i (.frz ds)⟩ with
    | none => none
    | some (f, σ') => some (f, ⟨σ'.loc, σ'.heap.set i (.lst ds)⟩))
  | some (.frz ds) => m ds σ
  | _ => none

noncomputable def smallR (lo hi : Int) : Bool := decide (lo.natAbs ≤ 2 ^ 40 ∧ hi.natAbs ≤ 2 ^ 40 ∧ (hi - lo).toNat ≤ big)
noncomputable def chars (x : Str) : List PyData := x.cps.toList.map fun c => .str ⟨#[c]⟩
noncomputable def intsD (lo hi : Int) : List PyData := (List.range (hi - lo).toNat).map fun (k : Nat) => .int (lo + (k : Int))

/-- what a loop takes from data -/
noncomputable def itemsD : PyData → Option (List PyData)
  | .list ds => some ds
  | .tuple ds => some ds
  | .str x => some (chars x)
  | _ => none

noncomputable def walkV {α : Type} (m : List V → M α) : V → M α
  | .dat d => match itemsD d with
    | some ds => m (ds.map .dat)
    | none => mfail
  | .rng lo hi => if smallR lo hi = true then m ((intsD lo hi).map .dat) else mfail
  | .emp => mfail
  | .obj i => frozenG i fun ds => m (ds.map .dat)

noncomputable def forV (bind : V → M Unit) (body : M Fl) : V → M Fl := walkV (forS bind body)
/-! calls -/
structure Prm where
  fn : Str → List V → M V
  mt : Str → V → List V → List (Str × V) → M V
  make : List V → M V
  fuel : Nat

noncomputable def constS : Const → M V
  | .none => mpure (.dat .none)
  | .bool b => mpure (.dat (.bool b))
  | .int i => mpure (.dat (.int i))
  | .str x => if asc x then mpure (.dat (.str x)) else mfail
  | _ => mfail

noncomputable def dbg : Str := Str.ofString "__debug__"
noncomputable def nameS (x : Str) : M V := if x = dbg then mpure (.dat (.bool true)) else getLoc x

noncomputable def seqS : List (M V) → M (List V)
  | [] => mpure []
  | m :: r => do
    let v ← m
    let vs ← seqS r
    mpure (v :: vs)

noncomputable def boolS (op : BoolOp) : List (M V) → M V
  | [] => mfail
  | [m] => m
  | m :: r => do
    let v ← m
    let t ← truthS v
    match op, t with
    | .And, false => mpure v
    | .Or, true => mpure v
    | _, _ => boolS op r

noncomputable def isInst (v : V) (σ : St) : Bool := match v with
  | .obj i => (match σ.heap[i]? with | some (.inst _) => true | _ => false)
  | _ => false

noncomputable def cmpS (P : Prm) (op : CmpOp) (a b : V) : M V := fun σ =>
  if isInst b σ then (match op with
    | .In => (do
        let r ← P.mt (Str.ofString "__contains__") b [a] []
        let t ← truthS r
        mpure (.dat (.bool t)) : M V) σ
    | _ => none)
  else (do
    let x ← readD a
    let y ← readD b
    let r ← mopt (cmpD op x y)
    mpure (.dat (.bool r)) : M V) σ

noncomputable def itemD : PyData → PyData → Option PyData
  | .str x, .int i => ((seqIndex? i x.length).bind (x.cps[·]?)).map fun c => .str ⟨#[c]⟩
  | .list ds, .int i => (seqIndex? i ds.length).bind (ds[·]?)
  | .tuple ds, .int i => (seqIndex? i ds.length).bind (ds[·]?)
  | _, _ => none

noncomputable def smallI : PyData → Bool
  | .int i => decide (-(2 ^ 40) ≤ i ∧ i ≤ 2 ^ 40)
  | _ => false

noncomputable def itemS (P : Prm) (o i : V) : M V := fun σ =>
  if isInst o σ then P.mt (Str.ofString "__getitem__") o [i] [] σ
  else (do
    let x ← readD o
    let y ← asDat i
    mguard (smallI y)
    let d ← mopt (itemD x y)
    mpure (.dat d) : M V) σ


noncomputable def isLst (v : V) (σ : St) : Bool := match v with
  | .obj i => (match σ.heap[i]? with | some (.lst _) => true | _ => false)
  | _ => false
noncomputable def lstG (v : V) : M Unit := fun σ => if isLst v σ then some ((), σ) else none
noncomputable def instG (v : V) : M Unit := fun σ => if isInst v σ then some ((), σ) else none

/-- a list's method: the answer and the list behind it -/
noncomputable def lstF (F : List PyData → List V → Option (PyData × List PyData)) (v : V) (vs : List V) : M V := fun σ => match v with
  | .obj i => (match σ.heap[i]? with
    | some (.lst ds) => if ds.length ≤ big then (F ds vs).map fun r => (.dat r.1, ⟨σ.loc, σ.heap.set i (.lst r.2)⟩) else none
    | _ => none)
  | _ => none
noncomputable def appF (ds : List PyData) : List V → Option (PyData × List PyData)
  | [.dat d] => some (.none, ds ++ [d])
  | _ => none
noncomputable def lenD : PyData → Option Nat
  | .str x => some x.length
  | .list ds => some ds.length
  | .tuple ds => some ds.length
  | _ => none

noncomputable def lenS (P : Prm) (v : V) : M V := fun σ =>
  if isInst v σ then (do
    let r ← P.mt (Str.ofString "__len__") v [] []
    match r with
    | .dat (.int n) => if 0 ≤ n ∧ n ≤ big then mpure (.dat (.int n)) else mfail
    | _ => mfail : M V) σ
  else (do
    let d ← readD v
    let n ← mopt (lenD d)
    mguard (decide (n ≤ big))
    mpure (.dat (.int n)) : M V) σ

noncomputable def strI (i : Int) : Str := Str.ofString (toString i)

/-- built-in functions -/
noncomputable def lenB (P : Prm) : List V → M V
  | [v] => lenS P v
  | _ => mfail
noncomputable def strB : List V → M V
  | [.dat (.int i)] => if i.natAbs < 10 ^ 100 then mpure (.dat (.str (strI i))) else mfail
  | _ => mfail
/-- list(x): what the new list holds -/
noncomputable def listOfS (v : V) : M (List PyData) := fun σ => match v with
  | .rng lo hi => if smallR lo hi = true ∧ (intsD lo hi).length ≤ big then some (intsD lo hi, σ) else none
  | v => (do
    let d ← readD v
    let ds ← mopt (itemsD d)
    mguard (decide (ds.length ≤ big))
    mpure ds : M (List PyData)) σ

noncomputable def typeN : V → M Str
  | .dat (.str _) => mpure (Str.ofString "str")
  | .dat (.list _) => mpure (Str.ofString "list")
  | .dat (.int _) => mpure (Str.ofString "int")
  | .dat .none => mpure (Str.ofString "NoneType")
  | .obj i => fun σ => match σ.heap[i]? with
    | some (.lst _) => some (Str.ofString "list", σ)
    | some (.frz _) => some (Str.ofString "list", σ)
    | _ => none
  | _ => mfail

noncomputable def clampI (k : Int) (n : Nat) : Nat := if k < 0 then (k + n).toNat else min k.toNat n

/-- a slice by ones; none for a missing end -/
noncomputable def loN (lo : Option Int) (n : Nat) : Nat := match lo with | none => 0 | some k => clampI k n
noncomputable def hiN (hi : Option Int) (n : Nat) : Nat := match hi with | none => n | some k => clampI k n
noncomputable def cutD (lo hi : Option Int) : PyData → Option PyData
  | .list ds => if ds.length ≤ big then some (.list ((ds.take (hiN hi ds.length)).drop (loN lo ds.length))) else none
  | .str x => if x.length ≤ big then some (.str ⟨((x.cps.toList.take (hiN hi x.length)).drop (loN lo x.length)).toArray⟩) else none
  | _ => none

noncomputable def boundS : Option V → Option (Option Int)
  | none => some none
  | some (.dat (.int i)) => if -(2 ^ 40) ≤ i ∧ i ≤ 2 ^ 40 then some (some i) else none
  | _ => none

noncomputable def listS (_ : Prm) (ms : List (M V)) : M (List PyData) := do
  let vs ← seqS ms
  let ds ← mopt (allDat vs)
  mguard (decide (ds.length ≤ big))
  mpure ds

noncomputable def kwS : List (Str × M V) → M (List (Str × V))
  | [] => mpure []
  | (n, m) :: r => do
    let v ← m
    let vs ← kwS r
    mpure ((n, v) :: vs)

noncomputable def optS : Option (M V) → M (Option V)
  | none => mpure none
  | some m => do
    let v ← m
    mpure (some v)

noncomputable def allTS (op : BoolOp) : List (M Bool) → M Bool
  | [] => mpure (op == .And)
  | m :: r => do
    let b ← m
    match op, b with
    | .And, false => mpure false
    | .Or, true => mpure true
    | _, _ => allTS op r

noncomputable def attrS (o : V) (name : Str) : M V := fun σ => match o with
  | .obj i => (match σ.heap[i]? with
    | some (.inst (some l)) => if name = Str.ofString "_headers" then some (.obj l, σ) else none
    | _ => none)
  | _ => none

noncomputable def sliceS (o : V) (lo hi : Option V) : M V := do
  let d ← readD o
  let a ← mopt (boundS lo)
  let b ← mopt (boundS hi)
  let r ← mopt (cutD a b d)
  mpure (.dat r)

noncomputable def setAttrS (o : V) (name : Str) (v : V) : M Unit := fun σ => match o, v with
  | .obj i, .obj l => (match σ.heap[i]?, σ.heap[l]? with
    | some (.inst none), some (.lst _) => if name = Str.ofString "_headers" then some ((), ⟨σ.loc, σ.heap.set i (.inst (some l))⟩) else none
    | _, _ => none)
  | _, _ => none

end Mine
end

section
open PySem
set_option Elab.async false
namespace Mine

structure Cx where
  prog : Program
  w : World
  base : Heap
  C : Addr
  K : W.Frag
  mg : Str → Option Value
  mb : Str → Option Value

mutual
noncomputable def DR (h : Heap) (ok : Addr → Prop) : PyData → Value → Prop
  | .none, v => v = .none
  | .bool b, v => v = .bool b
  | .int i, v => ∃ t, v = .int i t
  | .str x, v => asc x = true ∧ ∃ t, v = .str x t
  | .list xs, v => ∃ a o vs n, v = .ref a ∧ ok a ∧ h.get? a = some o ∧ o.cls = .type "list" ∧ o.data = .seq vs n ∧ DRs h ok xs vs.toList
  | .tuple xs, v => ∃ a o vs n, v = .ref a ∧ ok a ∧ h.get? a = some o ∧ o.cls = .type "tuple" ∧ o.data = .seq vs n ∧ DRs h ok xs vs.toList
  | .dict _, _ => False
noncomputable def DRs (h : Heap) (ok : Addr → Prop) : List PyData → List Value → Prop
  | [], vs => vs = []
  | x :: xs, vs => ∃ v r, vs = v :: r ∧ DR h ok x v ∧ DRs h ok xs r
end

mutual
theorem DR.mono {h h' : Heap} {ok ok' : Addr → Prop} (k : ∀ a o, ok a → h.get? a = some o → h'.get? a = some o ∧ ok' a) :
    ∀ {d : PyData} {v : Value}, DR h ok d v → DR h' ok' d v
  | .none, _, e => by simp only [DR] at e ⊢; exact e
  | .bool _, _, e => by simp only [DR] at e ⊢; exact e
  | .int _, _, e => by simp only [DR] at e ⊢; exact e
  | .str _, _, e => by simp only [DR] at e ⊢; exact e
  | .list _, _, e => by
    simp only [DR] at e ⊢
    obtain ⟨a, o, vs, n, rfl, h1, h2, h3, h4, h5⟩ := e
    exact ⟨a, o, vs, n, rfl, (k a o h1 h2).2, (k a o h1 h2).1, h3, h4, DRs.mono k h5⟩
  | .tuple _, _, e => by
    simp only [DR] at e ⊢
    obtain ⟨a, o, vs, n, rfl, h1, h2, h3, h4, h5⟩ := e
    exact ⟨a, o, vs, n, rfl, (k a o h1 h2).2, (k a o h1 h2).1, h3, h4, DRs.mono k h5⟩
  | .dict _, _, e => by simp only [DR] at e
theorem DRs.mono {h h' : Heap} {ok ok' : Addr → Prop} (k : ∀ a o, ok a → h.get? a = some o → h'.get? a = some o ∧ ok' a) :
    ∀ {ds : List PyData} {vs : List Value}, DRs h ok ds vs → DRs h' ok' ds vs
  | [], _, e => by simp only [DRs] at e ⊢; exact e
  | _ :: _, _, e => by
    simp only [DRs] at e ⊢
    obtain ⟨v, r, rfl, h1, h2⟩ := e
    exact ⟨v, r, rfl, DR.mono k h1, DRs.mono k h2⟩
end

/-- the plain reading, for the library's rules -/
theorem strOk_of_asc {x : Str} (h : asc x = true) : PyData.strOk x = true := by
  unfold asc at h
  unfold PyData.strOk
  rw [← Array.all_toList]
  rw [List.all_eq_true] at h ⊢
  intro c hc
  have := h c hc
  unfold pc at this
  simp only [Bool.and_eq_true, decide_eq_true_eq] at this ⊢
  omega

mutual
theorem DR.reads {h : Heap} {ok : Addr → Prop} : ∀ {d : PyData} {v : Value}, DR h ok d v → (∃ as, Reads h v d as) ∧ d.canLay0 = true
  | .none, _, e => by simp only [DR] at e; subst e; exact ⟨⟨_, .none⟩, by simp [PyData.canLay0]⟩
  | .bool _, _, e => by simp only [DR] at e; subst e; exact ⟨⟨_, .bool _⟩, by simp [PyData.canLay0]⟩
  | .int _, _, e => by simp only [DR] at e; obtain ⟨t, rfl⟩ := e; exact ⟨⟨_, .int _ _⟩, by simp [PyData.canLay0]⟩
  | .str _, _, e => by simp only [DR] at e; obtain ⟨q, t, rfl⟩ := e; exact ⟨⟨_, .str _ _⟩, by simp only [PyData.canLay0]; exact strOk_of_asc q⟩
  | .list _, _, e => by
    simp only [DR] at e
    obtain ⟨a, o, vs, n, rfl, _, h2, h3, h4, h5⟩ := e
    obtain ⟨⟨as, r⟩, c⟩ := DRs.reads h5
    exact ⟨⟨_, .list h2 h3 h4 r⟩, by simp only [PyData.canLay0]; exact c⟩
  | .tuple _, _, e => by
    simp only [DR] at e
    obtain ⟨a, o, vs, n, rfl, _, h2, h3, h4, h5⟩ := e
    obtain ⟨⟨as, r⟩, c⟩ := DRs.reads h5
    exact ⟨⟨_, .tuple h2 h3 h4 r⟩, by simp only [PyData.canLay0]; exact c⟩
  | .dict _, _, e => by simp only [DR] at e
theorem DRs.reads {h : Heap} {ok : Addr → Prop} : ∀ {ds : List PyData} {vs : List Value}, DRs h ok ds vs → (∃ as, ReadsAll h vs ds as) ∧ PyData.canLayAll0 ds = true
  | [], _, e => by simp only [DRs] at e; subst e; exact ⟨⟨_, .nil⟩, by simp [PyData.canLayAll0]⟩
  | _ :: _, _, e => by
    simp only [DRs] at e
    obtain ⟨v, r, rfl, h1, h2⟩ := e
    obtain ⟨⟨as, r1⟩, c1⟩ := DR.reads h1
    obtain ⟨⟨bs, r2⟩, c2⟩ := DRs.reads h2
    exact ⟨⟨_, .cons r1 r2⟩, by simp only [PyData.canLayAll0, c1, c2, Bool.and_self]⟩
end

theorem DRs.length {h : Heap} {ok : Addr → Prop} : ∀ {ds : List PyData} {vs : List Value}, DRs h ok ds vs → vs.length = ds.length
  | [], _, e => by simp only [DRs] at e; subst e; rfl
  | _ :: _, _, e => by
    simp only [DRs] at e
    obtain ⟨v, r, rfl, _, h2⟩ := e
    simp only [List.length_cons, h2.length]

theorem DRs.append {h : Heap} {ok : Addr → Prop} : ∀ {ds es : List PyData} {vs ws : List Value}, DRs h ok ds vs → DRs h ok es ws → DRs h ok (ds ++ es) (vs ++ ws)
  | [], _, _, _, e, k => by simp only [DRs] at e; subst e; exact k
  | _ :: _, _, _, _, e, k => by
    simp only [DRs] at e
    obtain ⟨v, r, rfl, h1, h2⟩ := e
    simp only [List.cons_append, DRs]
    exact ⟨v, r ++ _, rfl, h1, h2.append k⟩

theorem DRs.one {h : Heap} {ok : Addr → Prop} {d : PyData} {v : Value} (e : DR h ok d v) : DRs h ok [d] [v] := by
  simp only [DRs]; exact ⟨v, [], rfl, e, rfl⟩

theorem DRs.get {h : Heap} {ok : Addr → Prop} : ∀ {ds : List PyData} {vs : List Value} {k : Nat} {d : PyData}, DRs h ok ds vs → ds[k]? = some d → ∃ v, vs[k]? = some v ∧ DR h ok d v
  | [], _, _, _, _, e => by simp at e
  | _ :: _, _, 0, _, e, q => by
    simp only [DRs] at e
    obtain ⟨v, r, rfl, h1, h2⟩ := e
    simp at q; subst q
    exact ⟨v, rfl, h1⟩
  | _ :: _, _, k + 1, _, e, q => by
    simp only [DRs] at e
    obtain ⟨v, r, rfl, h1, h2⟩ := e
    simp at q
    obtain ⟨u, hu, hd⟩ := h2.get q
    exact ⟨u, by simpa using hu, hd⟩

theorem DRs.getV {h : Heap} {ok : Addr → Prop} : ∀ {ds : List PyData} {vs : List Value} {k : Nat} {v : Value}, DRs h ok ds vs → vs[k]? = some v → ∃ d, ds[k]? = some d ∧ DR h ok d v := by
  intro ds vs k v e q
  have hl := e.length
  have hk : k < ds.length := by rw [← hl]; exact (List.getElem?_eq_some_iff.mp q).1
  obtain ⟨u, hu, hd⟩ := e.get (List.getElem?_eq_getElem hk)
  rw [q] at hu; cases hu
  exact ⟨_, List.getElem?_eq_getElem hk, hd⟩

theorem DRs.take {h : Heap} {ok : Addr → Prop} : ∀ {ds : List PyData} {vs : List Value} (k : Nat), DRs h ok ds vs → DRs h ok (ds.take k) (vs.take k)
  | [], _, _, e => by simp only [DRs] at e; subst e; simp [DRs]
  | _ :: _, _, 0, e => by simp [DRs]
  | _ :: _, _, k + 1, e => by
    simp only [DRs] at e
    obtain ⟨v, r, rfl, h1, h2⟩ := e
    simp only [List.take_succ_cons, DRs]
    exact ⟨v, _, rfl, h1, h2.take k⟩
theorem DRs.drop {h : Heap} {ok : Addr → Prop} : ∀ {ds : List PyData} {vs : List Value} (k : Nat), DRs h ok ds vs → DRs h ok (ds.drop k) (vs.drop k)
  | [], _, _, e => by simp only [DRs] at e; subst e; simp [DRs]
  | _ :: _, _, 0, e => by simpa using e
  | _ :: _, _, k + 1, e => by
    simp only [DRs] at e
    obtain ⟨v, r, rfl, h1, h2⟩ := e
    simpa using h2.drop k

/-! frames -/

noncomputable def own (env : Env) : List Addr := env.locals :: env.cells.map (·.2)
/-- what may be written: cells in a def alone -/
noncomputable def wrt (env : Env) : List Addr := env.locals :: (if env.func.isSome then env.cells.map (·.2) else [])
theorem wrt_own {env : Env} {a : Addr} (h : a ∈ wrt env) : a ∈ own env := by
  unfold wrt at h
  split at h
  · exact h
  · simp at h; subst h; exact .head _

structure FrameR (env : Env) (h : Heap) (m cm : Str → Option Value) : Prop where
  kind : env.scope.kind = .function
  globals : env.globals = mainGlobals
  builtins : env.builtins = builtinsNs
  ns : h.Ns env.locals m
  cell : ∀ n c, env.cells.lookup n = some c → h.IsCell c (cm n)
  cells : ∀ n c, (n, c) ∈ env.cells → ∃ v, h.IsCell c v
  apart : env.cells.Pairwise fun x y => x.2 ≠ y.2

noncomputable def valOf (env : Env) (m cm : Str → Option Value) (x : Str) : Option Value := match env.kindOf x with
  | some .local => m x
  | some .cell => if (env.cells.lookup x).isSome then cm x else none
  | _ => none

noncomputable abbrev Mu := List (Addr × List Addr)
noncomputable def root (μ : Mu) (i : Nat) : Option Addr := (μ[i]?).map (·.1)
noncomputable def foot (μ : Mu) : List Addr := μ.flatMap (·.2)

noncomputable def VR (h : Heap) (ok : Addr → Prop) (μ : Mu) : V → Value → Prop
  | .dat d, x => DR h ok d x
  | .obj i, x => ∃ a, root μ i = some a ∧ x = .ref a
  | .rng lo hi, x => ∃ r t u v, x = .ref r ∧ ok r ∧ IsRange h r lo hi 1 t u v
  | .emp, x => ∃ a n, x = .ref a ∧ 1 < a ∧ ok a ∧ h.get? a = some { cls := .type "dict", data := .dict #[] n }

noncomputable abbrev hdrKey : Str := Str.ofString "_headers"

noncomputable def instDict (P : Params) (t : Tok) (n : Nat) (al : Addr) : Obj := { cls := .type "dict", data := .dict #[⟨PyData.keyHash P hdrKey, .str hdrKey t, .ref al⟩] n }

noncomputable def OR (X : Cx) (h : Heap) (ok : Addr → Prop) (μ : Mu) : AObj → Addr → List Addr → Prop
  | .lst ds, a, fp => ∃ vs n, fp = [a] ∧ h.get? a = some { cls := .type "list", data := .seq vs n } ∧ DRs h ok ds vs.toList
  | .frz ds, a, fp => ∃ vs n, fp = [] ∧ h.get? a = some { cls := .type "list", data := .seq vs n } ∧ DRs h ok ds vs.toList
  | .inst l, a, fp => ∃ d, fp = [a, d] ∧ h.get? a = some (W.instObj X.C d) ∧ match l with
    | none => h.get? d = some W.emptyDict
    | some k => ∃ al t n, root μ k = some al ∧ h.get? d = some (instDict X.w.params t n al)

noncomputable def okOf (ρ : List Addr) (μ : Mu) (a : Addr) : Prop := a ∉ ρ ∧ a ∉ foot μ

structure Rel (X : Cx) (ρ : List Addr) (μ : Mu) (env : Env) (σ : St) (h : Heap) : Prop where
  base : ∀ b o, X.base.get? b = some o → h.get? b = some o
  freshR : ∀ a ∈ ρ, X.base.get? a = none
  freshM : ∀ a ∈ foot μ, X.base.get? a = none
  liveR : ∀ a ∈ ρ, ∃ o, h.get? a = some o
  liveM : ∀ a ∈ foot μ, ∃ o, h.get? a = some o
  nod : (foot μ).Nodup
  dis : ∀ a ∈ ρ, a ∉ foot μ
  own : ∀ a ∈ own env, a ∈ ρ
  above : X.base.objs.size ≤ env.locals
  frame : ∃ m cm, FrameR env h m cm ∧ ∀ x v, σ.loc x = some v → ∃ val, valOf env m cm x = some val ∧ VR h (okOf ρ μ) μ v val
  len : μ.length = σ.heap.length
  inj : ∀ i j a, root μ i = some a → root μ j = some a → i = j
  objs : ∀ (i : Nat) o, σ.heap[i]? = some o → ∃ p, μ[i]? = some p ∧ OR X h (okOf ρ μ) μ o p.1 p.2
  frz : ∀ (i : Nat) ds, σ.heap[i]? = some (.frz ds) → ∀ a, root μ i = some a → a ∈ ρ

structure Step (ow : List Addr) (μ μ' : Mu) (s s' : Shared) : Prop where
  same : ∃ h tk, s' = { s with heap := h, toks := tk }
  keep : ∀ b o, s.heap.get? b = some o → b ∉ foot μ → b ∉ ow → s'.heap.get? b = some o
  live : ∀ b o, s.heap.get? b = some o → ∃ o', s'.heap.get? b = some o'
  pre : μ <+: μ'
  new : ∀ b ∈ foot μ', b ∈ foot μ ∨ s.heap.get? b = none

theorem foot_append (μ ν : Mu) : foot (μ ++ ν) = foot μ ++ foot ν := List.flatMap_append
theorem foot_prefix {μ μ' : Mu} (h : μ <+: μ') {a : Addr} (ha : a ∈ foot μ) : a ∈ foot μ' := by
  obtain ⟨r, rfl⟩ := h
  rw [foot_append]
  exact List.mem_append_left _ ha

theorem Step.refl (ow : List Addr) (μ : Mu) (s : Shared) : Step ow μ μ s s :=
  ⟨⟨s.heap, s.toks, rfl⟩, fun _ _ e _ _ => e, fun _ o e => ⟨o, e⟩, List.prefix_refl _, fun _ h => .inl h⟩

theorem Step.trans {ow : List Addr} {μ μ₁ μ₂ : Mu} {s s₁ s₂ : Shared} (a : Step ow μ μ₁ s s₁) (b : Step ow μ₁ μ₂ s₁ s₂) : Step ow μ μ₂ s s₂ := by
  obtain ⟨h1, t1, e1⟩ := a.same
  obtain ⟨h2, t2, e2⟩ := b.same
  refine ⟨⟨h2, t2, by rw [e2, e1]⟩, fun x o e hm ho => ?_, fun x o e => ?_, a.pre.trans b.pre, fun x hx => ?_⟩
  · refine b.keep x o (a.keep x o e hm ho) (fun hm' => ?_) ho
    rcases a.new x hm' with h | h
    · exact hm h
    · rw [e] at h; cases h
  · obtain ⟨o1, q⟩ := a.live x o e
    exact b.live x o1 q
  · rcases b.new x hx with h | h
    · exact a.new x h
    · right
      cases q : s.heap.get? x with
      | none => rfl
      | some o =>
        obtain ⟨o1, q1⟩ := a.live x o q
        rw [h] at q1; cases q1

theorem root_prefix {μ μ' : Mu} (h : μ <+: μ') {i : Nat} {a : Addr} (e : root μ i = some a) : root μ' i = some a := by
  unfold root at e ⊢
  obtain ⟨fp, h1, h2⟩ := Option.map_eq_some_iff.mp e
  obtain ⟨r, rfl⟩ := h
  rw [List.getElem?_append_left (List.getElem?_eq_some_iff.mp h1).1, h1]
  exact congrArg some h2

/-- what is not excluded stays what it is, and stays not excluded -/
theorem Step.ok {ow ρ : List Addr} {μ μ' : Mu} {s s' : Shared} (a : Step ow μ μ' s s') (how : ∀ x ∈ ow, x ∈ ρ) :
    ∀ b o, okOf ρ μ b → s.heap.get? b = some o → s'.heap.get? b = some o ∧ okOf ρ μ' b := fun b o k e =>
  ⟨a.keep b o e k.2 fun h => k.1 (how b h), k.1, fun h => by
    rcases a.new b h with h | h
    · exact k.2 h
    · rw [e] at h; cases h⟩

theorem VR.mono {h h' : Heap} {ok ok' : Addr → Prop} {μ μ' : Mu} (p : ∀ i a, root μ i = some a → root μ' i = some a) (k : ∀ a o, ok a → h.get? a = some o → h'.get? a = some o ∧ ok' a)
    {v : V} {x : Value} (e : VR h ok μ v x) : VR h' ok' μ' v x := by
  cases v with
  | dat d => exact DR.mono k e
  | obj i => obtain ⟨a, h1, h2⟩ := e; exact ⟨a, p _ _ h1, h2⟩
  | rng lo hi =>
    obtain ⟨r, t, u, v, h1, h2, h3⟩ := e
    exact ⟨r, t, u, v, h1, (k r _ h2 h3).2, (k r _ h2 h3).1⟩
  | emp =>
    obtain ⟨a, n, h1, h0, h2, h3⟩ := e
    exact ⟨a, n, h1, h0, (k a _ h2 h3).2, (k a _ h2 h3).1⟩

theorem VR.step {X : Cx} {ρ : List Addr} {μ μ' : Mu} {env : Env} {σ : St} {s s' : Shared} (R : Rel X ρ μ env σ s.heap) (a : Step (wrt env) μ μ' s s')
    {v : V} {x : Value} (e : VR s.heap (okOf ρ μ) μ v x) : VR s'.heap (okOf ρ μ') μ' v x := e.mono (fun _ _ => root_prefix a.pre) (a.ok fun x hx => R.own x (wrt_own hx))

end Mine
end

section
open PySem
set_option Elab.async false
namespace Mine
theorem all1 {P : Addr → Prop} {a : Addr} (h : P a) : ∀ b ∈ [a], P b := fun b hb => by rw [List.mem_singleton.mp hb]; exact h
theorem notMem1 {a b : Addr} (h : b ≠ a) : b ∉ [a] := fun e => h (List.mem_singleton.mp e)
theorem wrap {P : Prop} (h : ∀ G : Prop, (P → G) → G) : P := h P id

noncomputable abbrev RVt (α β : Type) := Heap → (Addr → Prop) → Mu → β → α → Prop

noncomputable def VRr : RVt Value V := fun h ok μ v x => VR h ok μ v x
noncomputable def EqR {α : Type} : RVt α α := fun _ _ _ b x => x = b

noncomputable def Post {α β : Type} (X : Cx) (ρ : List Addr) (μ : Mu) (env : Env) (s : Shared) (RV : RVt α β) (b : β) (σ' : St) : α → Shared → Prop :=
  fun x s' => ∃ μ', Step (wrt env) μ μ' s s' ∧ Rel X ρ μ' env σ' s'.heap ∧ RV s'.heap (okOf ρ μ') μ' b x

theorem post_elim {α β : Type} {X : Cx} {ρ : List Addr} {μ : Mu} {env : Env} {s : Shared} {RV : RVt α β} {b : β} {σ' : St} {x : α} {s' : Shared} {C : Prop} (z : Post X ρ μ env s RV b σ' x s') (k : ∀ μ', Step (wrt env) μ μ' s s' → Rel X ρ μ' env σ' s'.heap → RV s'.heap (okOf ρ μ') μ' b x → C) : C := by
  obtain ⟨a, h1, h2, h3⟩ := (z : ∃ μ', _)
  exact k a h1 h2 h3

noncomputable def W {α β : Type} (X : Cx) (A : Around) (ρ : List Addr) (μ : Mu) (env : Env) (s : Shared) (RV : RVt α β) (t : Sem α) (r : Option (β × St)) : Prop :=
  ∀ b σ', r = some (b, σ') → wpAny (model X.prog X.w) A t (Post X ρ μ env s RV b σ') (fun _ _ => False) s

structure Ga (n : Nat) (A : Around) : Prop where
  handled : A.handled = none
  depth : A.depth + 4 * n ≤ 900
  units : A.units + 40 * n ≤ 9000

theorem Ga.in1 {n : Nat} {A : Around} (h : Ga (n + 1) A) : Ga n A.in1 := ⟨h.handled, by have := h.depth; show A.depth + 4 * n ≤ 900; omega, by have := h.units; show A.units + 1 + 40 * n ≤ 9000; omega⟩
theorem Ga.deeper {n : Nat} {A : Around} {env : Env} (h : Ga (n + 1) A) : Ga n (A.deeper env) := ⟨h.handled, by have := h.depth; show A.depth + 1 + 4 * n ≤ 900; omega, by have := h.units; show A.units + 3 + 40 * n ≤ 9000; omega⟩
theorem Ga.less {n m : Nat} {A : Around} (h : Ga n A) (k : m ≤ n) : Ga m A := ⟨h.handled, by have := h.depth; omega, by have := h.units; omega⟩
theorem Ga.room {n : Nat} {A : Around} (h : Ga n A) : A.depth < recursionLimit := by have := h.depth; show A.depth < 1000; omega
theorem Ga.c {n : Nat} {A : Around} (h : Ga n A) : A.units + 100 < cLine := by have := h.units; show A.units + 100 < 9900; omega

section
variable {α β γ δ : Type} {X : Cx} {A : Around} {ρ : List Addr} {μ : Mu} {env : Env} {s : Shared} {σ : St}

theorem bind_eq {m : M β} {g : β → M δ} : (m >>= g) = mbind m g := rfl
theorem pure_eq {b : β} : (pure b : M β) = mpure b := rfl

theorem W_bind {RV₁ : RVt α β} {RV₂ : RVt γ δ} {t : Sem α} {f : α → Sem γ} {m : M β} {g : β → M δ} (h1 : W X A ρ μ env s RV₁ t (m σ))
    (h2 : ∀ μ' s' b σ' x, Step (wrt env) μ μ' s s' → Rel X ρ μ' env σ' s'.heap → RV₁ s'.heap (okOf ρ μ') μ' b x → W X A ρ μ' env s' RV₂ (f x) (g b σ')) :
    W X A ρ μ env s RV₂ (t >>= f) ((m >>= g) σ) := by
  intro d σ₂ e
  rw [bind_eq] at e
  unfold mbind at e
  cases q : m σ with
  | none => rw [q] at e; cases e
  | some p =>
    obtain ⟨b, σ₁⟩ := p
    rw [q] at e
    refine wpAny_bind (wpAny_mono (h1 b σ₁ q) (fun x s' z => ?_) fun _ _ z => z.elim)
    first | refine post_elim z fun μ' st R rv => ?_ | obtain ⟨μ', st, R, rv⟩ := z
    refine wpAny_mono (h2 μ' s' b σ₁ x st R rv d σ₂ e) (fun y s'' z => ?_) fun _ _ z => z
    first | refine post_elim z fun μ'' st' R' rv' => ?_ | obtain ⟨μ'', st', R', rv'⟩ := z
    exact ⟨μ'', st.trans st', R', rv'⟩

theorem W_pure {RV : RVt α β} {a : α} {b : β} (R : Rel X ρ μ env σ s.heap) (h : RV s.heap (okOf ρ μ) μ b a) : W X A ρ μ env s RV (pure a) ((pure b : M β) σ) := by
  intro b' σ' e
  rw [pure_eq] at e
  unfold mpure at e
  cases e
  exact wpAny_pure ⟨μ, .refl _ _ _, R, h⟩

theorem W_fail {RV : RVt α β} {t : Sem α} : W X A ρ μ env s RV t none := fun _ _ e => nomatch e

theorem W_conc {RV : RVt α β} {t t' : Sem α} {r : Option (β × St)} (h : W X A ρ μ env s RV t' r)
    (k : ∀ Q, wpAny (model X.prog X.w) A t' Q (fun _ _ => False) s → wpAny (model X.prog X.w) A t Q (fun _ _ => False) s) : W X A ρ μ env s RV t r :=
  fun b σ' e => k _ (h b σ' e)

theorem W_holding {RV : RVt α β} {vs : List Value} {t : Sem α} {r : Option (β × St)} (h : W X A ρ μ env s RV t r) : W X A ρ μ env s RV (holding vs t) r :=
  fun b σ' e => wpAny_holding (h b σ' e)
theorem W_standAt {RV : RVt α β} {pos : Pos} {t : Sem α} {r : Option (β × St)} (h : W X A ρ μ env s RV t r) : W X A ρ μ env s RV (standAt pos >>= fun _ => t) r :=
  fun b σ' e => wpAny_bind (wpAny_standAt (h b σ' e))
theorem W_operate {RV : RVt Value β} {vs : List Value} {t : Sem Value} {r : Option (β × St)} (h : W X A ρ μ env s RV t r) : W X A ρ μ env s RV (operate vs t) r :=
  fun b σ' e => wpAny_operateT (h b σ' e)
end

/-! Rel under growth -/

theorem FrameR.at {env : Env} {h h' : Heap} {m cm : Str → Option Value} (F : FrameR env h m cm) (k : ∀ b ∈ own env, ∀ o, h.get? b = some o → h'.get? b = some o) : FrameR env h' m cm where
  kind := F.kind
  globals := F.globals
  builtins := F.builtins
  ns := F.ns.at' fun o e => k _ (.head _) o e
  cell := fun n c e => by
    obtain ⟨o, h1, h2⟩ := F.cell n c e
    exact ⟨o, k c (.tail _ (List.mem_map.mpr ⟨_, mem_of_lookup e, rfl⟩)) o h1, h2⟩
  cells := fun n c e => by
    obtain ⟨v, o, h1, h2⟩ := F.cells n c e
    exact ⟨v, o, k c (.tail _ (List.mem_map.mpr ⟨_, e, rfl⟩)) o h1, h2⟩
  apart := F.apart

theorem OR.mono {X : Cx} {h h' : Heap} {ok ok' : Addr → Prop} {μ μ' : Mu} (p : ∀ i a, root μ i = some a → root μ' i = some a) (k : ∀ a o, ok a → h.get? a = some o → h'.get? a = some o ∧ ok' a)
    {o : AObj} {a : Addr} {fp : List Addr} (q : ∀ b ∈ a :: fp, ∀ ob, h.get? b = some ob → h'.get? b = some ob) (e : OR X h ok μ o a fp) : OR X h' ok' μ' o a fp := by
  cases o with
  | lst ds =>
    obtain ⟨vs, n, rfl, h1, h2⟩ := e
    exact ⟨vs, n, rfl, q a (by simp) _ h1, DRs.mono k h2⟩
  | frz ds =>
    obtain ⟨vs, n, rfl, h1, h2⟩ := e
    exact ⟨vs, n, rfl, q a (by simp) _ h1, DRs.mono k h2⟩
  | inst l =>
    obtain ⟨d, rfl, h1, h2⟩ := e
    refine ⟨d, rfl, q a (by simp) _ h1, ?_⟩
    cases l with
    | none => exact q d (by simp) _ h2
    | some i =>
      obtain ⟨al, t, n, h3, h4⟩ := h2
      exact ⟨al, t, n, p _ _ h3, q d (by simp) _ h4⟩

/-- an object's root is its own, or reserved -/
theorem OR.root_mem {X : Cx} {h : Heap} {ok : Addr → Prop} {μ : Mu} {o : AObj} {a : Addr} {fp : List Addr} (e : OR X h ok μ o a fp) : a ∈ fp ∨ ∃ ds, o = .frz ds := by
  cases o with
  | lst ds => obtain ⟨vs, n, rfl, _⟩ := e; exact .inl (by simp)
  | frz ds => exact .inr ⟨ds, rfl⟩
  | inst l => obtain ⟨d, rfl, _⟩ := e; exact .inl (by simp)

section
variable {X : Cx} {ρ : List Addr} {μ : Mu} {env : Env} {σ : St} {h h' : Heap}

theorem foot_get {i : Nat} {p : Addr × List Addr} (e : μ[i]? = some p) {a : Addr} (ha : a ∈ p.2) : a ∈ foot μ := List.mem_flatMap.mpr ⟨p, List.mem_of_getElem? e, ha⟩

theorem Rel.okNew (R : Rel X ρ μ env σ h) {a : Addr} (ha : h.get? a = none) : okOf ρ μ a :=
  ⟨fun hm => (by obtain ⟨o, e⟩ := R.liveR a hm; rw [ha] at e; cases e), fun hm => (by obtain ⟨o, e⟩ := R.liveM a hm; rw [ha] at e; cases e)⟩
theorem Rel.notBase (R : Rel X ρ μ env σ h) {a : Addr} (ha : h.get? a = none) : X.base.get? a = none := by
  cases e : X.base.get? a with
  | none => rfl
  | some o => have := R.base a o e; rw [ha] at this; cases this

/-- a frozen list's address is none of the frame's own -/
theorem Rel.frzOff (R : Rel X ρ μ env σ h) {a : Addr} {vs : Array Value} {n : Nat} (e : h.get? a = some { cls := .type "list", data := .seq vs n }) : a ∉ Mine.own env := by
  obtain ⟨m, cm, F, _⟩ := R.frame
  intro hm
  rcases List.mem_cons.mp hm with rfl | hm
  · obtain ⟨o, es, ep, h1, h2, _⟩ := F.ns
    rw [e] at h1; cases h1; cases h2
  · obtain ⟨⟨n', c⟩, h1, rfl⟩ := List.mem_map.mp hm
    obtain ⟨v, o, h2, h3⟩ := F.cells n' c h1
    rw [e] at h2; cases h2; cases h3

/-- the general change: some reserved addresses and some of one object's turn; all else stays -/
theorem Rel.ext (R : Rel X ρ μ env σ h) (k : ∀ b o, h.get? b = some o → h'.get? b = some o) : Rel X ρ μ env σ h' where
  base := fun b o e => k _ _ (R.base b o e)
  freshR := R.freshR
  freshM := R.freshM
  liveR := fun a ha => let ⟨o, e⟩ := R.liveR a ha; ⟨o, k _ _ e⟩
  liveM := fun a ha => let ⟨o, e⟩ := R.liveM a ha; ⟨o, k _ _ e⟩
  nod := R.nod
  dis := R.dis
  own := R.own
  above := R.above
  frame := by
    obtain ⟨m, cm, F, l⟩ := R.frame
    refine ⟨m, cm, F.at fun b _ => k b, fun x v e => ?_⟩
    obtain ⟨val, h1, h2⟩ := l x v e
    exact ⟨val, h1, h2.mono (fun _ _ e => e) fun a o ok e => ⟨k _ _ e, ok⟩⟩
  len := R.len
  inj := R.inj
  objs := fun i o e => by
    obtain ⟨p, h1, h2⟩ := R.objs i o e
    exact ⟨p, h1, h2.mono (fun _ _ e => e) (fun a o ok e => ⟨k _ _ e, ok⟩) fun a _ ob e => k _ _ e⟩
  frz := R.frz

theorem root_some {i : Nat} {p : Addr × List Addr} (e : μ[i]? = some p) : root μ i = some p.1 := by unfold root; rw [e]; rfl

/-- what an object is made of is not another's, nor reserved unless it is frozen -/
theorem Rel.apart (R : Rel X ρ μ env σ h) {i j : Nat} {p q : Addr × List Addr} (hi : μ[i]? = some p) (hj : μ[j]? = some q) (hne : i ≠ j) {a : Addr} (ha : a ∈ p.2) : a ∉ q.2 := by
  intro hb
  have hn := R.nod
  unfold foot at hn
  obtain ⟨hi', rfl⟩ := List.getElem?_eq_some_iff.mp hi
  obtain ⟨hj', rfl⟩ := List.getElem?_eq_some_iff.mp hj
  have hp := (List.pairwise_flatMap.mp hn).2
  rcases Nat.lt_or_gt_of_ne hne with hlt | hlt
  · exact List.pairwise_iff_getElem.mp hp i j hi' hj' hlt a ha a hb rfl
  · exact List.pairwise_iff_getElem.mp hp j i hj' hi' hlt a hb a ha rfl

/-- one object turns -/
theorem Rel.setObj (R : Rel X ρ μ env σ h) {i : Nat} {p : Addr × List Addr} {o' : AObj} (hi : μ[i]? = some p) (hz' : ∀ ds, o' ≠ .frz ds)
    (k : ∀ b ob, b ∉ p.2 → h.get? b = some ob → h'.get? b = some ob) (hl : ∀ b ∈ p.2, ∃ ob, h'.get? b = some ob) (hO : OR X h' (okOf ρ μ) μ o' p.1 p.2) :
    Rel X ρ μ env ⟨σ.loc, σ.heap.set i o'⟩ h' := by
  have kf : ∀ b ob, b ∉ foot μ → h.get? b = some ob → h'.get? b = some ob := fun b ob hb e => k b ob (fun hm => hb (foot_get hi hm)) e
  have kok : ∀ a ob, okOf ρ μ a → h.get? a = some ob → h'.get? a = some ob ∧ okOf ρ μ a := fun a ob q e => ⟨kf a ob q.2 e, q⟩
  refine ⟨fun b ob e => kf b ob (fun hm => ?_) (R.base b ob e), R.freshR, R.freshM, fun a ha => ?_, fun a ha => ?_, R.nod, R.dis, R.own, R.above, ?_, by simp [R.len], R.inj, ?_, ?_⟩
  · rw [R.freshM b hm] at e; cases e
  · obtain ⟨ob, e⟩ := R.liveR a ha; exact ⟨ob, kf a ob (R.dis a ha) e⟩
  · by_cases hm : a ∈ p.2
    · exact hl a hm
    · obtain ⟨ob, e⟩ := R.liveM a ha; exact ⟨ob, k a ob hm e⟩
  · obtain ⟨m, cm, F, l⟩ := R.frame
    refine ⟨m, cm, F.at fun b hb ob e => kf b ob (R.dis b (R.own b hb)) e, fun x v e => ?_⟩
    obtain ⟨val, h1, h2⟩ := l x v e
    exact ⟨val, h1, h2.mono (fun _ _ e => e) kok⟩
  · intro j oj e
    rw [List.getElem?_set] at e
    split at e
    · rename_i hij
      subst hij
      split at e
      · cases e; exact ⟨p, hi, hO⟩
      · cases e
    · rename_i hij
      obtain ⟨q, h1, h2⟩ := R.objs j oj e
      refine ⟨q, h1, h2.mono (fun _ _ e => e) kok fun b hb ob e' => ?_⟩
      refine k b ob (fun hm => ?_) e'
      rcases List.mem_cons.mp hb with rfl | hb
      · rcases h2.root_mem with h3 | ⟨ds, rfl⟩
        · exact R.apart hi h1 hij hm h3
        · exact R.dis _ (R.frz j ds e _ (root_some h1)) (foot_get hi hm)
      · exact R.apart hi h1 hij hm hb
  · intro j ds e a ha
    rw [List.getElem?_set] at e
    split at e
    · split at e
      · cases e; exact absurd rfl (hz' ds)
      · cases e
    · exact R.frz j ds e a ha

/-- a reserved thing turns that is no part of the frame -/
theorem Rel.setRes (R : Rel X ρ μ env σ h) {wr : List Addr} (hw : ∀ a ∈ wr, a ∈ ρ) (ho : ∀ a ∈ wr, a ∉ Mine.own env) (hl : ∀ a ∈ wr, ∃ o, h'.get? a = some o) (hz : ∀ a ∈ wr, ∀ j, root μ j ≠ some a)
    (k : ∀ b o, b ∉ wr → h.get? b = some o → h'.get? b = some o) : Rel X ρ μ env σ h' := by
  have kok : ∀ a ob, okOf ρ μ a → h.get? a = some ob → h'.get? a = some ob ∧ okOf ρ μ a := fun a ob q e => ⟨k a ob (fun hm => q.1 (hw a hm)) e, q⟩
  refine ⟨fun b ob e => k b ob (fun hm => ?_) (R.base b ob e), R.freshR, R.freshM, fun a ha => ?_, fun a ha => ?_, R.nod, R.dis, R.own, R.above, ?_, R.len, R.inj, ?_, R.frz⟩
  · rw [R.freshR b (hw b hm)] at e; cases e
  · by_cases hm : a ∈ wr
    · exact hl a hm
    · obtain ⟨ob, e⟩ := R.liveR a ha; exact ⟨ob, k a ob hm e⟩
  · obtain ⟨ob, e⟩ := R.liveM a ha
    exact ⟨ob, k a ob (fun hm => R.dis a (hw a hm) ha) e⟩
  · obtain ⟨m, cm, F, l⟩ := R.frame
    refine ⟨m, cm, F.at fun b hb ob e => k b ob (fun hm => ho b hm hb) e, fun x v e => ?_⟩
    obtain ⟨val, h1, h2⟩ := l x v e
    exact ⟨val, h1, h2.mono (fun _ _ e => e) kok⟩
  · intro j oj e
    obtain ⟨q, h1, h2⟩ := R.objs j oj e
    refine ⟨q, h1, h2.mono (fun _ _ e => e) kok fun b hb ob e' => k b ob (fun hm => ?_) e'⟩
    rcases List.mem_cons.mp hb with rfl | hb
    · rcases h2.root_mem with h3 | ⟨ds, rfl⟩
      · exact R.dis _ (hw _ hm) (foot_get h1 h3)
      · exact hz _ hm j (root_some h1)
    · exact R.dis _ (hw _ hm) (foot_get h1 hb)

/-- more is reserved -/
theorem Rel.reserve (R : Rel X ρ μ env σ h) {h₂ : Heap} {wr : List Addr} (hn : ∀ a ∈ wr, h₂.get? a = none) (R₂ : Rel X ρ μ env σ h₂) (k : ∀ b o, h₂.get? b = some o → h.get? b = some o) (hl : ∀ a ∈ wr, ∃ o, h.get? a = some o) : Rel X (wr ++ ρ) μ env σ h := by
  have kok : ∀ a ob, okOf ρ μ a → h₂.get? a = some ob → h.get? a = some ob ∧ okOf (wr ++ ρ) μ a := fun a ob q e => ⟨k a ob e, fun hm => by
    rcases List.mem_append.mp hm with hm | hm
    · rw [hn a hm] at e; cases e
    · exact q.1 hm, q.2⟩
  refine ⟨R.base, fun a ha => ?_, R.freshM, fun a ha => ?_, R.liveM, R.nod, fun a ha hm => ?_, fun a ha => List.mem_append_right _ (R.own a ha), R.above, ?_, R.len, R.inj, ?_, fun i ds e a ha => List.mem_append_right _ (R.frz i ds e a ha)⟩
  · rcases List.mem_append.mp ha with ha | ha
    · exact R₂.notBase (hn a ha)
    · exact R.freshR a ha
  · rcases List.mem_append.mp ha with ha | ha
    · exact hl a ha
    · exact R.liveR a ha
  · rcases List.mem_append.mp ha with ha | ha
    · obtain ⟨o, e⟩ := R₂.liveM a hm; rw [hn a ha] at e; cases e
    · exact R.dis a ha hm
  · obtain ⟨m, cm, F, l⟩ := R₂.frame
    refine ⟨m, cm, F.at fun b _ ob e => k b ob e, fun x v e => ?_⟩
    obtain ⟨val, h1, h2⟩ := l x v e
    exact ⟨val, h1, h2.mono (fun _ _ e => e) kok⟩
  · intro j oj e
    obtain ⟨q, h1, h2⟩ := R₂.objs j oj e
    exact ⟨q, h1, h2.mono (fun _ _ e => e) kok fun b hb ob e' => k b ob e'⟩

/-- another frame over the same things -/
theorem Rel.reframe {env₂ : Env} {loc : Str → Option V} (R : Rel X ρ μ env σ h) (ho : ∀ a ∈ Mine.own env₂, a ∈ ρ) (hb : X.base.objs.size ≤ env₂.locals)
    (fr : ∃ m cm, FrameR env₂ h m cm ∧ ∀ x v, loc x = some v → ∃ val, valOf env₂ m cm x = some val ∧ VR h (okOf ρ μ) μ v val) : Rel X ρ μ env₂ ⟨loc, σ.heap⟩ h :=
  ⟨R.base, R.freshR, R.freshM, R.liveR, R.liveM, R.nod, R.dis, ho, hb, fr, R.len, R.inj, R.objs, R.frz⟩

theorem Rel.rootLive (R : Rel X ρ μ env σ h) {j : Nat} {a : Addr} (hj : root μ j = some a) : ∃ o, h.get? a = some o := by
  unfold root at hj
  obtain ⟨p, h1, rfl⟩ := Option.map_eq_some_iff.mp hj
  have hlt : j < σ.heap.length := by rw [← R.len]; exact (List.getElem?_eq_some_iff.mp h1).1
  obtain ⟨q, h2, h3⟩ := R.objs j _ (List.getElem?_eq_getElem hlt)
  rw [h1] at h2; cases h2
  generalize σ.heap[j] = o at h3
  cases o with
  | lst ds => obtain ⟨vs, n, _, h4, _⟩ := h3; exact ⟨_, h4⟩
  | frz ds => obtain ⟨vs, n, _, h4, _⟩ := h3; exact ⟨_, h4⟩
  | inst l => obtain ⟨d, _, h4, _⟩ := h3; exact ⟨_, h4⟩

/-- a new abstract object -/
theorem Rel.newObj (R : Rel X ρ μ env σ h) {a : Addr} {fp : List Addr} {o : AObj} (hf : ∀ b ∈ fp, h.get? b = none) (hnd : fp.Nodup) (hz : ∀ ds, o ≠ .frz ds)
    (k : ∀ b o, h.get? b = some o → h'.get? b = some o) (hl : ∀ b ∈ fp, ∃ ob, h'.get? b = some ob) (hO : OR X h' (okOf ρ (μ ++ [(a, fp)])) (μ ++ [(a, fp)]) o a fp) :
    Rel X ρ (μ ++ [(a, fp)]) env ⟨σ.loc, σ.heap ++ [o]⟩ h' := by
  have hfl : foot (μ ++ [(a, fp)]) = foot μ ++ fp := by rw [foot_append]; simp [foot]
  have R' := R.ext k
  have hok : ∀ b o, okOf ρ μ b → h.get? b = some o → h'.get? b = some o ∧ okOf ρ (μ ++ [(a, fp)]) b := fun b o q e => ⟨k _ _ e, q.1, by
    rw [hfl, List.mem_append]; rintro (hm | hm)
    · exact q.2 hm
    · rw [hf b hm] at e; cases e⟩
  have hpre : ∀ i b, root μ i = some b → root (μ ++ [(a, fp)]) i = some b := fun i b => root_prefix (List.prefix_append _ _)
  refine ⟨R'.base, R.freshR, ?_, R'.liveR, ?_, ?_, ?_, R.own, R.above, ?_, by simp [R.len], ?_, ?_, ?_⟩
  · intro b hm; rw [hfl, List.mem_append] at hm
    rcases hm with hm | hm
    · exact R.freshM b hm
    · exact R.notBase (hf b hm)
  · intro b hm; rw [hfl, List.mem_append] at hm
    rcases hm with hm | hm
    · exact R'.liveM b hm
    · exact hl b hm
  · rw [hfl, List.nodup_append]
    refine ⟨R.nod, hnd, fun x hx y hy => ?_⟩
    rintro rfl
    obtain ⟨o, e⟩ := R.liveM x hx; rw [hf x hy] at e; cases e
  · intro b hm; rw [hfl, List.mem_append]
    rintro (h1 | h1)
    · exact R.dis b hm h1
    · obtain ⟨o, e⟩ := R.liveR b hm; rw [hf b h1] at e; cases e
  · obtain ⟨m, cm, F, l⟩ := R.frame
    refine ⟨m, cm, F.at fun b _ => k b, fun x v e => ?_⟩
    obtain ⟨val, h1, h2⟩ := l x v e
    exact ⟨val, h1, h2.mono hpre hok⟩
  · have hnew : ∀ j, root μ j = some a → False := fun j hj => by
      obtain ⟨o', e'⟩ := R.rootLive hj
      rcases hO.root_mem with h1 | ⟨ds, h1⟩
      · rw [hf a h1] at e'; cases e'
      · exact hz ds h1
    have hcase : ∀ j b, root (μ ++ [(a, fp)]) j = some b → root μ j = some b ∨ (j = μ.length ∧ b = a) := fun j b hj => by
      unfold root at hj ⊢
      rw [List.getElem?_append] at hj
      split at hj
      · exact .inl hj
      · rename_i hlt
        right
        have hj' : j = μ.length := by
          obtain ⟨p, h1, _⟩ := Option.map_eq_some_iff.mp hj
          have := (List.getElem?_eq_some_iff.mp h1).1
          simp at this; omega
        subst hj'
        simp at hj
        exact ⟨rfl, hj.symm⟩
    intro i j b hi hj
    rcases hcase i b hi with h1 | ⟨h1, h2⟩ <;> rcases hcase j b hj with h3 | ⟨h3, h4⟩
    · exact R.inj i j b h1 h3
    · subst h4; exact (hnew i h1).elim
    · subst h2; exact (hnew j h3).elim
    · rw [h1, h3]
  · intro i oi e
    rw [List.getElem?_append] at e
    split at e
    · rename_i hi
      obtain ⟨p, h1, h2⟩ := R.objs i oi e
      exact ⟨p, by rw [List.getElem?_append_left (by rw [R.len]; exact hi)]; exact h1, h2.mono hpre hok fun b _ ob q => k _ _ q⟩
    · rename_i hi
      have hi' : i = σ.heap.length := by
        have := (List.getElem?_eq_some_iff.mp e).1
        simp at this; omega
      subst hi'
      simp at e; subst e
      refine ⟨(a, fp), ?_, hO⟩
      rw [← R.len, List.getElem?_append_right (Nat.le_refl _)]; simp
  · intro i ds e b hb
    rw [List.getElem?_append] at e
    split at e
    · rename_i hi
      refine R.frz i ds e b ?_
      unfold root at hb ⊢
      rwa [List.getElem?_append_left (by rw [R.len]; exact hi)] at hb
    · rename_i hi
      have hi' : i = σ.heap.length := by
        have := (List.getElem?_eq_some_iff.mp e).1
        simp at this; omega
      subst hi'
      simp at e
      exact absurd e (hz ds)

theorem root_last {a : Addr} {fp : List Addr} : root (μ ++ [(a, fp)]) μ.length = some a := by unfold root; simp
end

section
variable {X : Cx} {ρ : List Addr} {μ : Mu} {env : Env} {σ : St} {s : Shared}

theorem Step.grow {ow : List Addr} {h' : Heap} {tk : Nat} (k : ∀ b o, s.heap.get? b = some o → h'.get? b = some o) : Step ow μ μ s { s with heap := h', toks := tk } :=
  ⟨⟨h', tk, rfl⟩, fun b o e _ _ => k b o e, fun b o e => ⟨o, k b o e⟩, List.prefix_refl _, fun _ h => .inl h⟩

/-- an end that only takes tokens -/
theorem post_tok {α β : Type} {RV : RVt α β} {b : β} {x : α} (R : Rel X ρ μ env σ s.heap) (tk : Nat) (h : RV s.heap (okOf ρ μ) μ b x) : Post X ρ μ env s RV b σ x { s with toks := tk } :=
  ⟨μ, .grow (h' := s.heap) (tk := tk) fun _ _ e => e, R, h⟩
theorem post_same {α β : Type} {RV : RVt α β} {b : β} {x : α} (R : Rel X ρ μ env σ s.heap) (h : RV s.heap (okOf ρ μ) μ b x) : Post X ρ μ env s RV b σ x s :=
  ⟨μ, .refl _ _ _, R, h⟩
theorem Step.newObj {h' : Heap} {tk : Nat} {a : Addr} {fp ow : List Addr} (hf : ∀ b ∈ fp, s.heap.get? b = none) (k : ∀ b o, s.heap.get? b = some o → h'.get? b = some o) :
    Step ow μ (μ ++ [(a, fp)]) s { s with heap := h', toks := tk } :=
  ⟨⟨h', tk, rfl⟩, fun b o e _ _ => k b o e, fun b o e => ⟨o, k b o e⟩, List.prefix_append _ _, fun b hm => by
    rw [foot_append, List.mem_append] at hm
    rcases hm with hm | hm
    · exact .inl hm
    · simp [foot] at hm; exact .inr (hf b hm)⟩

theorem Step.setObj {h' : Heap} {tk : Nat} {ow : List Addr} {i : Nat} {p : Addr × List Addr} (hi : μ[i]? = some p) (k : ∀ b ob, b ∉ p.2 → s.heap.get? b = some ob → h'.get? b = some ob)
    (hl : ∀ b ∈ p.2, ∃ ob, h'.get? b = some ob) : Step ow μ μ s { s with heap := h', toks := tk } :=
  ⟨⟨h', tk, rfl⟩, fun b o e hm _ => k b o (fun h => hm (foot_get hi h)) e, fun b o e => by
    by_cases h : b ∈ p.2
    · exact hl b h
    · exact ⟨o, k b o h e⟩, List.prefix_refl _, fun _ h => .inl h⟩

/-- a fresh list: it may be told as data, or become an object -/
noncomputable def FreshL (X : Cx) (ρ : List Addr) (μ : Mu) (env : Env) (s : Shared) (ds : List PyData) (σ' : St) : Value → Shared → Prop := fun x s' =>
  ∃ μ' s₁ a vs n h' tk, Step (Mine.wrt env) μ μ' s s₁ ∧ Rel X ρ μ' env σ' s₁.heap ∧ x = .ref a ∧ s₁.heap.get? a = none ∧ s' = { s₁ with heap := h', toks := tk } ∧
    (∀ b o, s₁.heap.get? b = some o → h'.get? b = some o) ∧ h'.get? a = some { cls := .type "list", data := .seq vs n } ∧ DRs s₁.heap (okOf ρ μ') ds vs.toList

theorem FreshL.dat {ds : List PyData} {σ' : St} {x : Value} {s' : Shared} (f : FreshL X ρ μ env s ds σ' x s') : Post X ρ μ env s VRr (.dat (.list ds)) σ' x s' := by
  obtain ⟨μ', s₁, a, vs, n, h', tk, st, R, rfl, hf, rfl, k, ha, hd⟩ := f
  refine ⟨μ', st.trans (.grow k), R.ext k, ?_⟩
  show DR _ _ _ _
  simp only [DR]
  exact ⟨a, _, vs, n, rfl, R.okNew hf, ha, rfl, rfl, DRs.mono (fun a o ok e => ⟨k _ _ e, ok⟩) hd⟩

theorem FreshL.obj {ds : List PyData} {σ' : St} {x : Value} {s' : Shared} (f : FreshL X ρ μ env s ds σ' x s') : Post X ρ μ env s VRr (.obj σ'.heap.length) ⟨σ'.loc, σ'.heap ++ [.lst ds]⟩ x s' := by
  obtain ⟨μ', s₁, a, vs, n, h', tk, st, R, rfl, hf, rfl, k, ha, hd⟩ := f
  have hfs : ∀ b ∈ [a], s₁.heap.get? b = none := fun b hb => by simp at hb; subst hb; exact hf
  refine ⟨μ' ++ [(a, [a])], st.trans (.newObj hfs k), R.newObj hfs (by simp) (fun _ h => nomatch h) k (fun b hb => by simp at hb; subst hb; exact ⟨_, ha⟩) ⟨vs, n, rfl, ha, DRs.mono (fun b o ok e => ⟨k _ _ e, ok.1, ?_⟩) hd⟩, ?_⟩
  · show ∃ b, _ ∧ _
    exact ⟨a, by rw [← R.len]; exact root_last, rfl⟩
  · rw [foot_append, List.mem_append]
    rintro (hm | hm)
    · exact ok.2 hm
    · simp [foot] at hm; subst hm; rw [hf] at e; cases e

theorem FreshL.of (R : Rel X ρ μ env σ s.heap) {ds : List PyData} {a : Addr} {vs : Array Value} {n : Nat} {h' : Heap} {tk : Nat} (hf : s.heap.get? a = none) (k : ∀ b o, s.heap.get? b = some o → h'.get? b = some o)
    (ha : h'.get? a = some { cls := .type "list", data := .seq vs n }) (hd : DRs s.heap (okOf ρ μ) ds vs.toList) : FreshL X ρ μ env s ds σ (.ref a) { s with heap := h', toks := tk } :=
  ⟨μ, s, a, vs, n, h', tk, .refl _ _ _, R, rfl, hf, rfl, k, ha, hd⟩
theorem FreshL.trans {μ₁ : Mu} {s₁ : Shared} {ds : List PyData} {σ' : St} {x : Value} {s' : Shared} (st : Step (Mine.wrt env) μ μ₁ s s₁) (f : FreshL X ρ μ₁ env s₁ ds σ' x s') : FreshL X ρ μ env s ds σ' x s' := by
  obtain ⟨μ', s₂, a, vs, n, h', tk, st', r⟩ := f
  exact ⟨μ', s₂, a, vs, n, h', tk, st.trans st', r⟩

/-- the push at the heap's end -/
theorem FreshL.push (R : Rel X ρ μ env σ s.heap) {ds : List PyData} {vs : Array Value} {tk : Nat} (hd : DRs s.heap (okOf ρ μ) ds vs.toList) :
    FreshL X ρ μ env s ds σ (.ref s.heap.objs.size) { s with heap := s.heap.push { cls := .type "list", data := .seq vs }, toks := tk } :=
  .of R (by
    cases e : s.heap.get? s.heap.objs.size with
    | none => rfl
    | some o => exact absurd (Heap.lt_size e) (Nat.lt_irrefl _)) (fun _ _ e => Heap.get?_push_of_some _ e) (Heap.get?_push_size _ rfl) hd
end

theorem fresh_size (h : Heap) : h.get? h.objs.size = none := by
  cases e : h.get? h.objs.size with
  | none => rfl
  | some o => exact absurd (Heap.lt_size e) (Nat.lt_irrefl _)

theorem Rel.fr {X : Cx} {ρ : List Addr} {μ : Mu} {env : Env} {σ : St} {h : Heap} (R : Rel X ρ μ env σ h) : ∃ m, PyProof.Rows.Fr X.base env.locals h m := by
  obtain ⟨m, cm, F, _⟩ := R.frame
  exact ⟨m, F.ns, R.base, R.above⟩

end Mine
end

section
open PySem
set_option Elab.async false
namespace Mine

/-! values read -/
noncomputable def LR (h : Heap) (ok : Addr → Prop) : PyData → Value → Prop
  | .list xs, x => ∃ a o vs n, x = .ref a ∧ h.get? a = some o ∧ o.cls = .type "list" ∧ o.data = .seq vs n ∧ DRs h ok xs vs.toList
  | d, x => DR h ok d x

theorem DR.lr {h : Heap} {ok : Addr → Prop} {d : PyData} {x : Value} (e : DR h ok d x) : LR h ok d x := by
  cases d <;> first | exact e | skip
  simp only [DR] at e
  obtain ⟨a, o, vs, n, h1, _, h2⟩ := e
  exact ⟨a, o, vs, n, h1, h2⟩

theorem LR.reads {h : Heap} {ok : Addr → Prop} : ∀ {d : PyData} {x : Value}, LR h ok d x → (∃ as, Reads h x d as) ∧ d.canLay0 = true
  | .none, _, e => DR.reads (ok := ok) (d := .none) e
  | .bool _, _, e => DR.reads (ok := ok) (d := .bool _) e
  | .int _, _, e => DR.reads (ok := ok) (d := .int _) e
  | .str _, _, e => DR.reads (ok := ok) (d := .str _) e
  | .tuple _, _, e => DR.reads (ok := ok) (d := .tuple _) e
  | .dict _, _, e => DR.reads (ok := ok) (d := .dict _) e
  | .list _, _, e => by
    obtain ⟨a, o, vs, n, rfl, h2, h3, h4, h5⟩ := e
    obtain ⟨⟨as, r⟩, c⟩ := DRs.reads h5
    exact ⟨⟨_, .list h2 h3 h4 r⟩, by simp only [PyData.canLay0]; exact c⟩

section
variable {X : Cx} {A : Around} {ρ : List Addr} {μ : Mu} {env : Env} {σ : St} {s : Shared}

theorem readD_ok {v : V} {x : Value} {d : PyData} {σ' : St} (R : Rel X ρ μ env σ s.heap) (hv : VR s.heap (okOf ρ μ) μ v x) (e : readD v σ = some (d, σ')) : σ' = σ ∧ LR s.heap (okOf ρ μ) d x := by
  cases v with
  | dat d' => cases e; exact ⟨rfl, DR.lr hv⟩
  | obj i =>
    simp only [readD] at e
    obtain ⟨a, h1, rfl⟩ := hv
    cases q : σ.heap[i]? with
    | none => rw [q] at e; cases e
    | some o =>
      rw [q] at e
      obtain ⟨p, h2, h3⟩ := R.objs i o q
      rw [root_some h2] at h1
      cases o with
      | lst ds =>
        cases e
        obtain ⟨vs, n, _, h4, h5⟩ := h3
        cases h1
        exact ⟨rfl, _, _, vs, n, rfl, h4, rfl, rfl, h5⟩
      | frz ds =>
        cases e
        obtain ⟨vs, n, _, h4, h5⟩ := h3
        cases h1
        exact ⟨rfl, _, _, vs, n, rfl, h4, rfl, rfl, h5⟩
      | inst l => cases e
  | rng lo hi => cases e
  | emp => cases e

theorem mbind_some {α β : Type} {m : M α} {f : α → M β} {σ σ' : St} {b : β} (e : (m >>= f) σ = some (b, σ')) : ∃ a σ₁, m σ = some (a, σ₁) ∧ f a σ₁ = some (b, σ') := by
  rw [bind_eq] at e
  unfold mbind at e
  cases q : m σ with
  | none => rw [q] at e; cases e
  | some p => rw [q] at e; exact ⟨p.1, p.2, rfl, e⟩
theorem mbind_elim {α β : Type} {m : M α} {f : α → M β} {σ σ' : St} {b : β} {C : Prop} (e : (m >>= f) σ = some (b, σ')) (k : ∀ a σ₁, m σ = some (a, σ₁) → f a σ₁ = some (b, σ') → C) : C := by
  obtain ⟨a, s, h1, h2⟩ := (mbind_some e)
  exact k a s h1 h2
theorem mopt_some {α : Type} {o : Option α} {σ σ' : St} {a : α} (e : mopt o σ = some (a, σ')) : o = some a ∧ σ' = σ := by
  unfold mopt at e
  cases o with
  | none => cases e
  | some b => cases e; exact ⟨rfl, rfl⟩
theorem mpure_some {α : Type} {a b : α} {σ σ' : St} (e : (pure a : M α) σ = some (b, σ')) : a = b ∧ σ' = σ := by
  rw [pure_eq] at e; unfold mpure at e; cases e; exact ⟨rfl, rfl⟩

theorem big_le : big ≤ sizeLine := by rw [sizeLine_eq]; decide

/-- arithmetic -/
theorem W_addD {a b d : PyData} {x y : Value} (R : Rel X ρ μ env σ s.heap) (ha : LR s.heap (okOf ρ μ) a x) (hb : LR s.heap (okOf ρ μ) b y) (e : addD a b = some d) : wpAny (model X.prog X.w) A (binaryOp .Add x y) (Post X ρ μ env s VRr (.dat d) σ) (fun _ _ => False) s := by
  cases a with
  | int i => cases b with
    | int j =>
      cases e
      simp only [LR, DR] at ha hb; obtain ⟨t, rfl⟩ := ha; obtain ⟨u, rfl⟩ := hb
      exact PyProof.Rows.add_int (post_tok R _ (by show DR _ _ _ _; simp only [DR]; exact ⟨_, rfl⟩))
    | _ => cases e
  | str x' => cases b with
    | str y' =>
      have e' : (if x'.length + y'.length ≤ big then some (PyData.str (x' ++ y')) else none) = some d := e
      split at e'
      · rename_i hl
        cases e'
        simp only [LR, DR] at ha hb; obtain ⟨q1, t, rfl⟩ := ha; obtain ⟨q2, u, rfl⟩ := hb
        refine PyProof.Rows.add_str (fun t' tk => post_tok R _ ?_) (Nat.le_trans hl big_le)
        show DR _ _ _ _
        simp only [DR]
        refine ⟨?_, _, rfl⟩
        unfold asc at *
        show List.all ((x'.cps ++ y'.cps).toList) pc = true
        rw [Array.toList_append, List.all_append, q1, q2]; rfl
      · cases e'
    | _ => cases e
  | _ => cases e
/-- on whole numbers -/
theorem W_intD {op : Operator} {f : Int → Int → Option Int} {a b d : PyData} {x y : Value} (R : Rel X ρ μ env σ s.heap) (ha : LR s.heap (okOf ρ μ) a x) (hb : LR s.heap (okOf ρ μ) b y) (e : intD f a b = some d)
    (hh : ∀ i j k t u, a = .int i → b = .int j → x = .int i t → y = .int j u → f i j = some k → d = .int k → wpAny (model X.prog X.w) A (binaryOp op x y) (Post X ρ μ env s VRr (.dat d) σ) (fun _ _ => False) s) : wpAny (model X.prog X.w) A (binaryOp op x y) (Post X ρ μ env s VRr (.dat d) σ) (fun _ _ => False) s := by
  cases a with
  | int i => cases b with
    | int j =>
      have e' : (f i j).map PyData.int = some d := e
      cases hf : f i j with
      | none => rw [hf] at e'; cases e'
      | some k =>
        rw [hf] at e'
        cases e'
        simp only [LR, DR] at ha hb; obtain ⟨t, rfl⟩ := ha; obtain ⟨u, rfl⟩ := hb
        exact hh i j k t u rfl rfl rfl rfl hf rfl
    | _ => cases e
  | _ => cases e
theorem W_binD {op : Operator} {a b d : PyData} {x y : Value} (R : Rel X ρ μ env σ s.heap) (ha : LR s.heap (okOf ρ μ) a x) (hb : LR s.heap (okOf ρ μ) b y) (e : binD op a b = some d) : wpAny (model X.prog X.w) A (binaryOp op x y) (Post X ρ μ env s VRr (.dat d) σ) (fun _ _ => False) s := by
  cases op with
  | Add => exact W_addD R ha hb e
  | Sub =>
    refine W_intD R ha hb e fun i j k t u _ _ hx hy hf hd => ?_
    subst hx hy hd
    cases hf
    exact PyProof.Rows.sub_int' (post_tok R _ (by show DR _ _ _ _; simp only [DR]; exact ⟨_, rfl⟩))
  | Mult =>
    refine W_intD R ha hb e fun i j k t u _ _ hx hy hf hd => ?_
    subst hx hy hd
    unfold mulI at hf
    split at hf
    · rename_i hl
      cases hf
      exact PyProof.Rows.mul_int (post_tok R _ (by show DR _ _ _ _; simp only [DR]; exact ⟨_, rfl⟩)) (IntMulOk.of_left (intBits_le_64 (by omega) (by omega)))
    · cases hf
  | FloorDiv =>
    refine W_intD R ha hb e fun i j k t u _ _ hx hy hf hd => ?_
    subst hx hy hd
    unfold fdivI at hf
    split at hf
    · rename_i hl
      cases hf
      exact PyProof.Rows.floordiv_int hl.1 (post_tok R _ (by show DR _ _ _ _; simp only [DR]; exact ⟨_, rfl⟩)) (.inl (PyProof.noPylong_small (by omega)))
    · cases hf
  | Mod =>
    refine W_intD R ha hb e fun i j k t u _ _ hx hy hf hd => ?_
    subst hx hy hd
    unfold modI at hf
    split at hf
    · rename_i hl
      cases hf
      exact PyProof.Rows.mod_int' hl (post_tok R _ (by show DR _ _ _ _; simp only [DR]; exact ⟨_, rfl⟩))
    · cases hf
  | _ => cases e

theorem list_of_LR {xs : List PyData} {x : Value} (e : LR s.heap (okOf ρ μ) (.list xs) x) : ∃ a vs, x = .ref a ∧ s.heap.IsList a vs ∧ DRs s.heap (okOf ρ μ) xs vs.toList := by
  obtain ⟨a, o, vs, n, rfl, h2, h3, h4, h5⟩ := e
  exact ⟨a, vs, rfl, ⟨o, h2, h3, n, h4⟩, h5⟩

/-- lists laid together -/
theorem W_binL {op : Operator} {a b : PyData} {ds : List PyData} {x y : Value} (R : Rel X ρ μ env σ s.heap) (ha : LR s.heap (okOf ρ μ) a x) (hb : LR s.heap (okOf ρ μ) b y) (e : binL op a b = some ds) :
    wpAny (model X.prog X.w) A (binaryOp op x y) (FreshL X ρ μ env s ds σ) (fun _ _ => False) s := by
  unfold binL at e
  split at e <;> first | cases e | skip
  · split at e
    · cases e
      rename_i xs ys hl
      obtain ⟨a, vs, rfl, hA, hd⟩ := list_of_LR ha
      obtain ⟨b, ws, rfl, hB, hd2⟩ := list_of_LR hb
      have l1 := hd.length
      have l2 := hd2.length
      obtain ⟨⟨cls, dd, data, sl⟩, ho, hc, n, hdt⟩ := id hA
      obtain ⟨⟨cls2, dd2, data2, sl2⟩, ho2, hc2, n2, hdt2⟩ := id hB
      simp only at hc hdt hc2 hdt2
      subst hc hdt hc2 hdt2
      refine concat_meets ⟨_, ho, rfl⟩ ⟨_, ho2, rfl⟩ noFill_list_add seq_list_add PySem.F.slot_list_add PySem.F.entry_list_add (PySem.F.args_list_add_2 _ _) (PyProof.Rows.list_addW a b vs ws n n2 dd dd2 sl sl2 ?_) ⟨ho, ho2, ?_⟩
      · rw [Array.length_toList] at l1 l2
        rw [l1, l2]; exact Nat.le_trans hl big_le
      · exact FreshL.push R (by rw [Array.toList_append]; exact hd.append hd2)
    · cases e

theorem readD_state {v : V} {d : PyData} {σ σ' : St} (e : readD v σ = some (d, σ')) : σ' = σ := by
  cases v with
  | dat d' => cases e; rfl
  | obj i =>
    simp only [readD] at e
    split at e <;> cases e <;> rfl
  | rng lo hi => cases e
  | emp => cases e

theorem W_binS {op : Operator} {a b : V} {x y : Value} (R : Rel X ρ μ env σ s.heap) (ha : VR s.heap (okOf ρ μ) μ a x) (hb : VR s.heap (okOf ρ μ) μ b y) :
    W X A ρ μ env s VRr (binaryOp op x y) (binS op a b σ) := by
  intro r σ' e
  unfold binS at e
  refine mbind_elim e fun d1 σ1 e1 q => ?_
  have h1 := readD_state e1; subst h1
  refine mbind_elim q fun d2 σ2 e2 q2 => ?_
  have h2 := readD_state e2; subst h2
  have l1 := (readD_ok R ha e1).2
  have l2 := (readD_ok R hb e2).2
  cases hd : binD op d1 d2 with
  | some d =>
    rw [hd] at q2
    obtain ⟨rfl, rfl⟩ := mpure_some q2
    exact W_binD R l1 l2 hd
  | none =>
    rw [hd] at q2
    refine mbind_elim q2 fun ds σ3 e3 q3 => ?_
    obtain ⟨e4, h3⟩ := mopt_some e3
    subst h3
    obtain ⟨rfl, rfl⟩ := mpure_some q3
    exact wpAny_mono (W_binL R l1 l2 e4) (fun _ _ f => f.dat) fun _ _ z => z

theorem LR.isNone {h : Heap} {ok : Addr → Prop} : ∀ {a : PyData} {x : Value}, LR h ok a x → (x == Value.none) = (match a with | .none => true | _ => false)
  | .none, _, e => by simp only [LR, DR] at e; subst e; rfl
  | .bool _, _, e => by simp only [LR, DR] at e; subst e; rfl
  | .int _, _, e => by simp only [LR, DR] at e; obtain ⟨_, rfl⟩ := e; rfl
  | .str _, _, e => by simp only [LR, DR] at e; obtain ⟨_, _, rfl⟩ := e; rfl
  | .list _, _, e => by simp only [LR] at e; obtain ⟨_, _, _, _, rfl, _⟩ := e; rfl
  | .tuple _, _, e => by simp only [LR, DR] at e; obtain ⟨_, _, _, _, rfl, _⟩ := e; rfl
  | .dict _, _, e => by simp only [LR, DR] at e

theorem DRs.mem {h : Heap} {ok : Addr → Prop} {ds : List PyData} {vs : List Value} (e : DRs h ok ds vs) {y : Value} (hy : y ∈ vs) : ∃ d, DR h ok d y ∧ d ∈ ds := by
  obtain ⟨k, hk⟩ := List.getElem?_of_mem hy
  obtain ⟨d, h1, h2⟩ := e.getV hk
  exact ⟨d, h2, List.mem_of_getElem? h1⟩

theorem DR.unique {h : Heap} {ok : Addr → Prop} {d d' : PyData} {x : Value} (a : DR h ok d x) (b : DR h ok d' x) : d = d' := by
  obtain ⟨⟨as, r1⟩, c1⟩ := a.reads
  obtain ⟨⟨bs, r2⟩, c2⟩ := b.reads
  exact PySem.SeqAt.Reads.unique d d' x as bs c1 r1 r2

open Classical in
theorem in_any {a : PyData} {ds : List PyData} {x : Value} {vs : List Value} (hA : A.units + 60 < cLine) (hds : DRs s.heap (okOf ρ μ) ds vs) (ha : LR s.heap (okOf ρ μ) a x) (hdep : a.depth ≤ 50) :
    ∃ ef : Value → Bool, (∀ y ∈ vs, PySem.SeqAt.EqAt A.in1 s y x (ef y)) ∧ vs.any ef = ds.any fun d => PyData.eqv d a := by
  refine ⟨fun y => decide (∃ d, DR s.heap (okOf ρ μ) d y ∧ PyData.eqv d a = true), fun y hy => ?_, ?_⟩
  · obtain ⟨d, h1, _⟩ := hds.mem hy
    have : decide (∃ d, DR s.heap (okOf ρ μ) d y ∧ PyData.eqv d a = true) = PyData.eqv d a := by
      cases q : PyData.eqv d a with
      | true => exact decide_eq_true ⟨d, h1, q⟩
      | false =>
        refine decide_eq_false fun ⟨d', h2, h3⟩ => ?_
        rw [← DR.unique h1 h2, q] at h3; cases h3
    show PySem.SeqAt.EqAt A.in1 s y x (decide (∃ d, DR s.heap (okOf ρ μ) d y ∧ PyData.eqv d a = true))
    rw [this]
    obtain ⟨⟨as, r1⟩, c1⟩ := h1.reads
    obtain ⟨⟨bs, r2⟩, c2⟩ := ha.reads
    refine PySem.SeqAt.eqAt_reads d a A.in1 s y x as bs r1 r2 c1 c2 ?_
    show A.units + 1 + min d.depth a.depth < cLine
    omega
  · clear hdep ha
    induction ds generalizing vs with
    | nil => simp only [DRs] at hds; subst hds; rfl
    | cons d ds ih =>
      simp only [DRs] at hds
      obtain ⟨v, r, rfl, h1, h2⟩ := hds
      simp only [List.any_cons]
      rw [ih h2]
      congr 1
      cases q : PyData.eqv d a with
      | true => exact decide_eq_true ⟨d, h1, q⟩
      | false =>
        refine decide_eq_false fun ⟨d', h2, h3⟩ => ?_
        rw [← DR.unique h1 h2, q] at h3; cases h3

theorem W_eqD {a b : PyData} {r : Bool} {x y : Value} (hA : A.units + 60 < cLine) (R : Rel X ρ μ env σ s.heap) (ha : LR s.heap (okOf ρ μ) a x) (hb : LR s.heap (okOf ρ μ) b y) (e : eqD a b = some r) : wpAny (model X.prog X.w) A (compareOp .Eq x y) (Post X ρ μ env s VRr (.dat (.bool r)) σ) (fun _ _ => False) s := by
  have fin0 : Post X ρ μ env s VRr (.dat (.bool r)) σ (.bool r) s := post_same R (by show DR _ _ _ _; simp only [DR])
  unfold eqD at e
  split at e
  · cases e
    obtain ⟨⟨as, ra⟩, ca⟩ := ha.reads
    obtain ⟨⟨bs, rb⟩, cb⟩ := hb.reads
    exact PySem.SeqAt.compareEq_reads ra rb ca cb (by omega) fin0
  · cases e
theorem W_neD {a b : PyData} {r : Bool} {x y : Value} (hA : A.units + 60 < cLine) (R : Rel X ρ μ env σ s.heap) (ha : LR s.heap (okOf ρ μ) a x) (hb : LR s.heap (okOf ρ μ) b y) (e : neD a b = some r) : wpAny (model X.prog X.w) A (compareOp .NotEq x y) (Post X ρ μ env s VRr (.dat (.bool r)) σ) (fun _ _ => False) s := by
  have fin0 : Post X ρ μ env s VRr (.dat (.bool r)) σ (.bool r) s := post_same R (by show DR _ _ _ _; simp only [DR])
  unfold neD at e
  split at e
  · cases e
    obtain ⟨⟨as, ra⟩, ca⟩ := ha.reads
    obtain ⟨⟨bs, rb⟩, cb⟩ := hb.reads
    exact PySem.SeqAt.compareNe_reads ra rb ca cb (by omega) fin0
  · cases e
theorem W_ltD {a b : PyData} {r : Bool} {x y : Value} (R : Rel X ρ μ env σ s.heap) (ha : LR s.heap (okOf ρ μ) a x) (hb : LR s.heap (okOf ρ μ) b y) (e : ltD a b = some r) : wpAny (model X.prog X.w) A (compareOp .Lt x y) (Post X ρ μ env s VRr (.dat (.bool r)) σ) (fun _ _ => False) s := by
  have fin0 : Post X ρ μ env s VRr (.dat (.bool r)) σ (.bool r) s := post_same R (by show DR _ _ _ _; simp only [DR])
  cases a with
  | int i => cases b with
    | int j => cases e; simp only [LR, DR] at ha hb; obtain ⟨t, rfl⟩ := ha; obtain ⟨u, rfl⟩ := hb; exact PyProof.Rows.lt_int fin0
    | _ => cases e
  | str i => cases b with
    | str j => cases e; simp only [LR, DR] at ha hb; obtain ⟨_, t, rfl⟩ := ha; obtain ⟨_, u, rfl⟩ := hb; exact PyProof.Rows.lt_str fin0
    | _ => cases e
  | _ => cases e
theorem W_leD {a b : PyData} {r : Bool} {x y : Value} (R : Rel X ρ μ env σ s.heap) (ha : LR s.heap (okOf ρ μ) a x) (hb : LR s.heap (okOf ρ μ) b y) (e : leD a b = some r) : wpAny (model X.prog X.w) A (compareOp .LtE x y) (Post X ρ μ env s VRr (.dat (.bool r)) σ) (fun _ _ => False) s := by
  have fin0 : Post X ρ μ env s VRr (.dat (.bool r)) σ (.bool r) s := post_same R (by show DR _ _ _ _; simp only [DR])
  cases a with
  | int i => cases b with
    | int j => cases e; simp only [LR, DR] at ha hb; obtain ⟨t, rfl⟩ := ha; obtain ⟨u, rfl⟩ := hb; exact PyProof.Rows.le_int fin0
    | _ => cases e
  | str i => cases b with
    | str j => cases e; simp only [LR, DR] at ha hb; obtain ⟨_, t, rfl⟩ := ha; obtain ⟨_, u, rfl⟩ := hb; exact PySem.P.le_str fin0
    | _ => cases e
  | _ => cases e
theorem W_gtD {a b : PyData} {r : Bool} {x y : Value} (R : Rel X ρ μ env σ s.heap) (ha : LR s.heap (okOf ρ μ) a x) (hb : LR s.heap (okOf ρ μ) b y) (e : gtD a b = some r) : wpAny (model X.prog X.w) A (compareOp .Gt x y) (Post X ρ μ env s VRr (.dat (.bool r)) σ) (fun _ _ => False) s := by
  have fin0 : Post X ρ μ env s VRr (.dat (.bool r)) σ (.bool r) s := post_same R (by show DR _ _ _ _; simp only [DR])
  cases a with
  | int i => cases b with
    | int j => cases e; simp only [LR, DR] at ha hb; obtain ⟨t, rfl⟩ := ha; obtain ⟨u, rfl⟩ := hb; exact PyProof.Rows.gt_int fin0
    | _ => cases e
  | str i => cases b with
    | str j => cases e; simp only [LR, DR] at ha hb; obtain ⟨_, t, rfl⟩ := ha; obtain ⟨_, u, rfl⟩ := hb; exact PySem.P.gt_str fin0
    | _ => cases e
  | _ => cases e
theorem W_geD {a b : PyData} {r : Bool} {x y : Value} (R : Rel X ρ μ env σ s.heap) (ha : LR s.heap (okOf ρ μ) a x) (hb : LR s.heap (okOf ρ μ) b y) (e : geD a b = some r) : wpAny (model X.prog X.w) A (compareOp .GtE x y) (Post X ρ μ env s VRr (.dat (.bool r)) σ) (fun _ _ => False) s := by
  have fin0 : Post X ρ μ env s VRr (.dat (.bool r)) σ (.bool r) s := post_same R (by show DR _ _ _ _; simp only [DR])
  cases a with
  | int i => cases b with
    | int j => cases e; simp only [LR, DR] at ha hb; obtain ⟨t, rfl⟩ := ha; obtain ⟨u, rfl⟩ := hb; exact PyProof.Rows.ge_int fin0
    | _ => cases e
  | str i => cases b with
    | str j => cases e; simp only [LR, DR] at ha hb; obtain ⟨_, t, rfl⟩ := ha; obtain ⟨_, u, rfl⟩ := hb; exact PySem.P.ge_str fin0
    | _ => cases e
  | _ => cases e
theorem W_inDS {x' y' : Str} {r : Bool} {x y : Value} (R : Rel X ρ μ env σ s.heap) (ha : LR s.heap (okOf ρ μ) (.str x') x) (hb : LR s.heap (okOf ρ μ) (.str y') y) (e : inStr x' y' id = some r) : wpAny (model X.prog X.w) A (compareOp .In x y) (Post X ρ μ env s VRr (.dat (.bool r)) σ) (fun _ _ => False) s := by
  have fin0 : Post X ρ μ env s VRr (.dat (.bool r)) σ (.bool r) s := post_same R (by show DR _ _ _ _; simp only [DR])
  unfold inStr at e
  split at e
  · rename_i c hc
    cases e
    simp only [LR, DR] at ha hb; obtain ⟨_, t, rfl⟩ := ha; obtain ⟨_, u, rfl⟩ := hb
    refine PyProof.Rows.in_str ?_
    have : x' = ⟨#[c]⟩ := by
      cases x' with | mk a => exact congrArg Str.mk (Array.toList_inj.mp (by simpa using hc))
    rw [this, StrLaws.found_one]
    exact fin0
  · cases e
theorem W_inDL {a : PyData} {ds : List PyData} {r : Bool} {x y : Value} (hA : A.units + 60 < cLine) (R : Rel X ρ μ env σ s.heap) (ha : LR s.heap (okOf ρ μ) a x) (hb : LR s.heap (okOf ρ μ) (.list ds) y) (e : inLst a ds id = some r) : wpAny (model X.prog X.w) A (compareOp .In x y) (Post X ρ μ env s VRr (.dat (.bool r)) σ) (fun _ _ => False) s := by
  have fin0 : Post X ρ μ env s VRr (.dat (.bool r)) σ (.bool r) s := post_same R (by show DR _ _ _ _; simp only [DR])
  unfold inLst at e
  split at e
  · rename_i hdep
    cases e
    obtain ⟨l, vs, rfl, hL, hds⟩ := list_of_LR hb
    obtain ⟨ef, h1, h2⟩ := in_any hA hds ha hdep
    refine PySem.SeqAt.in_listAt ef hL (fun y hy => h1 y (Array.mem_toList_iff.mpr hy)) ?_
    rw [← Array.any_toList, h2]; exact fin0
  · cases e
theorem W_inD {a b : PyData} {r : Bool} {x y : Value} (hA : A.units + 60 < cLine) (R : Rel X ρ μ env σ s.heap) (ha : LR s.heap (okOf ρ μ) a x) (hb : LR s.heap (okOf ρ μ) b y) (e : inD id a b = some r) : wpAny (model X.prog X.w) A (compareOp .In x y) (Post X ρ μ env s VRr (.dat (.bool r)) σ) (fun _ _ => False) s := by
  cases b with
  | str y' => cases a with
    | str x' => exact W_inDS R ha hb e
    | _ => cases e
  | list ds => exact W_inDL hA R ha hb (by cases a <;> exact e)
  | _ => cases a <;> cases e
theorem W_notInDS {x' y' : Str} {r : Bool} {x y : Value} (R : Rel X ρ μ env σ s.heap) (ha : LR s.heap (okOf ρ μ) (.str x') x) (hb : LR s.heap (okOf ρ μ) (.str y') y) (e : inStr x' y' not = some r) : wpAny (model X.prog X.w) A (compareOp .NotIn x y) (Post X ρ μ env s VRr (.dat (.bool r)) σ) (fun _ _ => False) s := by
  have fin0 : Post X ρ μ env s VRr (.dat (.bool r)) σ (.bool r) s := post_same R (by show DR _ _ _ _; simp only [DR])
  unfold inStr at e
  split at e
  · rename_i c hc
    cases e
    simp only [LR, DR] at ha hb; obtain ⟨_, t, rfl⟩ := ha; obtain ⟨_, u, rfl⟩ := hb
    refine PyProof.Rows.notIn_str ?_
    have : x' = ⟨#[c]⟩ := by
      cases x' with | mk a => exact congrArg Str.mk (Array.toList_inj.mp (by simpa using hc))
    rw [this, StrLaws.found_one]
    exact fin0
  · cases e
theorem W_notInDL {a : PyData} {ds : List PyData} {r : Bool} {x y : Value} (hA : A.units + 60 < cLine) (R : Rel X ρ μ env σ s.heap) (ha : LR s.heap (okOf ρ μ) a x) (hb : LR s.heap (okOf ρ μ) (.list ds) y) (e : inLst a ds not = some r) : wpAny (model X.prog X.w) A (compareOp .NotIn x y) (Post X ρ μ env s VRr (.dat (.bool r)) σ) (fun _ _ => False) s := by
  have fin0 : Post X ρ μ env s VRr (.dat (.bool r)) σ (.bool r) s := post_same R (by show DR _ _ _ _; simp only [DR])
  unfold inLst at e
  split at e
  · rename_i hdep
    cases e
    obtain ⟨l, vs, rfl, hL, hds⟩ := list_of_LR hb
    obtain ⟨ef, h1, h2⟩ := in_any hA hds ha hdep
    refine PySem.SeqAt.notIn_listAt ef hL (fun y hy => h1 y (Array.mem_toList_iff.mpr hy)) ?_
    rw [← Array.any_toList, h2]; exact fin0
  · cases e
theorem W_notInD {a b : PyData} {r : Bool} {x y : Value} (hA : A.units + 60 < cLine) (R : Rel X ρ μ env σ s.heap) (ha : LR s.heap (okOf ρ μ) a x) (hb : LR s.heap (okOf ρ μ) b y) (e : inD not a b = some r) : wpAny (model X.prog X.w) A (compareOp .NotIn x y) (Post X ρ μ env s VRr (.dat (.bool r)) σ) (fun _ _ => False) s := by
  cases b with
  | str y' => cases a with
    | str x' => exact W_notInDS R ha hb e
    | _ => cases e
  | list ds => exact W_notInDL hA R ha hb (by cases a <;> exact e)
  | _ => cases a <;> cases e
theorem W_isD {a b : PyData} {r : Bool} {x y : Value} (R : Rel X ρ μ env σ s.heap) (ha : LR s.heap (okOf ρ μ) a x) (hb : LR s.heap (okOf ρ μ) b y) (e : isD id a b = some r) : wpAny (model X.prog X.w) A (compareOp .Is x y) (Post X ρ μ env s VRr (.dat (.bool r)) σ) (fun _ _ => False) s := by
  have fin0 : Post X ρ μ env s VRr (.dat (.bool r)) σ (.bool r) s := post_same R (by show DR _ _ _ _; simp only [DR])
  cases b with
  | none =>
    cases e
    simp only [LR, DR] at hb; subst hb
    refine is_none ?_
    rw [ha.isNone]
    cases a <;> exact fin0
  | _ => cases e
theorem W_isNotD {a b : PyData} {r : Bool} {x y : Value} (R : Rel X ρ μ env σ s.heap) (ha : LR s.heap (okOf ρ μ) a x) (hb : LR s.heap (okOf ρ μ) b y) (e : isD not a b = some r) : wpAny (model X.prog X.w) A (compareOp .IsNot x y) (Post X ρ μ env s VRr (.dat (.bool r)) σ) (fun _ _ => False) s := by
  have fin0 : Post X ρ μ env s VRr (.dat (.bool r)) σ (.bool r) s := post_same R (by show DR _ _ _ _; simp only [DR])
  cases b with
  | none =>
    cases e
    simp only [LR, DR] at hb; subst hb
    refine isNot_none ?_
    rw [ha.isNone]
    cases a <;> exact fin0
  | _ => cases e
theorem W_cmpD {op : CmpOp} {a b : PyData} {r : Bool} {x y : Value} (hA : A.units + 60 < cLine) (R : Rel X ρ μ env σ s.heap) (ha : LR s.heap (okOf ρ μ) a x) (hb : LR s.heap (okOf ρ μ) b y) (e : cmpD op a b = some r) : wpAny (model X.prog X.w) A (compareOp op x y) (Post X ρ μ env s VRr (.dat (.bool r)) σ) (fun _ _ => False) s := by
  cases op with
  | Eq => exact W_eqD hA R ha hb e
  | NotEq => exact W_neD hA R ha hb e
  | Lt => exact W_ltD R ha hb e
  | LtE => exact W_leD R ha hb e
  | Gt => exact W_gtD R ha hb e
  | GtE => exact W_geD R ha hb e
  | In => exact W_inD hA R ha hb e
  | NotIn => exact W_notInD hA R ha hb e
  | Is => exact W_isD R ha hb e
  | IsNot => exact W_isNotD R ha hb e

end
end Mine
end

section
open PySem
set_option Elab.async false
namespace Mine

noncomputable def Tr {α β : Type} (X : Cx) (n : Nat) (env : Env) (RV : RVt α β) (t : Sem α) (m : M β) : Prop :=
  ∀ A ρ μ σ s, Ga n A → Rel X ρ μ env σ s.heap → W X A ρ μ env s RV t (m σ)

noncomputable def Ev (X : Cx) (n : Nat) (env : Env) (e : Expr) (m : M V) : Prop := Tr X n env VRr (eval e env) m
noncomputable def Te (X : Cx) (n : Nat) (env : Env) (e : Expr) (m : M Bool) : Prop := Tr X n env EqR (isTrue e env (eval e env)) m

noncomputable def VRl (h : Heap) (ok : Addr → Prop) (μ : Mu) : List V → List Value → Prop
  | [], xs => xs = []
  | v :: vs, xs => ∃ x r, xs = x :: r ∧ VR h ok μ v x ∧ VRl h ok μ vs r
noncomputable def VRs : RVt (List Value) (List V) := fun h ok μ vs xs => VRl h ok μ vs xs

theorem VRl.mono {h h' : Heap} {ok ok' : Addr → Prop} {μ μ' : Mu} (p : ∀ i a, root μ i = some a → root μ' i = some a) (k : ∀ a o, ok a → h.get? a = some o → h'.get? a = some o ∧ ok' a) :
    ∀ {vs : List V} {xs : List Value}, VRl h ok μ vs xs → VRl h' ok' μ' vs xs
  | [], _, e => e
  | _ :: _, _, e => by obtain ⟨x, r, rfl, h1, h2⟩ := e; exact ⟨x, r, rfl, h1.mono p k, h2.mono p k⟩
theorem VRl.dats {h : Heap} {ok : Addr → Prop} {μ : Mu} : ∀ {vs : List V} {xs : List Value} {ds : List PyData}, VRl h ok μ vs xs → allDat vs = some ds → DRs h ok ds xs
  | [], _, _, e, q => by cases q; simp only [DRs]; exact e
  | .dat d :: vs, _, _, e, q => by
    obtain ⟨x, r, rfl, h1, h2⟩ := e
    simp only [allDat] at q
    obtain ⟨ds', q1, rfl⟩ := Option.map_eq_some_iff.mp q
    simp only [DRs]
    exact ⟨x, r, rfl, h1, h2.dats q1⟩
  | .obj _ :: _, _, _, _, q => by cases q
  | .rng _ _ :: _, _, _, _, q => by cases q
  | .emp :: _, _, _, _, q => by cases q
theorem VRl.length {h : Heap} {ok : Addr → Prop} {μ : Mu} : ∀ {vs : List V} {xs : List Value}, VRl h ok μ vs xs → xs.length = vs.length
  | [], _, e => by rw [show _ = [] from e]; rfl
  | _ :: _, _, e => by obtain ⟨x, r, rfl, _, h2⟩ := e; simp [h2.length]

section
variable {X : Cx} {n : Nat} {env : Env}

/-! truth -/
theorem W_truthS {A : Around} {ρ : List Addr} {μ : Mu} {σ : St} {s : Shared} {v : V} {x : Value} (R : Rel X ρ μ env σ s.heap) (hv : VR s.heap (okOf ρ μ) μ v x) :
    W X A ρ μ env s EqR (truthy x) (truthS v σ) := by
  intro b σ' e
  unfold truthS at e
  refine mbind_elim e fun d σ1 e1 q => ?_
  have h1 := readD_state e1; subst h1
  obtain ⟨e2, h2⟩ := mopt_some q
  subst h2
  have l1 := (readD_ok R hv e1).2
  have fin : ∀ tk, Post X ρ μ env s EqR b σ' b { s with toks := tk } := fun tk => post_tok R tk rfl
  have fin0 : Post X ρ μ env s EqR b σ' b s := post_same R rfl
  unfold truthD at e2
  split at e2
  · cases e2; simp only [LR, DR] at l1; subst l1; exact PyProof.Rows.truthy_none fin0
  · cases e2; simp only [LR, DR] at l1; subst l1; exact wpAny_truthy_bool fin0
  · cases e2; simp only [LR, DR] at l1; obtain ⟨t, rfl⟩ := l1; exact PyProof.Rows.truthy_int fin0
  · split at e2
    · rename_i hl
      cases e2; simp only [LR, DR] at l1; obtain ⟨_, t, rfl⟩ := l1
      rename_i y _
      have : ((y.length : Int) != 0) = (y.length != 0) := by
        rw [Bool.eq_iff_iff]; simp only [bne_iff_ne, ne_eq]; omega
      refine PySem.P.truthy_str (by unfold big at hl; omega) ?_
      rw [this]; exact fin _
    · cases e2
  · split at e2
    · rename_i hl
      cases e2
      obtain ⟨a, vs, rfl, hL, hd⟩ := list_of_LR l1
      have ln := hd.length
      rw [Array.length_toList] at ln
      refine wpAny_truthy_list hL (by unfold big at hl; omega) ?_
      rename_i ds
      have : (!vs.isEmpty) = (ds.length != 0) := by
        rw [Bool.eq_iff_iff]; simp only [Array.isEmpty, bne_iff_ne, ne_eq, Bool.not_eq_true', decide_eq_false_iff_not]; omega
      rw [this]; exact fin _
    · cases e2
  · cases e2

/-! nodes -/
theorem Ev_Constant {c : Const} {k : Nat} {pos : Pos} : Ev X n env (.Constant c k pos) (constS c) := by
  intro A ρ μ σ s ga R v σ' e
  cases c with
  | none => cases e; exact wpAny_Constant_none (post_same R (by show DR _ _ _ _; simp only [DR]))
  | bool b => cases e; exact wpAny_Constant_bool (post_same R (by show DR _ _ _ _; simp only [DR]))
  | int i => cases e; exact wpAny_Constant_int (post_tok R _ (by show DR _ _ _ _; simp only [DR]; exact ⟨_, rfl⟩))
  | str x =>
    simp only [constS] at e
    split at e
    · rename_i h; cases e; exact wpAny_Constant_str (post_tok R _ (by show DR _ _ _ _; simp only [DR]; exact ⟨h, _, rfl⟩))
    · cases e
  | _ => cases e

theorem dbg_false {x : Str} (h : x ≠ dbg) : (x == ("__debug__" : Str)) = false := by
  rw [Bool.eq_false_iff]; intro q; exact h (beq_iff_eq.mp q)

theorem valOf_load {A : Around} {h : Heap} {m cm : Str → Option Value} {x : Str} {val : Value} {s : Shared} {Q : Value → Shared → Prop} (F : FrameR env s.heap m cm) (e : valOf env m cm x = some val) (q : Q val s) :
    wpAny (model X.prog X.w) A (loadName env x) Q (fun _ _ => False) s := by
  unfold valOf at e
  split at e
  · rename_i hk; exact wpAny_loadName_local F.kind hk F.ns e q
  · rename_i hk
    split at e
    · rename_i hc
      obtain ⟨c, hc⟩ := Option.isSome_iff_exists.mp hc
      exact wpAny_loadName_cell F.kind hk hc (e ▸ F.cell x c hc) q
    · cases e
  · cases e

theorem Ev_Name {x : Str} {pos : Pos} : Ev X n env (.Name x pos) (nameS x) := by
  intro A ρ μ σ s ga R v σ' e
  unfold nameS at e
  split at e
  · rename_i h
    subst h
    cases e
    show wpAny _ _ (eval (.Name (Str.ofString "__debug__") pos) env) _ _ _
    rw [arm_eval_Name]
    refine wpAny_bind (wpAny_standAt ?_)
    rw [if_pos (by decide)]
    exact wpAny_bind (wpAny_rule (wpAny_pure (post_same R (by show DR _ _ _ _; simp only [DR]))))
  · rename_i h
    unfold getLoc at e
    obtain ⟨v', h1, h2⟩ := Option.map_eq_some_iff.mp e
    cases h2
    obtain ⟨m, cm, F, l⟩ := R.frame
    obtain ⟨val, q1, q2⟩ := l x v h1
    refine wpAny_Name ?_ (dbg_false h)
    exact valOf_load (h := s.heap) F q1 (post_same R q2)

theorem Ev_BinOp {l r : Expr} {op : Operator} {pos : Pos} {ml mr : M V} (hl : Ev X n env l ml) (hr : Ev X n env r mr) :
    Ev X n env (.BinOp l op r pos) (do let a ← ml; let b ← mr; binS op a b) := by
  intro A ρ μ σ s ga R
  rw [arm_eval_BinOp]
  refine W_bind (hl A ρ μ σ s ga R) fun μ₁ s₁ a σ₁ x st₁ R₁ v₁ => W_bind (W_holding (hr A ρ μ₁ σ₁ s₁ ga R₁)) fun μ₂ s₂ b σ₂ y st₂ R₂ v₂ => W_standAt (W_operate (W_binS R₂ (VR.step R₁ st₂ v₁) v₂))

theorem W_cond {α β : Type} {A : Around} {ρ : List Addr} {μ : Mu} {σ : St} {s : Shared} {RV : RVt α β} {c : Bool} {t u : Sem α} {m k : M β} (h1 : c = true → W X A ρ μ env s RV t (m σ)) (h2 : c = false → W X A ρ μ env s RV u (k σ)) :
    W X A ρ μ env s RV (if c = true then t else u) ((bif c then m else k) σ) := by
  cases c with
  | true => exact h1 rfl
  | false => exact h2 rfl

theorem Ev_IfExp {t b o : Expr} {pos : Pos} {mt : M Bool} {mb mo : M V} (ht : Te X n env t mt) (hb : Ev X n env b mb) (ho : Ev X n env o mo) :
    Ev X n env (.IfExp t b o pos) (do let c ← mt; bif c then mb else mo) := by
  intro A ρ μ σ s ga R
  rw [arm_eval_IfExp]
  refine W_bind (ht A ρ μ σ s ga R) fun μ₁ s₁ c σ₁ x st₁ R₁ v₁ => ?_
  have : x = c := v₁
  subst this
  exact W_cond (fun _ => hb A ρ μ₁ σ₁ s₁ ga R₁) fun _ => ho A ρ μ₁ σ₁ s₁ ga R₁

/-- many -/
inductive EvL (X : Cx) (n : Nat) (env : Env) : List Expr → List (M V) → Prop
  | nil : EvL X n env [] []
  | cons {e : Expr} {es : List Expr} {m : M V} {ms : List (M V)} : Ev X n env e m → EvL X n env es ms → EvL X n env (e :: es) (m :: ms)

theorem Tr_boolOp {pos : Pos} {op : BoolOp} : ∀ {es : List Expr} {ms : List (M V)}, EvL X n env es ms → Tr X n env VRr (boolOp pos op (evalEach es env)) (boolS op ms)
  | [], _, .nil => fun A ρ μ σ s ga R => W_fail
  | [e], _, .cons h .nil => h
  | e :: e' :: es, _, .cons (m := m) h (.cons (m := m') (ms := ms) h' hs) => by
    intro A ρ μ σ s ga R
    have ih := Tr_boolOp (pos := pos) (op := op) (EvL.cons h' hs)
    show W X A ρ μ env s VRr (eval e env >>= fun v => standAt pos >>= fun _ => holding [v] (truthy v) >>= fun t => _) _
    refine W_bind (h A ρ μ σ s ga R) fun μ₁ s₁ a σ₁ x st₁ R₁ v₁ => W_standAt (W_bind (W_holding (W_truthS R₁ v₁)) fun μ₂ s₂ t σ₂ y st₂ R₂ v₂ => ?_)
    have : y = t := v₂
    subst this
    have va := VR.step R₁ st₂ v₁
    cases op <;> cases y
    · exact W_pure R₂ va
    · exact ih A ρ μ₂ σ₂ s₂ ga R₂
    · exact ih A ρ μ₂ σ₂ s₂ ga R₂
    · exact W_pure R₂ va

theorem Ev_BoolOp {op : BoolOp} {es : List Expr} {pos : Pos} {ms : List (M V)} (h : EvL X n env es ms) : Ev X n env (.BoolOp op es pos) (boolS op ms) := by
  intro A ρ μ σ s ga R
  rw [arm_eval_BoolOp]
  exact Tr_boolOp h A ρ μ σ s ga R

noncomputable def noStar : Expr → Bool
  | .Starred .. => false
  | _ => true
theorem starEach_cons {e : Expr} {es : List Expr} (h : noStar e = true) : starEach (e :: es) env = (false, eval e env) :: starEach es env := by
  cases e <;> first | rfl | cases h

theorem Tr_spliced {pos : Pos} : ∀ {es : List Expr} {ms : List (M V)}, EvL X n env es ms → es.all noStar = true → Tr X n env VRs (spliced (backTo pos (starEach es env))) (seqS ms)
  | [], _, .nil, _ => fun A ρ μ σ s ga R => W_pure R rfl
  | e :: es, _, .cons (m := m) (ms := ms) h hs, hst => by
    intro A ρ μ σ s ga R
    rw [List.all_cons, Bool.and_eq_true] at hst
    have ih := Tr_spliced (pos := pos) hs hst.2
    rw [starEach_cons hst.1]
    show W X A ρ μ env s VRs (eval e env >>= fun v => (pure [v] : Sem (List Value)) >>= fun here => holding here (spliced (backTo pos (starEach es env))) >>= fun r => pure (here ++ r)) _
    refine W_bind (h A ρ μ σ s ga R) fun μ₁ s₁ a σ₁ x st₁ R₁ v₁ => ?_
    refine W_conc (t' := holding [x] (spliced (backTo pos (starEach es env))) >>= fun r => pure ([x] ++ r)) ?_ fun Q q => wpAny_bind (wpAny_pure q)
    refine W_bind (W_holding (ih A ρ μ₁ σ₁ s₁ ga R₁)) fun μ₂ s₂ vs σ₂ xs st₂ R₂ v₂ => W_pure R₂ ?_
    exact ⟨x, xs, rfl, VR.step R₁ st₂ v₁, v₂⟩

/-- the items of a display: data alone -/
theorem W_listS {A : Around} {ρ : List Addr} {μ : Mu} {σ : St} {s : Shared} {P : Prm} {pos : Pos} {es : List Expr} {ms : List (M V)} (h : EvL X n env es ms) (hst : es.all noStar = true) (ga : Ga n A) (R : Rel X ρ μ env σ s.heap) {ds : List PyData} {σ' : St}
    (e : listS P ms σ = some (ds, σ')) : wpAny (model X.prog X.w) A (spliced (backTo pos (starEach es env)))
      (fun xs s' => ∃ μ', Step (wrt env) μ μ' s s' ∧ Rel X ρ μ' env σ' s'.heap ∧ DRs s'.heap (okOf ρ μ') ds xs ∧ xs.length ≤ sizeLine) (fun _ _ => False) s := by
  unfold listS at e
  refine mbind_elim e fun vs σ1 e1 q => ?_
  refine mbind_elim q fun ds' σ2 e2 q2 => ?_
  obtain ⟨e3, h2⟩ := mopt_some e2
  subst h2
  refine mbind_elim q2 fun u σ3 e4 q4 => ?_
  unfold mguard at e4
  split at e4
  · rename_i hl
    cases e4; cases q4
    refine wpAny_mono (Tr_spliced h hst A ρ μ σ s ga R vs _ e1) (fun xs s' z => ?_) fun _ _ z => z
    first | refine post_elim z fun μ' st R' rv => ?_ | obtain ⟨μ', st, R', rv⟩ := z
    have hd := VRl.dats rv e3
    refine ⟨μ', st, R', hd, ?_⟩
    rw [hd.length]
    exact Nat.le_trans (of_decide_eq_true hl) big_le
  · cases e4

theorem Fl_List {A : Around} {ρ : List Addr} {μ : Mu} {σ : St} {s : Shared} {P : Prm} {pos : Pos} {es : List Expr} {ms : List (M V)} (h : EvL X n env es ms) (hst : es.all noStar = true) (ga : Ga n A) (R : Rel X ρ μ env σ s.heap) {ds : List PyData} {σ' : St}
    (e : listS P ms σ = some (ds, σ')) : wpAny (model X.prog X.w) A (eval (.List es pos) env) (FreshL X ρ μ env s ds σ') (fun _ _ => False) s := by
  refine wpAny_List (wpAny_mono (W_listS h hst ga R e) (fun xs s' z => ?_) fun _ _ z => z)
  obtain ⟨μ', st, R', hd, hl⟩ := z
  exact ⟨hl, (FreshL.push R' (by simpa using hd)).trans st⟩

theorem Ev_List {P : Prm} {pos : Pos} {es : List Expr} {ms : List (M V)} (h : EvL X n env es ms) (hst : es.all noStar = true) : Ev X n env (.List es pos) (do let ds ← listS P ms; mpure (.dat (.list ds))) := by
  intro A ρ μ σ s ga R v σ' e
  refine mbind_elim e fun ds σ1 e1 q => ?_
  cases q
  exact wpAny_mono (Fl_List h hst ga R e1) (fun _ _ f => f.dat) fun _ _ z => z

theorem Ev_Tuple {P : Prm} {pos : Pos} {k : Nat} {es : List Expr} {ms : List (M V)} (h : EvL X n env es ms) (hst : es.all noStar = true) : Ev X n env (.Tuple es k pos) (do let ds ← listS P ms; mpure (.dat (.tuple ds))) := by
  intro A ρ μ σ s ga R v σ' e
  refine mbind_elim e fun ds σ1 e1 q => ?_
  cases q
  refine wpAny_Tuple (wpAny_mono (W_listS h hst ga R e1) (fun xs s' z => ?_) fun _ _ z => z)
  obtain ⟨μ', st, R', hd, hl⟩ := z
  refine ⟨hl, μ', st.trans (.grow fun _ _ e => Heap.get?_push_of_some _ e), R'.ext fun _ _ e => Heap.get?_push_of_some _ e, ?_⟩
  show DR _ _ _ _
  simp only [DR]
  exact ⟨_, _, _, _, rfl, R'.okNew (fresh_size _), Heap.get?_push_size _ rfl, rfl, rfl, by simpa using DRs.mono (fun a o ok e => ⟨Heap.get?_push_of_some _ e, ok⟩) hd⟩

end
end Mine
end

section
open PySem
set_option Elab.async false
namespace Mine

/-- a method of the class that is a plain def -/
noncomputable def mth (X : Cx) (name : Str) : Option Addr := match W.findIn X.K (.ref X.C) name with
  | some (some (.ref f)) => if W.isFn X.K (.ref f) && W.fnIn X.K f then some f else none
  | _ => none

theorem mth_find {X : Cx} {name : Str} {f : Addr} (e : mth X name = some f) : W.findIn X.K (.ref X.C) name = some (some (.ref f)) ∧ W.isFn X.K (.ref f) = true ∧ W.fnIn X.K f = true := by
  unfold mth at e
  split at e
  · rename_i f' h
    split at e
    · rename_i hb
      rw [Bool.and_eq_true] at hb
      cases e; exact ⟨h, hb.1, hb.2⟩
    · cases e
  · cases e

noncomputable def bltNames : List Str := [Str.ofString "len", Str.ofString "str", Str.ofString "range", Str.ofString "list", Str.ofString "int", Str.ofString "sorted", Str.ofString "zip", Str.ofString "sum", Str.ofString "min", Str.ofString "max", Str.ofString "ord", Str.ofString "chr", Str.ofString "reversed", Str.ofString "type"]

structure CxOk (X : Cx) : Prop where
  kin : X.K.In X.base
  g : X.base.Ns mainGlobals X.mg
  b : X.base.Ns builtinsNs X.mb
  blt : ∀ x : Str, x ≠ "__name__" → X.mb x = bootBuiltins x
  nolimit : X.base.NoLimit
  ga : W.findIn X.K (.ref X.C) "__getattribute__" = some (some (.builtin "object.__getattribute__"))
  noga : W.findIn X.K (.ref X.C) "__getattr__" = some none
  noSeq : W.noSeq X.K X.C = true
  noG : ∀ x ∈ bltNames, X.mg x = none
  sa : W.findIn X.K (.ref X.C) "__setattr__" = some (some (.builtin "object.__setattr__"))
  po : W.plainOver X.K X.C = true
  hd : W.findIn X.K (.ref X.C) hdrKey = some none
  hasD : (W.clsIn X.K X.C).any (·.hasDict) = true
  keep : W.keepIn X.K (.ref X.C) = true

noncomputable def VRk (h : Heap) (ok : Addr → Prop) (μ : Mu) : List (Str × V) → List (Str × Value) → Prop
  | [], xs => xs = []
  | (k, v) :: vs, xs => ∃ x r, xs = (k, x) :: r ∧ VR h ok μ v x ∧ VRk h ok μ vs r
structure PrmOk (X : Cx) (n : Nat) (P : Prm) : Prop where
  mt : ∀ name f, mth X name = some f → ∀ env A ρ μ σ s self x vs xs ks kx, Ga n A → Rel X ρ μ env σ s.heap → VR s.heap (okOf ρ μ) μ self x → VRl s.heap (okOf ρ μ) μ vs xs → VRk s.heap (okOf ρ μ) μ ks kx →
    W X A ρ μ env s VRr (call (.ref f) (x :: xs) kx) (P.mt name self vs ks σ)
  mtNo : ∀ name, mth X name = none → ∀ σ self vs ks, P.mt name self vs ks σ = none
  mtHdr : ∀ σ self vs ks, P.mt hdrKey self vs ks σ = none
  fn : ∀ name vs σ r, P.fn name vs σ = some r → ∃ a o fd, X.mg name = some (.ref a) ∧ X.base.get? a = some o ∧ o.data = .func fd ∧
    ∀ env A ρ μ s xs, Ga n A → Rel X ρ μ env σ s.heap → VRl s.heap (okOf ρ μ) μ vs xs → W X A ρ μ env s VRr (call (.ref a) xs []) (P.fn name vs σ)
  make : X.mg (Str.ofString "Headers") = some (.ref X.C) ∧ ∀ env A ρ μ σ s vs xs, Ga n A → Rel X ρ μ env σ s.heap → VRl s.heap (okOf ρ μ) μ vs xs → W X A ρ μ env s VRr (call (.ref X.C) xs []) (P.make vs σ)

section
variable {X : Cx} {n : Nat} {env : Env} {P : Prm} {A : Around} {ρ : List Addr} {μ : Mu} {σ : St} {s : Shared}

theorem Rel.kin (R : Rel X ρ μ env σ s.heap) (ok : CxOk X) : X.K.In s.heap := ok.kin.keeps R.base

theorem inst_at (R : Rel X ρ μ env σ s.heap) {i : Nat} {l : Option Nat} {x : Value} (hv : VR s.heap (okOf ρ μ) μ (.obj i) x) (hi : σ.heap[i]? = some (.inst l)) :
    ∃ a d od, x = .ref a ∧ root μ i = some a ∧ W.InstAt s.heap a (W.instObj X.C d) X.C (some od) ∧ s.heap.get? d = some od ∧ (match l with
      | none => od = W.emptyDict
      | some k => ∃ al t n, root μ k = some al ∧ od = instDict X.w.params t n al) := by
  obtain ⟨a, h1, rfl⟩ := hv
  obtain ⟨p, h2, h3⟩ := R.objs i _ hi
  obtain ⟨d, h4, h5, h6⟩ := h3
  rw [root_some h2] at h1
  cases h1
  cases l with
  | none => exact ⟨_, d, _, rfl, root_some h2, ⟨h5, rfl, rfl, h6⟩, h6, rfl⟩
  | some k =>
    obtain ⟨al, t, n, h7, h8⟩ := h6
    exact ⟨_, d, _, rfl, root_some h2, ⟨h5, rfl, rfl, h8⟩, h8, al, t, n, h7, rfl⟩

theorem isInst_obj {v : V} (h : isInst v σ = true) : ∃ i l, v = .obj i ∧ σ.heap[i]? = some (.inst l) := by
  cases v with
  | obj i =>
    simp only [isInst] at h
    split at h
    · rename_i l e; exact ⟨i, l, rfl, e⟩
    · cases h
  | _ => cases h

/-- comparisons -/
theorem W_cmpS (ok : CxOk X) (pok : PrmOk X n P) (ga : Ga (n + 1) A) {op : CmpOp} {a b : V} {x y : Value} (R : Rel X ρ μ env σ s.heap) (ha : VR s.heap (okOf ρ μ) μ a x) (hb : VR s.heap (okOf ρ μ) μ b y) :
    W X A ρ μ env s VRr (compareOp op x y) (cmpS P op a b σ) := by
  intro r σ' e
  unfold cmpS at e
  split at e
  · rename_i hi
    obtain ⟨i, l, rfl, hi'⟩ := isInst_obj hi
    obtain ⟨a', d, od, rfl, hr, I, hd, _⟩ := inst_at R hb hi'
    split at e
    · refine mbind_elim e fun rv σ1 e1 q => ?_
      refine mbind_elim q fun t σ2 e2 q2 => ?_
      cases q2
      cases hm : mth X (Str.ofString "__contains__") with
      | none => rw [pok.mtNo _ hm] at e1; cases e1
      | some f =>
        obtain ⟨hf, hfn, _⟩ := mth_find hm
        obtain ⟨m, F⟩ := R.fr
        refine W.in_K F ok.kin I hf hfn ?_
        refine wpAny_mono (pok.mt _ f hm env A ρ μ σ s (.obj i) (.ref a') [a] [x] [] [] (ga.less (Nat.le_succ _)) R hb ⟨x, [], rfl, ha, rfl⟩ rfl rv σ1 e1) (fun z s' h => ?_) fun _ _ h => h
        obtain ⟨μ', st, R', v'⟩ := h
        refine wpAny_mono (W_truthS R' v' t _ e2) (fun b' s'' h => ?_) fun _ _ h => h
        obtain ⟨μ'', st', R'', rfl⟩ := h
        exact ⟨μ'', st.trans st', R'', by show DR _ _ _ _; simp only [DR]⟩
    · cases e
  · refine mbind_elim e fun d1 σ1 e1 q => ?_
    have h1 := readD_state e1; subst h1
    refine mbind_elim q fun d2 σ2 e2 q2 => ?_
    have h2 := readD_state e2; subst h2
    refine mbind_elim q2 fun b' σ3 e3 q3 => ?_
    obtain ⟨e4, h3⟩ := mopt_some e3
    subst h3
    cases q3
    exact W_cmpD (by have := ga.c; omega) R (readD_ok R ha e1).2 (readD_ok R hb e2).2 e4

noncomputable def noMark (op : CmpOp) (r : Expr) : Bool := !behindInMarks op r

theorem Ev_Compare (ok : CxOk X) (pok : PrmOk X n P) {l r : Expr} {op : CmpOp} {pos : Pos} {ml mr : M V} (hl : Ev X (n + 1) env l ml) (hr : Ev X (n + 1) env r mr) (hm : noMark op r = true) :
    Ev X (n + 1) env (.Compare l [op] [r] pos) (do let a ← ml; let b ← mr; cmpS P op a b) := by
  intro A ρ μ σ s ga R v σ' e
  have hm' : behindInMarks op r = false := by unfold noMark at hm; simpa using hm
  refine mbind_elim e fun a σ1 e1 q => ?_
  refine mbind_elim q fun b σ2 e2 q2 => ?_
  refine wpAny_Compare1 ?_ hm'
  refine wpAny_mono (hl A ρ μ σ s ga R a σ1 e1) (fun x s1 z => ?_) fun _ _ z => z
  first | refine post_elim z fun μ1 st1 R1 v1 => ?_ | obtain ⟨μ1, st1, R1, v1⟩ := z
  refine wpAny_mono (hr A ρ μ1 σ1 s1 ga R1 b σ2 e2) (fun y s2 z => ?_) fun _ _ z => z
  first | refine post_elim z fun μ2 st2 R2 v2 => ?_ | obtain ⟨μ2, st2, R2, v2⟩ := z
  refine wpAny_mono (W_cmpS ok pok ga R2 (VR.step R1 st2 v1) v2 v σ' q2) (fun c s3 z => ?_) fun _ _ z => z
  first | refine post_elim z fun μ3 st3 R3 v3 => ?_ | obtain ⟨μ3, st3, R3, v3⟩ := z
  exact ⟨μ3, (st1.trans st2).trans st3, R3, v3⟩

/-! tests -/
theorem Te_Compare (ok : CxOk X) (pok : PrmOk X n P) {l r : Expr} {op : CmpOp} {pos : Pos} {ml mr : M V} (hl : Ev X (n + 1) env l ml) (hr : Ev X (n + 1) env r mr) (hm : noMark op r = true) :
    Te X (n + 1) env (.Compare l [op] [r] pos) (do let v ← (do let a ← ml; let b ← mr; cmpS P op a b); truthS v) := by
  intro A ρ μ σ s ga R t σ' e
  have hm' : behindInMarks op r = false := by unfold noMark at hm; simpa using hm
  refine mbind_elim e fun v σ3 e0 q3 => ?_
  refine mbind_elim e0 fun a σ1 e1 q => ?_
  refine mbind_elim q fun b σ2 e2 q2 => ?_
  refine wpAny_isTrue_Compare1 ?_ hm'
  refine wpAny_mono (hl A ρ μ σ s ga R a σ1 e1) (fun x s1 z => ?_) fun _ _ z => z
  first | refine post_elim z fun μ1 st1 R1 v1 => ?_ | obtain ⟨μ1, st1, R1, v1⟩ := z
  refine wpAny_mono (hr A ρ μ1 σ1 s1 ga R1 b σ2 e2) (fun y s2 z => ?_) fun _ _ z => z
  first | refine post_elim z fun μ2 st2 R2 v2 => ?_ | obtain ⟨μ2, st2, R2, v2⟩ := z
  refine wpAny_mono (W_cmpS ok pok ga R2 (VR.step R1 st2 v1) v2 v σ3 q2) (fun c s3 z => ?_) fun _ _ z => z
  first | refine post_elim z fun μ3 st3 R3 v3 => ?_ | obtain ⟨μ3, st3, R3, v3⟩ := z
  refine wpAny_mono (W_truthS R3 v3 t σ' q3) (fun c s3 z => ?_) fun _ _ z => z
  first | refine post_elim z fun μ4 st4 R4 v4 => ?_ | obtain ⟨μ4, st4, R4, v4⟩ := z
  exact ⟨μ4, ((st1.trans st2).trans st3).trans st4, R4, v4⟩

noncomputable def plainTest : Expr → Bool
  | .UnaryOp .Not _ _ => false
  | .BoolOp .. => false
  | .IfExp .. => false
  | .Compare .. => false
  | _ => true
theorem isTrue_plainE {e : Expr} (h : plainTest e = true) (whole : Sem Value) : isTrue e env whole = (do let v ← whole; standAt e.pos; holding [v] (truthy v)) := by
  cases e <;> first | rfl | cases h | skip
  rename_i op x p
  cases op <;> first | rfl | cases h

theorem Te_plain {e : Expr} {m : M V} (he : plainTest e = true) (h : Ev X n env e m) : Te X n env e (do let v ← m; truthS v) := by
  intro A ρ μ σ s ga R
  rw [isTrue_plainE he]
  exact W_bind (h A ρ μ σ s ga R) fun μ₁ s₁ a σ₁ x st₁ R₁ v₁ => W_standAt (W_holding (W_truthS R₁ v₁))

theorem Te_Not {e : Expr} {pos : Pos} {m : M Bool} (h : Te X n env e m) : Te X n env (.UnaryOp .Not e pos) (do let b ← m; mpure (!b)) := by
  intro A ρ μ σ s ga R
  rw [arm_isTrue_UnaryOp]
  refine W_bind (h A ρ μ σ s ga R) fun μ₁ s₁ a σ₁ x st₁ R₁ v₁ => ?_
  have : x = a := v₁
  subst this
  exact W_pure R₁ rfl

inductive TeL (X : Cx) (n : Nat) (env : Env) : List Expr → List (M Bool) → Prop
  | nil : TeL X n env [] []
  | cons {e : Expr} {es : List Expr} {m : M Bool} {ms : List (M Bool)} : Te X n env e m → TeL X n env es ms → TeL X n env (e :: es) (m :: ms)

theorem Tr_allTrue {op : BoolOp} : ∀ {es : List Expr} {ms : List (M Bool)}, TeL X n env es ms → Tr X n env EqR (allTrue op es env) (allTS op ms)
  | [], _, .nil => fun A ρ μ σ s ga R => by
    show W X A ρ μ env s EqR (pure (op == .And)) (mpure (op == .And) σ)
    exact W_pure R rfl
  | e :: es, _, .cons (m := m) (ms := ms) h hs => by
    intro A ρ μ σ s ga R
    have ih := Tr_allTrue (op := op) hs
    rw [arm_allTrue_cons]
    refine W_bind (h A ρ μ σ s ga R) fun μ₁ s₁ a σ₁ x st₁ R₁ v₁ => ?_
    have : x = a := v₁
    subst this
    cases op <;> cases x
    · exact W_pure R₁ rfl
    · exact ih A ρ μ₁ σ₁ s₁ ga R₁
    · exact ih A ρ μ₁ σ₁ s₁ ga R₁
    · exact W_pure R₁ rfl

theorem Te_BoolOp {op : BoolOp} {es : List Expr} {pos : Pos} {ms : List (M Bool)} (h : TeL X n env es ms) : Te X n env (.BoolOp op es pos) (allTS op ms) := by
  intro A ρ μ σ s ga R
  rw [arm_isTrue_BoolOp]
  exact Tr_allTrue h A ρ μ σ s ga R

end
end Mine
end

section
open PySem
set_option Elab.async false
namespace Mine

section
variable {X : Cx} {n : Nat} {env : Env} {P : Prm} {A : Around} {ρ : List Addr} {μ : Mu} {σ : St} {s : Shared}

noncomputable def noSlice : Expr → Bool
  | .Slice .. => false
  | _ => true
theorem subscripted_plain {e : Expr} (h : noSlice e = true) (o i : Value) : subscripted e false o i = operate [o, i] (getItem o i) := by
  cases e <;> first | rfl | cases h
theorem subscripted_py {e : Expr} (h : noSlice e = true) (o i : Value) : subscripted e true o i = runValue (.builtin "lifetime.subscript" ⟨[o, i], []⟩) := by
  cases e <;> first | rfl | cases h

theorem small_bounds {d : PyData} (h : smallI d = true) : ∃ i, d = .int i ∧ -(2 ^ 40) ≤ i ∧ i ≤ 2 ^ 40 := by
  cases d with
  | int i => exact ⟨i, rfl, of_decide_eq_true h⟩
  | _ => cases h

theorem seqIndex_some {i : Int} {m k : Nat} (h : seqIndex? i m = some k) : (0 ≤ i ∧ i < m ∧ k = i.toNat) ∨ (i < 0 ∧ -(m : Int) ≤ i ∧ k = (i + m).toNat) := by
  unfold seqIndex? at h
  simp only [Bool.and_eq_true, decide_eq_true_eq] at h
  split at h
  · split at h
    · cases h; omega
    · cases h
  · split at h
    · cases h; omega
    · cases h

/-- an item -/
theorem W_itemS (ok : CxOk X) (pok : PrmOk X n P) (ga : Ga (n + 1) A) {value slice : Expr} (hs : noSlice slice = true) {o i : V} {x y : Value} (R : Rel X ρ μ env σ s.heap) (ho : VR s.heap (okOf ρ μ) μ o x) (hi : VR s.heap (okOf ρ μ) μ i y) :
    W X A ρ μ env s VRr (PyProof.Rows.subscriptTail value slice x y) (itemS P o i σ) := by
  intro r σ' e
  unfold itemS at e
  split at e
  · rename_i hin
    obtain ⟨j, l, rfl, hj⟩ := isInst_obj hin
    obtain ⟨a', d, od, rfl, hr, I, hd, _⟩ := inst_at R ho hj
    cases hm : mth X (Str.ofString "__getitem__") with
    | none => rw [pok.mtNo _ hm] at e; cases e
    | some f =>
      obtain ⟨hf, hfn, hfi⟩ := mth_find hm
      obtain ⟨m, F⟩ := R.fr
      refine W.sub_K F ok.kin I hf hfi hfn ?_ (subscripted_py hs _ _)
      exact pok.mt _ f hm env A.in1 ρ μ σ s (.obj j) (.ref a') [i] [y] [] [] ga.in1 R ho ⟨y, [], rfl, hi, rfl⟩ rfl r σ' e
  · refine mbind_elim e fun d1 σ1 e1 q => ?_
    have h1 := readD_state e1; subst h1
    refine mbind_elim q fun d2 σ2 e2 q2 => ?_
    refine mbind_elim q2 fun u σ3 e3 q3 => ?_
    refine mbind_elim q3 fun d σ4 e4 q4 => ?_
    obtain ⟨e5, h5⟩ := mopt_some e4
    unfold mguard at e3
    split at e3
    · rename_i hsm
      cases e3
      cases i with
      | dat d2' =>
        cases e2
        subst h5
        cases q4
        obtain ⟨k, rfl, hlo, hhi⟩ := small_bounds hsm
        have l1 := (readD_ok R ho e1).2
        have l2 : DR _ _ _ _ := hi
        simp only [DR] at l2
        obtain ⟨u, rfl⟩ := l2
        unfold itemD at e5
        split at e5
        · rename_i x' i' hh
          cases hh
          obtain ⟨c, e6, rfl⟩ := Option.map_eq_some_iff.mp e5
          simp only [LR, DR] at l1
          obtain ⟨ha, t, rfl⟩ := l1
          refine PyProof.Rows.tail_any (typeIs_str s x' t) PyProof.Rows.slot_str_getitem.lookup (PyProof.Rows.getItem_str ?_ e6 (post_tok R _ ?_)) (subscripted_plain hs _ _)
          · simp only [Bool.or_eq_false_iff, decide_eq_false_iff_not]; omega
          · show DR _ _ _ _
            simp only [DR]
            refine ⟨?_, _, rfl⟩
            obtain ⟨k', _, hk'⟩ := Option.bind_eq_some_iff.mp e6
            unfold asc at ha ⊢
            rw [List.all_eq_true] at ha
            simp only [List.all_cons, List.all_nil, Bool.and_true]
            exact ha c (Array.mem_toList_iff.mpr (Array.mem_of_getElem? hk'))
        · rename_i ds i' hh
          cases hh
          obtain ⟨k', e6, e7⟩ := Option.bind_eq_some_iff.mp e5
          obtain ⟨a, vs, rfl, hL, hds⟩ := list_of_LR l1
          have ln := hds.length
          rw [Array.length_toList] at ln
          obtain ⟨v, hv, hdv⟩ := hds.get e7
          refine PyProof.Rows.tail_any hL.typeIs slot_list_getitem.lookup ?_ (subscripted_plain hs _ _)
          rcases seqIndex_some e6 with ⟨q1, q2, rfl⟩ | ⟨q1, q2, rfl⟩
          · exact wpAny_getItem_list hL q1 (by omega) (by rw [← Array.getElem?_toList]; exact hv) (post_same R hdv)
          · exact wpAny_getItem_list_neg hL q1 (by omega) (by omega) (by rw [← Array.getElem?_toList, ln]; exact hv) (post_same R hdv)
        · rename_i ds i' hh
          cases hh
          obtain ⟨k', e6, e7⟩ := Option.bind_eq_some_iff.mp e5
          simp only [LR, DR] at l1
          obtain ⟨a, ob, vs, nn, rfl, _, g1, g2, g3, hds⟩ := l1
          have ln := hds.length
          rw [Array.length_toList] at ln
          obtain ⟨v, hv, hdv⟩ := hds.get e7
          have hT : PyProof.Rows.IsTup s.heap a vs := ⟨ob, g1, g2, nn, g3⟩
          exact PyProof.Rows.tail_any hT.typeIs PyProof.Rows.slot_tuple_getitem.lookup (PyProof.Rows.getItem_tuple hT (by omega) (by omega) (by rw [ln]; exact e6) (by rw [← Array.getElem?_toList]; exact hv) (post_same R hdv)) (subscripted_plain hs _ _)
        · cases e5
      | obj j => cases e2
      | rng a b => cases e2
      | emp => cases e2
    · cases e3

theorem Ev_Subscript (ok : CxOk X) (pok : PrmOk X n P) {o i : Expr} {pos : Pos} {mo mi : M V} (ho : Ev X (n + 1) env o mo) (hi : Ev X (n + 1) env i mi) (hs : noSlice i = true) :
    Ev X (n + 1) env (.Subscript o i pos) (do let ov ← mo; let iv ← mi; itemS P ov iv) := by
  intro A ρ μ σ s ga R v σ' e
  refine mbind_elim e fun a σ1 e1 q => ?_
  refine mbind_elim q fun b σ2 e2 q2 => ?_
  refine PyProof.Rows.Subscript_ ?_
  refine wpAny_mono (ho A ρ μ σ s ga R a σ1 e1) (fun x s1 z => ?_) fun _ _ z => z
  first | refine post_elim z fun μ1 st1 R1 v1 => ?_ | obtain ⟨μ1, st1, R1, v1⟩ := z
  refine wpAny_mono (hi A ρ μ1 σ1 s1 ga R1 b σ2 e2) (fun y s2 z => ?_) fun _ _ z => z
  first | refine post_elim z fun μ2 st2 R2 v2 => ?_ | obtain ⟨μ2, st2, R2, v2⟩ := z
  refine wpAny_mono (W_itemS ok pok ga hs R2 (VR.step R1 st2 v1) v2 v σ' q2) (fun c s3 z => ?_) fun _ _ z => z
  first | refine post_elim z fun μ3 st3 R3 v3 => ?_ | obtain ⟨μ3, st3, R3, v3⟩ := z
  exact ⟨μ3, (st1.trans st2).trans st3, R3, v3⟩

end
end Mine
end

section
open PySem
set_option Elab.async false
namespace Mine

/-! slices -/
theorem loN_eq (lo : Option Int) (n : Nat) : (sliceBounds lo none none n).1 = (loN lo n : Int) := by
  cases lo with
  | none => simp [sliceBounds, loN]
  | some k =>
    simp only [sliceBounds, loN, clampI, Option.getD_none, show (1 : Int) > 0 by decide, if_true]
    by_cases hk : k < 0 <;> simp only [hk, if_true, if_false] <;> omega
theorem hiN_eq (hi : Option Int) (n : Nat) : (sliceBounds none hi none n).2.1 = (hiN hi n : Int) := by
  cases hi with
  | none => simp [sliceBounds, hiN]
  | some k =>
    simp only [sliceBounds, hiN, clampI, Option.getD_none, show (1 : Int) > 0 by decide, if_true]
    by_cases hk : k < 0 <;> simp only [hk, if_true, if_false] <;> omega
theorem bounds_eq (lo hi : Option Int) (n : Nat) : sliceBounds lo hi none n = ((loN lo n : Int), (hiN hi n : Int), 1) := by
  have h1 := loN_eq lo n
  have h2 := hiN_eq hi n
  show (_, _, _) = _
  rw [← h1, ← h2]
  rfl
theorem hiN_le (hi : Option Int) (n : Nat) : hiN hi n ≤ n ∨ False := by
  left
  cases hi with
  | none => exact Nat.le_refl _
  | some k => simp only [hiN, clampI]; split <;> omega

theorem range_pick {α : Type} (l : List α) (a b : Nat) (hb : b ≤ l.length) : ((sliceRange (a : Int) (b : Int) 1).filterMap (l[·]?)) = (l.take b).drop a := by
  have hr : sliceRange (a : Int) (b : Int) 1 = (List.range (b - a)).map (a + ·) := by
    unfold sliceRange
    simp only [show (1 : Int) > 0 by decide, if_true, Int.ediv_one]
    have hc : (if (a : Int) < b then ((b : Int) - a + 1 - 1) else 0).toNat = b - a := by split <;> omega
    rw [hc]
    apply List.map_congr_left
    intro k _
    omega
  rw [hr, List.filterMap_map]
  apply List.ext_getElem?
  intro i
  rw [List.getElem?_drop, List.getElem?_take]
  by_cases hi : i < b - a
  · rw [if_pos (by omega)]
    have hlen : ∀ m, m ≤ b - a → ((List.range m).filterMap ((fun x => l[x]?) ∘ fun x => a + x)) = (l.drop a).take m := by
      intro m hm
      induction m with
      | zero => simp
      | succ m ih =>
        rw [List.range_succ, List.filterMap_append, ih (by omega), List.take_add_one]
        congr 1
        simp only [List.filterMap_cons, List.filterMap_nil, Function.comp, List.getElem?_drop]
        cases l[a + m]? <;> rfl
    rw [hlen (b - a) (Nat.le_refl _), List.getElem?_take, if_pos hi, List.getElem?_drop]
  · rw [if_neg (by omega)]
    apply List.getElem?_eq_none
    have := List.length_filterMap_le ((fun x => l[x]?) ∘ fun x => a + x) (List.range (b - a))
    simp at this
    simp
    omega

theorem slicePick_cut (items : Array Value) (lo hi : Option Int) : (slicePick items lo hi none).toList = (items.toList.take (hiN hi items.size)).drop (loN lo items.size) := by
  unfold slicePick
  rw [bounds_eq]
  have := range_pick items.toList (loN lo items.size) (hiN hi items.size) (by rcases hiN_le hi items.size with h | h; simpa using h; exact h.elim)
  simpa using this

theorem strSlice_cut (x : Str) (lo hi : Option Int) : Txt.slice x lo hi = ⟨((x.cps.toList.take (hiN hi x.length)).drop (loN lo x.length)).toArray⟩ := by
  have hidx : Builtin.Str.strSliceIndices lo hi 1 x.length = sliceRange (loN lo x.length : Int) (hiN hi x.length : Int) 1 := by
    have h := bounds_eq lo hi x.length
    unfold sliceBounds at h
    simp only [Option.getD_none] at h
    unfold Builtin.Str.strSliceIndices
    simp only
    have h1 := (Prod.mk.inj h).1
    have h2 := (Prod.mk.inj (Prod.mk.inj h).2).1
    rw [← h1, ← h2]
    cases lo <;> cases hi <;> rfl
  have hp := range_pick x.cps.toList (loN lo x.length) (hiN hi x.length) (by rcases hiN_le hi x.length with h | h; simpa [Str.length] using h; exact h.elim)
  unfold Txt.slice
  rw [hidx]
  split
  · rename_i hc
    simp only [beq_self_eq_true, Bool.true_and, beq_iff_eq] at hc
    have hlen : (sliceRange (loN lo x.length : Int) (hiN hi x.length : Int) 1).length = hiN hi x.length - loN lo x.length := by
      unfold sliceRange
      simp only [show (1 : Int) > 0 by decide, if_true, Int.ediv_one, List.length_map, List.length_range]
      split <;> omega
    rw [hlen] at hc
    have hh : hiN hi x.length ≤ x.length := by rcases hiN_le hi x.length with h | h; exact h; exact h.elim
    by_cases h0 : x.length = 0
    · cases x with | mk a =>
      simp only [Str.length] at h0
      have : a = #[] := Array.eq_empty_of_size_eq_zero h0
      subst this
      simp
    · have e1 : hiN hi x.length = x.length := by omega
      have e2 : loN lo x.length = 0 := by omega
      rw [e1, e2]
      cases x with | mk a =>
        have : a.toList.take a.size = a.toList := List.take_of_length_le (by simp)
        simp [Str.length, this]
  · congr 1
    rw [← hp]
    simp

noncomputable def OptR : RVt Value (Option V) := fun h ok μ v x => match v with
  | none => x = .none
  | some v => VR h ok μ v x

section
variable {X : Cx} {n : Nat} {env : Env} {P : Prm} {A : Around} {ρ : List Addr} {μ : Mu} {σ : St} {s : Shared}

inductive EvO (X : Cx) (n : Nat) (env : Env) : Option Expr → Option (M V) → Prop
  | none : EvO X n env none none
  | some {e : Expr} {m : M V} : Ev X n env e m → EvO X n env (some e) (some m)

theorem Tr_part {e : Option Expr} {m : Option (M V)} (h : EvO X n env e m) : Tr X n env OptR (evalPart e env) (optS m) := by
  cases h with
  | none => exact fun A ρ μ σ s ga R => W_pure R rfl
  | some h =>
    intro A ρ μ σ s ga R v σ' e
    refine mbind_elim e fun a σ1 e1 q => ?_
    cases q
    exact h A ρ μ σ s ga R a _ e1

theorem part_of {v : Option V} {x : Value} {k : Option Int} (hv : OptR s.heap (okOf ρ μ) μ v x) (hb : boundS v = some k) : IsPart x k := by
  cases v with
  | none => cases hb; rw [show x = _ from hv]; exact .none
  | some v =>
    cases v with
    | dat d =>
      cases d with
      | int i =>
        simp only [boundS] at hb
        split at hb
        · cases hb
          have h2 : DR _ _ _ _ := hv
          simp only [DR] at h2
          obtain ⟨t, rfl⟩ := h2
          exact .int _ _
        · cases hb
      | _ => cases hb
    | _ => cases hb

theorem part_val {x : Value} {k : Option Int} (h : IsPart x k) : ∃ l : Option (Int × Tok), x = partValue l ∧ k = l.map (·.1) := by
  cases h with
  | none => exact ⟨none, rfl, rfl⟩
  | int i t => exact ⟨some (i, t), rfl, rfl⟩

theorem OptR.step {v : Option V} {x : Value} {μ' : Mu} {s' : Shared} (R : Rel X ρ μ env σ s.heap) (a : Step (wrt env) μ μ' s s') (h : OptR s.heap (okOf ρ μ) μ v x) : OptR s'.heap (okOf ρ μ') μ' v x := by
  cases v with
  | none => exact h
  | some v => exact VR.step R a h

theorem subscripted_slice (lo hi : Option Expr) (p : Pos) (o i : Value) : subscripted (.Slice lo hi none p) false o i = operate [i, o] (getItem o i) := rfl

/-- the cut's parts are read; the slice object lies there -/
theorem W_slice {o : Expr} {lo hi : Option Expr} {p pos : Pos} {mo : M V} {ml mh : Option (M V)} (ho : Ev X n env o mo) (hl : EvO X n env lo ml) (hh : EvO X n env hi mh) (ga : Ga n A) (R : Rel X ρ μ env σ s.heap)
    {ov : V} {a b : Option V} {σ1 σ2 σ3 : St} (e1 : mo σ = some (ov, σ1)) (e2 : optS ml σ1 = some (a, σ2)) (e3 : optS mh σ2 = some (b, σ3)) {Q : Value → Shared → Prop}
    (k : ∀ μ' s' x vl vu, Step (wrt env) μ μ' s s' → Rel X ρ μ' env σ3 s'.heap → VR s'.heap (okOf ρ μ') μ' ov x → OptR s'.heap (okOf ρ μ') μ' a vl → OptR s'.heap (okOf ρ μ') μ' b vu →
      wpAny (model X.prog X.w) A (PyProof.Rows.subscriptTail o (.Slice lo hi none p) x (.ref s'.heap.objs.size)) Q (fun _ _ => False) { s' with heap := s'.heap.push { cls := .type "slice", data := .fields #[vl, vu, .none] } }) :
    wpAny (model X.prog X.w) A (eval (.Subscript o (.Slice lo hi none p) pos) env) Q (fun _ _ => False) s := by
  refine PyProof.Rows.Subscript_ ?_
  refine wpAny_mono (ho A ρ μ σ s ga R ov σ1 e1) (fun x s1 z => ?_) fun _ _ z => z
  first | refine post_elim z fun μ1 st1 R1 v1 => ?_ | obtain ⟨μ1, st1, R1, v1⟩ := z
  refine wpAny_Slice ?_
  refine wpAny_mono (Tr_part hl A ρ μ1 σ1 s1 ga R1 a σ2 e2) (fun vl s2 z => ?_) fun _ _ z => z
  first | refine post_elim z fun μ2 st2 R2 v2 => ?_ | obtain ⟨μ2, st2, R2, v2⟩ := z
  refine wpAny_mono (Tr_part hh A ρ μ2 σ2 s2 ga R2 b σ3 e3) (fun vu s3 z => ?_) fun _ _ z => z
  first | refine post_elim z fun μ3 st3 R3 v3 => ?_ | obtain ⟨μ3, st3, R3, v3⟩ := z
  refine wpAny_pure ?_
  exact k μ3 s3 x vl vu ((st1.trans st2).trans st3) R3 (VR.step R2 st3 (VR.step R1 st2 v1)) (OptR.step R2 st3 v2) v3

theorem Fl_cut {value : Expr} {lo hi : Option Expr} {p : Pos} (R : Rel X ρ μ env σ s.heap) {x vl vu : Value} {ds : List PyData} {a b : Option Int} (hx : LR s.heap (okOf ρ μ) (.list ds) x) (pl : IsPart vl a) (pu : IsPart vu b) (hsz : ds.length ≤ big) :
    wpAny (model X.prog X.w) A (PyProof.Rows.subscriptTail value (.Slice lo hi none p) x (.ref s.heap.objs.size)) (FreshL X ρ μ env s ((ds.take (hiN b ds.length)).drop (loN a ds.length)) σ) (fun _ _ => False) { s with heap := s.heap.push { cls := .type "slice", data := .fields #[vl, vu, .none] } } := by
  obtain ⟨l, vs, rfl, hL, hds⟩ := list_of_LR hx
  have ln := hds.length
  rw [Array.length_toList] at ln
  have k1 : ∀ b o, s.heap.get? b = some o → (s.heap.push { cls := .type "slice", data := .fields #[vl, vu, .none] }).get? b = some o := fun b o e => Heap.get?_push_of_some _ e
  have hL' : (s.heap.push { cls := .type "slice", data := .fields #[vl, vu, .none] }).IsList l vs := hL.at fun o e => k1 _ _ e
  refine PyProof.Rows.tail_any (Heap.IsList.typeIs (s := { s with heap := s.heap.push { cls := .type "slice", data := .fields #[vl, vu, .none] } }) hL') slot_list_getitem.lookup ?_ (subscripted_slice lo hi p _ _)
  refine wpAny_getItem_list_slice hL' (Heap.IsSliceOf.new ..) pl pu .none (by simp) ?_ (by rw [ln]; exact Nat.le_trans hsz big_le)
  refine FreshL.trans (.grow (tk := s.toks) k1) (FreshL.push (R.ext k1) ?_)
  rw [slicePick_cut, ln]
  exact DRs.drop _ (DRs.take _ (DRs.mono (fun a o ok e => ⟨k1 _ _ e, ok⟩) hds))


theorem sliceS_some {o : V} {a b : Option V} {r : V} {σ σ' : St} (e : sliceS o a b σ = some (r, σ')) : ∃ d x y d', readD o σ = some (d, σ) ∧ boundS a = some x ∧ boundS b = some y ∧ cutD x y d = some d' ∧ r = .dat d' ∧ σ' = σ := by
  unfold sliceS at e
  refine mbind_elim e fun d σ1 e1 q => ?_
  have h1 := readD_state e1; subst h1
  refine mbind_elim q fun x σ2 e2 q2 => ?_
  obtain ⟨e2', h2⟩ := mopt_some e2; subst h2
  refine mbind_elim q2 fun y σ3 e3 q3 => ?_
  obtain ⟨e3', h3⟩ := mopt_some e3; subst h3
  refine mbind_elim q3 fun d' σ4 e4 q4 => ?_
  obtain ⟨e4', h4⟩ := mopt_some e4; subst h4
  cases q4
  exact ⟨d, x, y, d', e1, e2', e3', e4', rfl, rfl⟩

theorem asc_cut {x : Str} {a b : Nat} (h : asc x = true) : asc ⟨((x.cps.toList.take b).drop a).toArray⟩ = true := by
  unfold asc at h ⊢
  rw [List.all_eq_true] at h ⊢
  intro c hc
  exact h c (List.mem_of_mem_take (List.mem_of_mem_drop (by simpa using hc)))

theorem Ev_Slice {o : Expr} {lo hi : Option Expr} {p pos : Pos} {mo : M V} {ml mh : Option (M V)} (ho : Ev X n env o mo) (hl : EvO X n env lo ml) (hh : EvO X n env hi mh) :
    Ev X n env (.Subscript o (.Slice lo hi none p) pos) (do let ov ← mo; let a ← optS ml; let b ← optS mh; sliceS ov a b) := by
  intro A ρ μ σ s ga R v σ' e
  refine mbind_elim e fun ov σ1 e1 q => ?_
  refine mbind_elim q fun a σ2 e2 q2 => ?_
  refine mbind_elim q2 fun b σ3 e3 q3 => ?_
  obtain ⟨d, x, y, d', r1, r2, r3, r4, rfl, rfl⟩ := sliceS_some q3
  refine W_slice ho hl hh ga R e1 e2 e3 fun μ' s' z vl vu st R' v1 v2 v3 => ?_
  have l1 := (readD_ok R' v1 r1).2
  have p1 := part_of v2 r2
  have p2 := part_of v3 r3
  unfold cutD at r4
  split at r4
  · split at r4
    · rename_i hb
      cases r4
      exact wpAny_mono (Fl_cut R' l1 p1 p2 hb) (fun _ _ f => (f.trans st).dat) fun _ _ z => z
    · cases r4
  · split at r4
    · rename_i w hb
      cases r4
      simp only [LR, DR] at l1
      obtain ⟨ha, t, rfl⟩ := l1
      obtain ⟨l, rfl, rfl⟩ := part_val p1
      obtain ⟨u, rfl, rfl⟩ := part_val p2
      have k1 : ∀ b o, s'.heap.get? b = some o → (s'.heap.push { cls := .type "slice", data := .fields #[partValue l, partValue u, .none] }).get? b = some o := fun b o e => Heap.get?_push_of_some _ e
      refine PyProof.Rows.tail_any (typeIs_str _ w t) PyProof.Rows.slot_str_getitem.lookup ?_ (subscripted_slice lo hi p _ _)
      refine wpAny_getItem_str_slice (l := l) (u := u) (st := none) ⟨_, Heap.get?_push_size _ rfl, rfl, rfl⟩ rfl (post_val_or_str ⟨Nat.le_trans (Txt.slice_le w _ _) (Nat.le_trans hb big_le), fun t' k => ?_⟩)
      have hd : ∀ h ok, DR h ok (.str ⟨((w.cps.toList.take (hiN (u.map (·.1)) w.length)).drop (loN (l.map (·.1)) w.length)).toArray⟩) (.str (Txt.slice w (l.map (·.1)) (u.map (·.1))) t') := by
        intro h ok
        rw [strSlice_cut]
        simp only [DR]
        exact ⟨asc_cut ha, _, rfl⟩
      exact ⟨μ', st.trans (.grow k1), R'.ext k1, hd s'.heap (okOf ρ μ')⟩
    · cases r4
  · cases r4

theorem Fl_Slice {o : Expr} {lo hi : Option Expr} {p pos : Pos} {mo : M V} {ml mh : Option (M V)} (ho : Ev X n env o mo) (hl : EvO X n env lo ml) (hh : EvO X n env hi mh) (ga : Ga n A) (R : Rel X ρ μ env σ s.heap)
    {ov : V} {a b : Option V} {σ1 σ2 σ3 : St} (e1 : mo σ = some (ov, σ1)) (e2 : optS ml σ1 = some (a, σ2)) (e3 : optS mh σ2 = some (b, σ3)) {d : PyData} {x y : Option Int} {ds : List PyData}
    (r1 : readD ov σ3 = some (d, σ3)) (r2 : boundS a = some x) (r3 : boundS b = some y) (r4 : cutD x y d = some (.list ds)) :
    wpAny (model X.prog X.w) A (eval (.Subscript o (.Slice lo hi none p) pos) env) (FreshL X ρ μ env s ds σ3) (fun _ _ => False) s := by
  refine W_slice ho hl hh ga R e1 e2 e3 fun μ' s' z vl vu st R' v1 v2 v3 => ?_
  have l1 := (readD_ok R' v1 r1).2
  have p1 := part_of v2 r2
  have p2 := part_of v3 r3
  unfold cutD at r4
  split at r4
  · split at r4
    · rename_i hb
      cases r4
      exact wpAny_mono (Fl_cut R' l1 p1 p2 hb) (fun _ _ f => f.trans st) fun _ _ z => z
    · cases r4
  · split at r4 <;> cases r4
  · cases r4

end
end Mine
end

section
open PySem
set_option Elab.async false
namespace Mine

/-! case -/
theorem asc_lt {x : Str} (h : asc x = true) : ∀ c ∈ x.cps.toList, 32 ≤ c ∧ c < 127 := by
  intro c hc
  unfold asc at h
  have := List.all_eq_true.mp h c hc
  unfold pc at this
  simpa using this

theorem mem_of_at {x : Str} {i c : Nat} (h : x.cps[i]? = some c) : c ∈ x.cps.toList := Array.mem_toList_iff.mpr (Array.mem_of_getElem? h)

/-! arguments -/
section
variable {X : Cx} {n : Nat} {env : Env} {P : Prm} {A : Around} {ρ : List Addr} {μ : Mu} {σ : St} {s : Shared}

inductive EvK (X : Cx) (n : Nat) (env : Env) : List Keyword → List (Str × M V) → Prop
  | nil : EvK X n env [] []
  | cons {k : Str} {e : Expr} {p : Pos} {ks : List Keyword} {m : M V} {ms : List (Str × M V)} : Ev X n env e m → EvK X n env ks ms → EvK X n env (⟨some k, e, p⟩ :: ks) ((k, m) :: ms)

theorem VRl.step {vs : List V} {xs : List Value} {μ' : Mu} {s' : Shared} (R : Rel X ρ μ env σ s.heap) (a : Step (wrt env) μ μ' s s') (h : VRl s.heap (okOf ρ μ) μ vs xs) : VRl s'.heap (okOf ρ μ') μ' vs xs :=
  h.mono (fun _ _ => root_prefix a.pre) (a.ok fun x hx => R.own x (wrt_own hx))

/-- keyword values, in their order -/
noncomputable def zipR (names : List Str) : RVt (List Value) (List (Str × V)) := fun h ok μ vs xs => VRk h ok μ vs (names.zip xs)

theorem kw_names {pos : Pos} : ∀ {ks : List Keyword} {ms : List (Str × M V)}, EvK X n env ks ms →
    (backToKw pos (keywordEach ks env)).all (·.1.isSome) = true ∧ (backToKw pos (keywordEach ks env)).filterMap (·.1) = ms.map (·.1)
  | [], _, .nil => ⟨rfl, rfl⟩
  | _ :: _, _, .cons (k := k) h hs => by
    obtain ⟨h1, h2⟩ := kw_names (pos := pos) hs
    refine ⟨?_, ?_⟩
    · show (true && _) = true
      rw [Bool.true_and]; exact h1
    · show k :: _ = k :: _
      exact congrArg (k :: ·) h2

theorem Tr_evalAll {pos : Pos} : ∀ {ks : List Keyword} {ms : List (Str × M V)}, EvK X n env ks ms → Tr X n env (zipR (ms.map (·.1))) (evalAll ((backToKw pos (keywordEach ks env)).map (·.2))) (kwS ms)
  | [], _, .nil => fun A ρ μ σ s ga R => W_pure R rfl
  | _ :: ks, _, .cons (k := k) (e := e) (m := m) (ms := ms) h hs => by
    intro A ρ μ σ s ga R
    have ih := Tr_evalAll (pos := pos) hs
    show W X A ρ μ env s _ (evalAll ((eval e env >>= fun v => standAt pos >>= fun _ => pure v) :: _)) _
    rw [evalAll]
    refine W_bind (RV₁ := VRr) ?_ fun μ₁ s₁ a σ₁ x st₁ R₁ v₁ => W_bind (W_holding (ih A ρ μ₁ σ₁ s₁ ga R₁)) fun μ₂ s₂ vs σ₂ xs st₂ R₂ v₂ => W_pure R₂ ?_
    · intro v σ' q
      exact wpAny_bind (wpAny_mono (h A ρ μ σ s ga R v σ' q) (fun y s' z => wpAny_bind (wpAny_standAt (wpAny_pure z))) fun _ _ z => z)
    · exact ⟨x, _, rfl, VR.step R₁ st₂ v₁, v₂⟩

/-- all arguments of a call -/
theorem W_args {f : Value} {pos : Pos} {es : List Expr} {ms : List (M V)} {ks : List Keyword} {km : List (Str × M V)} (h : EvL X n env es ms) (hst : es.all noStar = true) (hk : EvK X n env ks km) (ga : Ga n A) (R : Rel X ρ μ env σ s.heap)
    {vs : List V} {kv : List (Str × V)} {σ1 σ2 : St} (e1 : seqS ms σ = some (vs, σ1)) (e2 : kwS km σ1 = some (kv, σ2)) :
    wpAny (model X.prog X.w) A (evalArgs f true (backTo pos (starEach es env)) (backToKw pos (keywordEach ks env)))
      (fun a s' => ∃ μ', Step (wrt env) μ μ' s s' ∧ Rel X ρ μ' env σ2 s'.heap ∧ VRl s'.heap (okOf ρ μ') μ' vs a.pos ∧ VRk s'.heap (okOf ρ μ') μ' kv a.kw) (fun _ _ => False) s := by
  obtain ⟨k1, k2⟩ := kw_names (pos := pos) hk
  have fin : ∀ μ₁ s₁ xs, Step (wrt env) μ μ₁ s s₁ → Rel X ρ μ₁ env σ1 s₁.heap → VRl s₁.heap (okOf ρ μ₁) μ₁ vs xs →
      wpAny (model X.prog X.w) A (evalAll ((backToKw pos (keywordEach ks env)).map (·.2))) (fun kx s₂ => (fun a s' => ∃ μ', Step (wrt env) μ μ' s s' ∧ Rel X ρ μ' env σ2 s'.heap ∧ VRl s'.heap (okOf ρ μ') μ' vs a.pos ∧ VRk s'.heap (okOf ρ μ') μ' kv a.kw)
        (⟨xs, ((backToKw pos (keywordEach ks env)).filterMap (·.1)).zip kx⟩ : Args) s₂) (fun _ _ => False) s₁ := by
    intro μ₁ s₁ xs st₁ R₁ v₁
    refine wpAny_mono (Tr_evalAll hk A ρ μ₁ σ1 s₁ ga R₁ kv σ2 e2) (fun kx s₂ z => ?_) fun _ _ z => z
    first | refine post_elim z fun μ₂ st₂ R₂ v₂ => ?_ | obtain ⟨μ₂, st₂, R₂, v₂⟩ := z
    refine ⟨μ₂, st₁.trans st₂, R₂, VRl.step R₁ st₂ v₁, ?_⟩
    rw [k2]; exact v₂
  cases h with
  | nil =>
    cases e1
    refine evalArgs_kw_nil k1 ?_
    exact fin μ s [] (.refl _ _ _) R rfl
  | cons h hs =>
    rename_i e es m ms
    have hst' := hst
    rw [List.all_cons, Bool.and_eq_true] at hst'
    have sp := Tr_spliced (pos := pos) (EvL.cons h hs) hst A ρ μ σ s ga R vs σ1 e1
    rw [starEach_cons hst'.1] at sp ⊢
    refine evalArgs_kw k1 (wpAny_mono sp (fun xs s₁ z => ?_) fun _ _ z => z)
    first | refine post_elim z fun μ₁ st₁ R₁ v₁ => ?_ | obtain ⟨μ₁, st₁, R₁, v₁⟩ := z
    exact fin μ₁ s₁ xs st₁ R₁ v₁

end
end Mine
end

section
open PySem
set_option Elab.async false
set_option maxRecDepth 10000
namespace Mine

section
variable {X : Cx} {n : Nat} {env : Env} {P : Prm} {A : Around} {ρ : List Addr} {μ : Mu} {σ : St} {s : Shared}

theorem ext_sameBut {a : Addr} {h h' : Heap} (hs : Heap.SameBut a h h') : ∀ b ob, b ∉ [a] → h.get? b = some ob → h'.get? b = some ob := fun b ob hb e => (hs.2 b (fun q => hb (by simp [q]))).trans e

/-- an object that is a list turns into another list -/
theorem post_setList {β : Type} {RV : RVt Value β} {b : β} {x : Value} (R : Rel X ρ μ env σ s.heap) {i : Nat} {a : Addr} {ds es : List PyData} {ws : Array Value} {m : Nat} {h' : Heap} {tk : Nat} (hi : σ.heap[i]? = some (.lst ds)) (hr : root μ i = some a)
    (hs : Heap.SameBut a s.heap h') (ha : h'.get? a = some { cls := .type "list", data := .seq ws m }) (hd : DRs s.heap (okOf ρ μ) es ws.toList) (hq : RV h' (okOf ρ μ) μ b x) :
    Post X ρ μ env s RV b ⟨σ.loc, σ.heap.set i (.lst es)⟩ x { s with heap := h', toks := tk } := by
  obtain ⟨p, h2, h3⟩ := R.objs i _ hi
  obtain ⟨vs, nn, h4, h5, h6⟩ := h3
  rw [root_some h2] at hr
  cases hr
  have k := ext_sameBut hs
  have kf : ∀ b ob, b ∉ p.2 → s.heap.get? b = some ob → h'.get? b = some ob := by rw [h4]; exact k
  have hl : ∀ b ∈ p.2, ∃ ob, h'.get? b = some ob := by rw [h4]; intro b hb; simp at hb; subst hb; exact ⟨_, ha⟩
  refine ⟨μ, .setObj h2 kf hl, R.setObj h2 (fun _ q => nomatch q) kf hl ⟨ws, m, h4, ha, DRs.mono (fun c o ok e => ⟨kf c o (fun hm => ok.2 (foot_get h2 hm)) e, ok⟩) hd⟩, hq⟩

theorem root_list (R : Rel X ρ μ env σ s.heap) {i : Nat} {x : Value} {ds : List PyData} (hv : VR s.heap (okOf ρ μ) μ (.obj i) x) (hi : σ.heap[i]? = some (.lst ds)) :
    ∃ a vs m, x = .ref a ∧ root μ i = some a ∧ s.heap.get? a = some { cls := .type "list", data := .seq vs m } ∧ DRs s.heap (okOf ρ μ) ds vs.toList := by
  obtain ⟨a, h1, rfl⟩ := hv
  obtain ⟨p, h2, h3⟩ := R.objs i _ hi
  obtain ⟨vs, nn, h4, h5, h6⟩ := h3
  rw [root_some h2] at h1
  cases h1
  exact ⟨_, vs, nn, rfl, root_some h2, h5, h6⟩

noncomputable def LMok (X : Cx) (id : String) (F : List PyData → List V → Option (PyData × List PyData)) : Prop :=
  ∀ {env : Env} {A : Around} {ρ : List Addr} {μ : Mu} {σ : St} {s : Shared} {i : Nat} {a : Addr} {ws : Array Value} {m : Nat} {xs : List Value} {vs : List V} {ds es : List PyData} {d : PyData}, Rel X ρ μ env σ s.heap → VRl s.heap (okOf ρ μ) μ vs xs →
    σ.heap[i]? = some (.lst ds) → root μ i = some a → s.heap.get? a = some { cls := .type "list", data := .seq ws m } → DRs s.heap (okOf ρ μ) ds ws.toList → ws.size = ds.length → ds.length ≤ big → F ds vs = some (d, es) →
    wpAny (model X.prog X.w) A (call (.builtin id) (.ref a :: xs)) (Post X ρ μ env s VRr (.dat d) ⟨σ.loc, σ.heap.set i (.lst es)⟩) (fun _ _ => False) s

theorem DR_none {h : Heap} {ok : Addr → Prop} {μ : Mu} : VRr h ok μ (.dat .none) .none := by
  show DR _ _ _ _; simp only [DR]

theorem append_ok : LMok X "list.append" appF := fun {env A ρ μ σ s i a ws m xs vs ds es d} R ha hi hr hL hds ln hb e => by
  match vs, e, ha with
  | [.dat d], e, ha =>
    cases e
    obtain ⟨y, r, rfl, h1, h2⟩ := ha
    rw [show r = [] from h2]
    refine wpAny_list_append_plain ⟨m, hL⟩ (fun h' hp hs => ?_) (by rw [ln]; exact Nat.le_trans hb big_le)
    obtain ⟨m', hp⟩ := hp
    exact post_setList R hi hr hs hp (by simpa using hds.append (DRs.one h1)) DR_none

/-! method calls -/
noncomputable def plainBase : Expr → Bool
  | .Call (.Name _ _) [] [] _ => false
  | _ => true
theorem attributeBase_plain {o : Expr} (h : plainBase o = true) (attr : Str) (whole : Sem Value) : attributeBase o attr env whole = whole := by
  unfold attributeBase
  split
  · rename_i id p pos; cases h
  · rfl

theorem star_flags {pos : Pos} : ∀ {es : List Expr}, es.all noStar = true → (backTo pos (starEach es env)).all (fun x => !x.1) = true
  | [], _ => rfl
  | e :: es, h => by
    rw [List.all_cons, Bool.and_eq_true] at h
    rw [starEach_cons h.1]
    show (true && _) = true
    rw [Bool.true_and]; exact star_flags h.2
theorem star_any {pos : Pos} : ∀ {es : List Expr}, es.all noStar = true → (backTo pos (starEach es env)).any (fun x => x.1) = false
  | [], _ => rfl
  | e :: es, h => by
    rw [List.all_cons, Bool.and_eq_true] at h
    rw [starEach_cons h.1]
    show (false || _) = false
    rw [Bool.false_or]; exact star_any h.2

noncomputable def methOk (o : Expr) (es : List Expr) (ks : List Keyword) (apos pos : Pos) : Bool :=
  plainBase o && es.all noStar && decide (es.length + ks.length < 20) && apos.endLine == pos.line

theorem form_true {pos : Pos} {es : List Expr} {ks : List Keyword} {km : List (Str × M V)} (hst : es.all noStar = true) (hk : EvK X n env ks km) (hl : es.length + ks.length < 20) :
    methodCallForm (es.length + ks.length) (backTo pos (starEach es env)) (backToKw pos (keywordEach ks env)) = true := by
  unfold methodCallForm
  rw [star_flags hst, (kw_names (pos := pos) hk).1, Bool.true_and, Bool.true_and]
  split <;> exact decide_eq_true (by omega)

/-- the step from the callee found to the call -/
theorem Meth_eval {o : Expr} {name : Str} {apos pos : Pos} {es : List Expr} {ks : List Keyword} {mo : M V} {km : List (Str × M V)} (ho : Ev X n env o mo) (hk : EvK X n env ks km) (hm : methOk o es ks apos pos = true) (ga : Ga n A) (R : Rel X ρ μ env σ s.heap)
    {ov : V} {σ1 : St} (e1 : mo σ = some (ov, σ1)) {Q : Value → Shared → Prop}
    (k : ∀ μ' s' x, Step (wrt env) μ μ' s s' → Rel X ρ μ' env σ1 s'.heap → VR s'.heap (okOf ρ μ') μ' ov x → ∀ pl, wpAny (model X.prog X.w) A (getMethod x name pl) (fun r s₁ => wpAny (model X.prog X.w) A (callWith pos r.1 r.2 (backTo pos (starEach es env)) (backToKw pos (keywordEach ks env))) Q (fun _ _ => False) s₁) (fun _ _ => False) s') :
    wpAny (model X.prog X.w) A (eval (.Call (.Attribute o name apos) es ks pos) env) Q (fun _ _ => False) s := by
  unfold methOk at hm
  simp only [Bool.and_eq_true, decide_eq_true_eq, beq_iff_eq] at hm
  obtain ⟨⟨⟨h1, h2⟩, h3⟩, h4⟩ := hm
  rw [arm_eval_Call, attributeBase_plain h1]
  refine wpAny_bind (wpAny_mono (ho A ρ μ σ s ga R ov σ1 e1) (fun x s1 z => ?_) fun _ _ z => z)
  first | refine post_elim z fun μ1 st1 R1 v1 => ?_ | obtain ⟨μ1, st1, R1, v1⟩ := z
  refine wpAny_bind (wpAny_standAt ?_)
  unfold methodCall
  rw [form_true h2 hk h3]
  refine wpAny_bind (wpAny_holding ?_)
  show wpAny _ _ (getMethod x name _) _ _ _
  refine wpAny_mono (k μ1 s1 x st1 R1 v1 _) (fun r s2 z => ?_) fun _ _ z => z
  obtain ⟨f, first⟩ := r
  have hp : methodCallPos true o env apos pos = pure pos := by
    unfold methodCallPos
    rw [if_pos (by simp [h4])]
  show wpAny _ _ (methodCallPos true o env apos pos >>= _) _ _ _
  rw [hp]
  exact wpAny_bind (wpAny_pure z)

theorem VR_str {h : Heap} {ok : Addr → Prop} {μ : Mu} {y : Str} {t : Tok} (ha : asc y = true) : VRr h ok μ (.dat (.str y)) (.str y t) := by
  show DR h ok (.str y) (.str y t)
  simp only [DR]; exact ⟨ha, _, rfl⟩

theorem lstG_some {v : V} {σ σ' : St} {u : Unit} (e : lstG v σ = some (u, σ')) : σ' = σ ∧ ∃ i ds, v = .obj i ∧ σ.heap[i]? = some (.lst ds) := by
  unfold lstG at e
  split at e
  · rename_i h
    cases e
    unfold isLst at h
    refine ⟨rfl, ?_⟩
    cases v with
    | obj i =>
      simp only at h
      split at h
      · rename_i ds q; exact ⟨i, ds, rfl, q⟩
      · cases h
    | _ => cases h
  · cases e

/-- how a list's method is found -/
noncomputable def LGok (X : Cx) (name : Str) (id : String) : Prop := ∀ {A : Around} {s : Shared} {a : Addr} {vs : Array Value} {m : Nat} {pl : Sem Bool} {Q : Value × List Value → Shared → Prop}, s.heap.get? a = some { cls := .type "list", data := .seq vs m } →
    Q (.builtin id, [.ref a]) s → wpAny (model X.prog X.w) A (getMethod (.ref a) name pl) Q (fun _ _ => False) s
theorem append_get : LGok X (Str.ofString "append") "list.append" := fun hL h => getMethod_builtin ⟨_, hL, rfl⟩ F.plainAttrs_list PySem.F.slot_list_append PySem.F.type_list_append (fun b e => by cases e; exact ⟨_, hL, rfl⟩) h
theorem Ev_LstM {name : Str} {id : String} {F : List PyData → List V → Option (PyData × List PyData)} (hG : LGok X name id) (hF : LMok X id F) {o : Expr} {apos pos : Pos} {es : List Expr} {mo : M V} {ms : List (M V)} (ho : Ev X n env o mo) (he : EvL X n env es ms) (hm : methOk o es [] apos pos = true) :
    Ev X n env (.Call (.Attribute o name apos) es [] pos) (do let ov ← mo; lstG ov; let vs ← seqS ms; lstF F ov vs) := by
  intro A ρ μ σ s ga R v σ' e
  refine mbind_elim e fun ov σ1 e1 q => ?_
  refine mbind_elim q fun kd σ2 e2 q2 => ?_
  obtain ⟨h2, i, ds, hov, hi⟩ := lstG_some e2
  subst h2 hov
  refine mbind_elim q2 fun vs σ3 e3 q3 => ?_
  have hst : es.all noStar = true := by
    unfold methOk at hm; simp only [Bool.and_eq_true] at hm; exact hm.1.1.2
  refine Meth_eval ho (.nil (n := n)) hm ga R e1 fun μ1 s1 x st1 R1 v1 pl => ?_
  obtain ⟨a, ws, m, rfl, hr, hL, hds⟩ := root_list R1 v1 hi
  refine hG hL ?_
  refine Calls.callWith_builtin (star_any hst) ?_
  refine wpAny_mono (W_args (ks := []) he hst (.nil (n := n)) ga R1 e3 rfl) (fun ar s2 z => ?_) fun _ _ z => z
  refine wrap fun G kG => ?_
  obtain ⟨μ2, st2, R2, v2, k2⟩ := z
  simp only [lstF] at q3
  cases hi2 : σ3.heap[i]? with
  | none => rw [hi2] at q3; cases q3
  | some ob =>
    rw [hi2] at q3
    cases ob with
    | lst ds2 =>
      simp only at q3
      by_cases hb : ds2.length ≤ big
      · rw [if_pos hb] at q3
        obtain ⟨r, e5, q5⟩ := Option.map_eq_some_iff.mp q3
        obtain ⟨a', ws', m', ha', hr', hL', hds'⟩ := root_list R2 (VR.step R1 st2 v1) hi2
        have ln := hds'.length
        rw [Array.length_toList] at ln
        refine kG ?_
        clear kG
        cases q5
        rw [show ar.kw = [] from k2, ha']
        exact wpAny_mono (hF R2 v2 hi2 hr' hL' hds' ln hb e5) (fun _ _ z => post_elim z fun μ3 st3 R3 v3 => ⟨μ3, (st1.trans st2).trans st3, R3, v3⟩) fun _ _ z => z
      · rw [if_neg hb] at q3; cases q3
    | _ => cases q3

theorem shadow_no {name : Str} {od : Obj} (hn : name ≠ hdrKey) (h : od = W.emptyDict ∨ ∃ t k al, od = instDict X.w.params t k al) : W.shadowIn (some od) name = some false := by
  rcases h with rfl | ⟨t, k, al, rfl⟩
  · rfl
  · unfold W.shadowIn W.lookIn instDict
    have : (Value.str hdrKey t).isStr name = false := by
      unfold Value.isStr
      rw [Bool.eq_false_iff]; intro q; exact hn (beq_iff_eq.mp q).symm
    simp [this, DictEntry.refKey]

theorem instG_some {v : V} {σ σ' : St} {u : Unit} (e : instG v σ = some (u, σ')) : σ' = σ ∧ isInst v σ = true := by
  unfold instG at e
  split at e
  · rename_i h
    cases e
    exact ⟨rfl, h⟩
  · cases e

theorem Ev_InstM (ok : CxOk X) (pok : PrmOk X n P) {o : Expr} {name : Str} {apos pos : Pos} {es : List Expr} {ks : List Keyword} {mo : M V} {ms : List (M V)} {km : List (Str × M V)} (ho : Ev X (n + 1) env o mo) (he : EvL X (n + 1) env es ms) (hk : EvK X (n + 1) env ks km) (hm : methOk o es ks apos pos = true) :
    Ev X (n + 1) env (.Call (.Attribute o name apos) es ks pos) (do let ov ← mo; instG ov; let vs ← seqS ms; let kv ← kwS km; P.mt name ov vs kv) := by
  intro A ρ μ σ s ga R v σ' e
  refine mbind_elim e fun ov σ1 e1 q => ?_
  refine mbind_elim q fun kd σ2 e2 q2 => ?_
  obtain ⟨h2, hin⟩ := instG_some e2
  obtain ⟨i, l, hov, hi⟩ := isInst_obj hin
  subst h2 hov
  refine mbind_elim q2 fun vs σ3 e3 q3 => ?_
  refine mbind_elim q3 fun kv σ4 e4 q4 => ?_
  have hst : es.all noStar = true := by
    unfold methOk at hm; simp only [Bool.and_eq_true] at hm; exact hm.1.1.2
  refine Meth_eval ho hk hm ga R e1 fun μ1 s1 x st1 R1 v1 pl => ?_
  refine wrap fun G kG => ?_
  obtain ⟨a, d, od, hx, hr, I, hd, hod⟩ := inst_at R1 v1 hi
  cases hmt : mth X name with
  | none => rw [pok.mtNo _ hmt] at q4; cases q4
  | some f =>
    obtain ⟨hf, hfn, hfi⟩ := mth_find hmt
    have hne : name ≠ hdrKey := fun hh => by rw [hh, pok.mtHdr] at q4; cases q4
    have hsh : W.shadowIn (some od) name = some false := shadow_no (X := X) hne (by
      cases l with
      | none => exact .inl hod
      | some k => obtain ⟨al, t, m, _, h⟩ := hod; exact .inr ⟨t, m, al, h⟩)
    obtain ⟨cls, dd, fd, sl, hK⟩ : ∃ cls dd fd sl, X.K.lookup f = some ⟨cls, dd, .func fd, sl⟩ := by
      unfold W.fnIn at hfi
      split at hfi
      · rename_i h; exact ⟨_, _, _, _, h⟩
      · cases hfi
    rw [hx] at kG v1
    refine kG (W.method_fn (R1.kin ok) I ok.ga ok.noga hf (beq_iff_eq.mp hfn) hsh ?_)
    clear kG
    refine callWith_function_kw (o := ⟨cls, dd, .func fd, sl⟩) (fd := fd) ?_
    refine wpAny_mono (W_args he hst hk ga R1 e3 e4) (fun ar s2 z => ?_) fun _ _ z => z
    obtain ⟨μ2, st2, R2, v2, k2⟩ := z
    refine ⟨⟨(R2.kin ok) _ _ hK, rfl⟩, ?_⟩
    exact wpAny_mono (pok.mt name f hmt env A ρ μ2 σ4 s2 (.obj i) (.ref a) vs ar.pos kv ar.kw (ga.less (Nat.le_succ _)) R2 (VR.step R1 st2 v1) v2 k2 v σ' q4) (fun _ _ z => post_elim z fun μ3 st3 R3 v3 => ⟨μ3, (st1.trans st2).trans st3, R3, v3⟩) fun _ _ z => z

end
end Mine
end

section
open PySem
set_option Elab.async false
set_option maxRecDepth 10000
namespace Mine

section
variable {X : Cx} {n : Nat} {env : Env} {P : Prm} {A : Around} {ρ : List Addr} {μ : Mu} {σ : St} {s : Shared}

noncomputable def gval (X : Cx) (f : Str) : Option Value := match X.mg f with
  | some v => some v
  | none => X.mb f

theorem glob_load (ok : CxOk X) (R : Rel X ρ μ env σ s.heap) {f : Str} {v : Value} {Q : Value → Shared → Prop} (hv : gval X f = some v) (h : Q v s) :
    wpAny (model X.prog X.w) A (loadGlobal env f) Q (fun _ _ => False) s := by
  obtain ⟨m, cm, F, _⟩ := R.frame
  have hg : s.heap.Ns env.globals X.mg := by rw [F.globals]; exact ok.g.keeps R.base
  have hb : s.heap.Ns env.builtins X.mb := by rw [F.builtins]; exact ok.b.keeps R.base
  unfold gval at hv
  cases e : X.mg f with
  | some w => rw [e] at hv; cases hv; exact Calls.loadGlobal_global hg e h
  | none => rw [e] at hv; exact Calls.loadGlobal_builtin hg e hb hv h

noncomputable def gKind (env : Env) (f : Str) : Bool := env.kindOf f == some .globalImplicit && f != dbg

theorem Name_glob (ok : CxOk X) (R : Rel X ρ μ env σ s.heap) {f : Str} {p : Pos} {v : Value} {Q : Value → Shared → Prop} (hk : gKind env f = true) (hv : gval X f = some v) (h : Q v s) :
    wpAny (model X.prog X.w) A (eval (.Name f p) env) Q (fun _ _ => False) s := by
  obtain ⟨m, cm, F, _⟩ := R.frame
  unfold gKind at hk
  simp only [Bool.and_eq_true, beq_iff_eq, bne_iff_ne, ne_eq] at hk
  exact Calls.Name_function_global F.kind hk.1 (glob_load ok R hv h) (dbg_false hk.2)

theorem blt_val (ok : CxOk X) {f : Str} {v : Value} (hf : f ∈ bltNames) (hn : f ≠ ("__name__" : Str)) (hb : bootBuiltins f = some v) : gval X f = some v := by
  unfold gval
  rw [ok.noG f hf]
  exact (ok.blt f hn).trans hb

theorem val_len (ok : CxOk X) : gval X (Str.ofString "len") = some (.builtin "len") := blt_val ok (by unfold bltNames; decide) (by decide) (by decide +kernel)
theorem val_str (ok : CxOk X) : gval X (Str.ofString "str") = some (.type "str") := blt_val ok (by unfold bltNames; decide) (by decide) (by decide +kernel)
theorem val_list (ok : CxOk X) : gval X (Str.ofString "list") = some (.type "list") := blt_val ok (by unfold bltNames; decide) (by decide) (by decide +kernel)
theorem val_type (ok : CxOk X) : gval X (Str.ofString "type") = some (.type "type") := blt_val ok (by unfold bltNames; decide) (by decide) (by decide +kernel)

/-- a call by a global name -/
theorem Call_name (ok : CxOk X) {f : Str} {p pos : Pos} {es : List Expr} {Q : Value → Shared → Prop} (R : Rel X ρ μ env σ s.heap) {v : Value} (hk : gKind env f = true) (hv : gval X f = some v)
    (h : wpAny (model X.prog X.w) A (callWith pos v [] (backTo pos (starEach es env)) []) Q (fun _ _ => False) s) :
    wpAny (model X.prog X.w) A (eval (.Call (.Name f p) es [] pos) env) Q (fun _ _ => False) s := by
  show wpAny _ _ (eval (.Name f p) env >>= fun v => callWith pos v [] (backTo pos (starEach es env)) (backToKw pos (keywordEach [] env))) _ _ _
  exact wpAny_bind (Name_glob ok R hk hv h)

theorem VR_int {h : Heap} {ok : Addr → Prop} {μ : Mu} {i : Int} {t : Tok} : VRr h ok μ (.dat (.int i)) (.int i t) := by
  show DR h ok (.int i) (.int i t)
  simp only [DR]; exact ⟨_, rfl⟩

theorem mguard_some {b : Bool} {u : Unit} {σ σ' : St} (e : mguard b σ = some (u, σ')) : b = true ∧ σ' = σ := by
  unfold mguard at e
  split at e
  · rename_i h; cases e; exact ⟨h, rfl⟩
  · cases e

/-- len -/
theorem W_lenS (ok : CxOk X) (pok : PrmOk X n P) (ga : Ga (n + 1) A) {v : V} {x : Value} (R : Rel X ρ μ env σ s.heap) (hv : VR s.heap (okOf ρ μ) μ v x) : W X A ρ μ env s VRr (call (.builtin "len") [x]) (lenS P v σ) := by
  intro r σ' e
  unfold lenS at e
  split at e
  · rename_i hin
    obtain ⟨j, l, rfl, hj⟩ := isInst_obj hin
    obtain ⟨a', d, od, rfl, hr, I, hd, _⟩ := inst_at R hv hj
    refine mbind_elim e fun rv σ1 e1 q => ?_
    cases hm : mth X (Str.ofString "__len__") with
    | none => rw [pok.mtNo _ hm] at e1; cases e1
    | some f =>
      obtain ⟨hf, hfn, hfi⟩ := mth_find hm
      obtain ⟨m, F⟩ := R.fr
      refine W.len_K F ok.kin I hf hfn ?_
      refine wpAny_mono (pok.mt _ f hm env A.in1 ρ μ σ s (.obj j) (.ref a') [] [] [] [] ga.in1 R hv rfl rfl rv σ1 e1) (fun y s1 z => ?_) fun _ _ z => z
      first | refine post_elim z fun μ1 st1 R1 v1 => ?_ | obtain ⟨μ1, st1, R1, v1⟩ := z
      split at q
      · rename_i k
        split at q
        · rename_i hk
          cases q
          have v1' : DR _ _ _ _ := v1
          simp only [DR] at v1'
          obtain ⟨t, rfl⟩ := v1'
          refine ⟨⟨hk.1, by have := hk.2; unfold big at this; omega⟩, ?_⟩
          exact ⟨μ1, st1.trans (.grow (h' := s1.heap) fun _ _ e => e), R1, VR_int⟩
        · cases q
      · cases q
  · refine mbind_elim e fun d1 σ1 e1 q => ?_
    have h1 := readD_state e1; subst h1
    refine mbind_elim q fun m σ2 e2 q2 => ?_
    obtain ⟨e2', h2⟩ := mopt_some e2; subst h2
    refine mbind_elim q2 fun u σ3 e3 q3 => ?_
    obtain ⟨hb, h3⟩ := mguard_some e3; subst h3
    cases q3
    have l1 := (readD_ok R hv e1).2
    have hb' := of_decide_eq_true hb
    unfold big at hb'
    unfold lenD at e2'
    split at e2'
    · cases e2'
      simp only [LR, DR] at l1
      obtain ⟨ha, t, rfl⟩ := l1
      exact PyProof.Rows.len_str (by omega) (post_tok R _ VR_int)
    · cases e2'
      obtain ⟨a, vs, rfl, hL, hds⟩ := list_of_LR l1
      have ln := hds.length
      rw [Array.length_toList] at ln
      refine PyProof.Rows.len_list hL (by omega) ?_
      rw [ln]
      exact post_tok R _ VR_int
    · cases e2'
      simp only [LR, DR] at l1
      obtain ⟨a, ob, vs, nn, rfl, _, g1, g2, g3, hds⟩ := l1
      have ln := hds.length
      rw [Array.length_toList] at ln
      refine PyProof.Rows.len_tuple ⟨ob, g1, g2, nn, g3⟩ (by omega) ?_
      rw [ln]
      exact post_tok R _ VR_int
    · cases e2'

theorem asc_strI (i : Int) : asc (strI i) = true := by
  unfold asc strI
  rw [Str.ofString_eq_toList, List.all_eq_true]
  intro c hc
  obtain ⟨ch, h1, rfl⟩ := List.mem_map.mp hc
  unfold pc
  simp only [Bool.and_eq_true, decide_eq_true_eq]
  rcases PyProof.Rows.int_sign i ch h1 with h | h
  · have := PyProof.Rows.digit_range h
    omega
  · subst h; decide

theorem log2_small {i : Int} (h : i.natAbs < 10 ^ 100) : i.natAbs.log2 < 1920 := by
  have : (10 : Nat) ^ 100 < 2 ^ 1920 := by decide +kernel
  by_cases h0 : i.natAbs = 0
  · rw [h0]; decide
  · exact (Nat.log2_lt h0).mpr (by omega)

theorem W_lenB (ok : CxOk X) (pok : PrmOk X n P) (ga : Ga (n + 1) A) (R : Rel X ρ μ env σ s.heap) {vs : List V} {xs : List Value} (hv : VRl s.heap (okOf ρ μ) μ vs xs) : W X A ρ μ env s VRr (call (.builtin "len") xs []) (lenB P vs σ) := by
  match vs, hv with
  | [v], hv =>
    obtain ⟨x, r, h1, h2, h3⟩ := hv
    rw [h1, show r = [] from h3]
    exact W_lenS ok pok ga R h2
  | [], _ => exact W_fail
  | _ :: _ :: _, _ => exact W_fail
theorem W_strB (R : Rel X ρ μ env σ s.heap) {vs : List V} {xs : List Value} (hv : VRl s.heap (okOf ρ μ) μ vs xs) : W X A ρ μ env s VRr (call (.type "str") xs []) (strB vs σ) := by
  intro v σ' q
  unfold strB at q
  split at q
  · rename_i i
    split at q
    · rename_i hi
      cases q
      obtain ⟨x, r, h1, h2, h3⟩ := hv
      rw [h1, show r = [] from h3]
      have h2' : DR _ _ _ _ := h2
      simp only [DR] at h2'
      obtain ⟨t, rfl⟩ := h2'
      exact PySem.P.str_of_int (log2_small hi) (post_tok R _ (VR_str (asc_strI i)))
    · cases q
  · cases q
theorem post_up {α β : Type} {RV : RVt α β} {b : β} {σ' : St} {μ2 : Mu} {s2 s3 : Shared} {y : α} (st : Step (wrt env) μ μ2 s s2) (z : Post X ρ μ2 env s2 RV b σ' y s3) : Post X ρ μ env s RV b σ' y s3 :=
  post_elim z fun μ3 st3 R3 v3 => ⟨μ3, st.trans st3, R3, v3⟩

/-- a call of a built-in function by its name -/
theorem Ev_BltB (ok : CxOk X) {f : Str} {b : String} {F : List V → M V} {p pos : Pos} {es : List Expr} {ms : List (M V)} (hv : gval X f = some (.builtin b)) (he : EvL X (n + 1) env es ms) (hst : es.all noStar = true) (hk : gKind env f = true)
    (hF : ∀ {A ρ μ σ s vs xs}, Ga (n + 1) A → Rel X ρ μ env σ s.heap → VRl s.heap (okOf ρ μ) μ vs xs → W X A ρ μ env s VRr (call (.builtin b) xs []) (F vs σ)) :
    Ev X (n + 1) env (.Call (.Name f p) es [] pos) (do let vs ← seqS ms; F vs) := by
  intro A ρ μ σ s ga R v σ' e
  refine mbind_elim e fun vs σ1 e1 q => ?_
  refine Call_name ok R hk hv (Calls.callWith_builtin (star_any hst) (wpAny_mono (W_args (ks := []) he hst .nil ga R e1 rfl) (fun ar s2 z => ?_) fun _ _ z => z))
  obtain ⟨μ2, st2, R2, v2, k2⟩ := z
  rw [show ar.kw = [] from k2, List.nil_append]
  exact wpAny_mono (hF ga R2 v2 v σ' q) (fun _ _ z => post_up st2 z) fun _ _ z => z
/-- a call of a type by its name -/
theorem Ev_BltT (ok : CxOk X) {f : Str} {b : String} {F : List V → M V} {p pos : Pos} {es : List Expr} {ms : List (M V)} (hv : gval X f = some (.type b)) (he : EvL X (n + 1) env es ms) (hst : es.all noStar = true) (hk : gKind env f = true)
    (hF : ∀ {A ρ μ σ s vs xs}, Ga (n + 1) A → Rel X ρ μ env σ s.heap → VRl s.heap (okOf ρ μ) μ vs xs → W X A ρ μ env s VRr (call (.type b) xs []) (F vs σ)) :
    Ev X (n + 1) env (.Call (.Name f p) es [] pos) (do let vs ← seqS ms; F vs) := by
  intro A ρ μ σ s ga R v σ' e
  refine mbind_elim e fun vs σ1 e1 q => ?_
  refine Call_name ok R hk hv (PyProof.Rows.callWith_type (star_any hst) (wpAny_mono (W_args (ks := []) he hst .nil ga R e1 rfl) (fun ar s2 z => ?_) fun _ _ z => z))
  obtain ⟨μ2, st2, R2, v2, k2⟩ := z
  rw [show ar.kw = [] from k2, List.nil_append]
  exact wpAny_mono (hF ga R2 v2 v σ' q) (fun _ _ z => post_up st2 z) fun _ _ z => z
/-- a call of a def of the top -/
theorem Ev_Fn (ok : CxOk X) (pok : PrmOk X n P) {f : Str} {p pos : Pos} {es : List Expr} {ms : List (M V)} (he : EvL X (n + 1) env es ms) (hst : es.all noStar = true) (hk : gKind env f = true) :
    Ev X (n + 1) env (.Call (.Name f p) es [] pos) (do let vs ← seqS ms; P.fn f vs) := by
  intro A ρ μ σ s ga R v σ' e
  refine mbind_elim e fun vs σ1 e1 q => ?_
  obtain ⟨a, o, fd, hg, ho, hd, hfn⟩ := pok.fn f vs σ1 (v, σ') q
  have hv : gval X f = some (.ref a) := by unfold gval; rw [hg]
  refine Call_name ok R hk hv (Calls.callWith_function (o := o) (fd := fd) (wpAny_mono (W_args (ks := []) he hst .nil ga R e1 rfl) (fun ar s2 z => ?_) fun _ _ z => z))
  obtain ⟨μ2, st2, R2, v2, k2⟩ := z
  rw [show ar.kw = [] from k2, List.nil_append]
  exact ⟨⟨R2.base _ _ ho, hd⟩, wpAny_mono (hfn env A ρ μ2 s2 ar.pos (ga.less (Nat.le_succ _)) R2 v2 v σ' q) (fun _ _ z => post_up st2 z) fun _ _ z => z⟩

end
end Mine
end

section
open PySem
set_option Elab.async false
set_option maxRecDepth 10000
namespace Mine

section
variable {X : Cx} {n : Nat} {env : Env} {P : Prm} {A : Around} {ρ : List Addr} {μ : Mu} {σ : St} {s : Shared}

theorem DRs.of_items {h : Heap} {ok : Addr → Prop} : ∀ {ds : List PyData} {vs : List Value}, vs.length = ds.length → (∀ (j : Nat) d v, ds[j]? = some d → vs[j]? = some v → DR h ok d v) → DRs h ok ds vs
  | [], vs, hl, _ => by simp only [DRs]; exact List.eq_nil_of_length_eq_zero hl
  | d :: ds, [], hl, _ => by simp at hl
  | d :: ds, v :: vs, hl, k => by
    simp only [DRs]
    exact ⟨v, vs, rfl, k 0 d v rfl rfl, DRs.of_items (by simpa using hl) fun j d' v' h1 h2 => k (j + 1) d' v' (by simpa using h1) (by simpa using h2)⟩

theorem intsD_length (lo hi : Int) : (intsD lo hi).length = (hi - lo).toNat := by simp [intsD]
theorem intsD_get {lo hi : Int} {j : Nat} {d : PyData} (h : (intsD lo hi)[j]? = some d) : d = .int (lo + j) := by
  unfold intsD at h
  rw [List.getElem?_map] at h
  obtain ⟨k, h1, rfl⟩ := Option.map_eq_some_iff.mp h
  obtain ⟨h2, h3⟩ := List.getElem?_eq_some_iff.mp h1
  rw [List.getElem_range] at h3
  subst h3; rfl

theorem rangeSize_eq (lo hi : Int) : Builtin.Range.rangeSize lo hi 1 = ((hi - lo).toNat : Int) := by
  unfold Builtin.Range.rangeSize
  simp only [show (1 : Int) > 0 by decide, if_true, Int.ediv_one]
  split <;> omega

theorem small_range {lo hi : Int} (h : smallR lo hi = true) : Builtin.Range.small lo hi 1 = true ∧ (hi - lo).toNat ≤ big := by
  unfold smallR at h
  have h := of_decide_eq_true h
  refine ⟨?_, h.2.2⟩
  obtain ⟨h1, h2, h3⟩ := h
  unfold Builtin.Range.small
  rw [rangeSize_eq]
  unfold big at h3
  simp only [Builtin.Range.rangeFitsLong, Bool.and_eq_true, Bool.or_eq_true, decide_eq_true_eq, show (1 : Int) > 0 by decide, if_true]
  omega

/-- list(x) -/
theorem Fl_list {v : V} {x : Value} {ds : List PyData} {σ' : St} {k : Nat} (ga : Ga k A) (R : Rel X ρ μ env σ s.heap) (hv : VR s.heap (okOf ρ μ) μ v x) (e : listOfS v σ = some (ds, σ')) :
    wpAny (model X.prog X.w) A (call (.type "list") [x]) (FreshL X ρ μ env s ds σ') (fun _ _ => False) s := by
  unfold listOfS at e
  split at e
  · rename_i lo hi
    split at e
    · rename_i hb
      cases e
      obtain ⟨r, t, u, w, rfl, _, hr⟩ := hv
      obtain ⟨h1, h2⟩ := small_range hb.1
      refine call_list_range ga.handled hr h1 (rangeSize_eq lo hi) (by unfold big at h2; omega) fun h' tk acc c hk hS hi' => ?_
      refine FreshL.of R (fresh_size _) hk hS (DRs.of_items (by rw [intsD_length, Array.length_toList]; exact hi'.1) fun j d w h3 h4 => ?_)
      obtain ⟨t', rfl⟩ := hi'.2 j w (by rw [← Array.getElem?_toList]; exact h4)
      rw [intsD_get h3]
      simp only [DR]
      exact ⟨t', by simp⟩
    · cases e
  · refine mbind_elim e fun d σ1 e1 q => ?_
    have h1 := readD_state e1; subst h1
    refine mbind_elim q fun es σ2 e2 q2 => ?_
    obtain ⟨e2', h2⟩ := mopt_some e2; subst h2
    refine mbind_elim q2 fun u σ3 e3 q3 => ?_
    obtain ⟨hb, h3⟩ := mguard_some e3; subst h3
    cases q3
    have hb' := of_decide_eq_true hb
    have l1 := (readD_ok R hv e1).2
    unfold itemsD at e2'
    split at e2'
    · cases e2'
      obtain ⟨a, vs, rfl, ⟨o, h2, h3, nn, h4⟩, hds⟩ := list_of_LR l1
      have ln := hds.length
      rw [Array.length_toList] at ln
      exact call_list_seq a (.inl rfl) h2 h3 h4 (fun h' c' hk hS => FreshL.of R (tk := s.toks) (fresh_size _) hk hS hds) (by rw [ln]; exact Nat.le_trans hb' big_le)
    · cases e2'
      simp only [LR, DR] at l1
      obtain ⟨a, o, vs, nn, rfl, _, h2, h3, h4, hds⟩ := l1
      have ln := hds.length
      rw [Array.length_toList] at ln
      exact call_list_seq a (.inr rfl) h2 h3 h4 (fun h' c' hk hS => FreshL.of R (tk := s.toks) (fresh_size _) hk hS hds) (by rw [ln]; exact Nat.le_trans hb' big_le)
    · cases e2'
      rename_i w
      simp only [LR, DR] at l1
      obtain ⟨ha, t, rfl⟩ := l1
      have hl : w.cps.size ≤ big := by simpa [chars] using hb'
      refine call_list_str ga.handled w t (fun h' tk acc c hk hS hi' => ?_) (Nat.le_trans hl big_le)
      refine FreshL.of R (fresh_size _) hk hS (DRs.of_items (by rw [Array.length_toList, hi'.1]; simp [chars]) fun j d w' h3 h4 => ?_)
      obtain ⟨c', u, h5, rfl⟩ := hi'.2 j w' (by rw [← Array.getElem?_toList]; exact h4)
      unfold chars at h3
      rw [List.getElem?_map, Array.getElem?_toList, h5] at h3
      cases h3
      simp only [DR]
      refine ⟨?_, u, rfl⟩
      unfold asc at ha ⊢
      rw [List.all_eq_true] at ha
      simp only [List.all_cons, List.all_nil, Bool.and_true]
      exact ha c' (mem_of_at h5)
    · cases e2'

theorem Fl_CallList (ok : CxOk X) {p pos : Pos} {e : Expr} {m : M V} (he : Ev X n env e m) (hst : noStar e = true) (hk : gKind env (Str.ofString "list") = true) (ga : Ga n A) (R : Rel X ρ μ env σ s.heap) {v : V} {ds : List PyData} {σ1 σ' : St}
    (e1 : m σ = some (v, σ1)) (e2 : listOfS v σ1 = some (ds, σ')) : wpAny (model X.prog X.w) A (eval (.Call (.Name (Str.ofString "list") p) [e] [] pos) env) (FreshL X ρ μ env s ds σ') (fun _ _ => False) s := by
  have hst' : [e].all noStar = true := by simp [hst]
  have e1' : seqS [m] σ = some ([v], σ1) := by
    show (m >>= fun v => _) σ = _
    rw [bind_eq]; unfold mbind; rw [e1]; rfl
  refine Call_name ok R hk (val_list ok) (PyProof.Rows.callWith_type (star_any hst') (wpAny_mono (W_args (ks := []) (EvL.cons he .nil) hst' .nil ga R e1' rfl) (fun ar s2 z => ?_) fun _ _ z => z))
  obtain ⟨μ2, st2, R2, ⟨x, r, h1, h2, h3⟩, k2⟩ := z
  rw [show ar.kw = [] from k2, List.nil_append, h1, show r = [] from h3]
  exact wpAny_mono (Fl_list ga R2 h2 e2) (fun _ _ f => f.trans st2) fun _ _ z => z

/-- Headers(...) -/
theorem Ev_Make (ok : CxOk X) (pok : PrmOk X n P) {p pos : Pos} {es : List Expr} {ms : List (M V)} (he : EvL X (n + 1) env es ms) (hst : es.all noStar = true) (hk : gKind env (Str.ofString "Headers") = true) :
    Ev X (n + 1) env (.Call (.Name (Str.ofString "Headers") p) es [] pos) (do let vs ← seqS ms; P.make vs) := by
  intro A ρ μ σ s ga R r σ' q
  refine mbind_elim q fun vs σ1 e1 q1 => ?_
  have hv : gval X (Str.ofString "Headers") = some (.ref X.C) := by unfold gval; rw [pok.make.1]
  refine Call_name ok R hk hv (W.callWith_of (P := X.K.In) (by rw [star_any hst]; rfl) (W.keeps_K ok.keep) (wpAny_mono (W_args (ks := []) he hst .nil ga R e1 rfl) (fun ar s2 z => ?_) fun _ _ z => z))
  obtain ⟨μ2, st2, R2, h2, k2⟩ := z
  rw [show ar.kw = [] from k2, List.nil_append]
  refine ⟨R2.kin ok, wpAny_mono (pok.make.2 env A ρ μ2 σ1 s2 vs ar.pos (ga.less (Nat.le_succ _)) R2 h2 r σ' q1) (fun y s3 z => ?_) fun _ _ z => z⟩
  first | refine post_elim z fun μ3 st3 R3 v3 => ?_ | obtain ⟨μ3, st3, R3, v3⟩ := z
  exact ⟨μ3, st2.trans st3, R3, v3⟩

/-- type(x) is T -/
theorem W_typeN {v : V} {x : Value} {nm : Str} {σ' : St} (R : Rel X ρ μ env σ s.heap) (hv : VR s.heap (okOf ρ μ) μ v x) (e : typeN v σ = some (nm, σ')) {Q : Value → Shared → Prop} (k : ∀ T : String, nm = Str.ofString T → T ∈ ["str", "list", "int", "NoneType"] → Q (.type T) s) :
    σ' = σ ∧ wpAny (model X.prog X.w) A (call (.type "type") [x]) Q (fun _ _ => False) s := by
  cases v with
  | dat d =>
    cases d with
    | str w =>
      cases e
      simp only [VR, DR] at hv
      obtain ⟨_, t, rfl⟩ := hv
      exact ⟨rfl, call_type_of (typeIs_str s _ t) (by decide +kernel) (k "str" rfl (by decide))⟩
    | list ds =>
      cases e
      simp only [VR] at hv
      obtain ⟨a, vs, rfl, hL, _⟩ := list_of_LR (DR.lr hv)
      exact ⟨rfl, call_type_of hL.typeIs (by decide +kernel) (k "list" rfl (by decide))⟩
    | int i =>
      cases e
      simp only [VR, DR] at hv
      obtain ⟨t, rfl⟩ := hv
      exact ⟨rfl, call_type_of (typeIs_int s _ t) (by decide +kernel) (k "int" rfl (by decide))⟩
    | none =>
      cases e
      simp only [VR, DR] at hv
      subst hv
      exact ⟨rfl, call_type_of (typeIs_none s) (by decide +kernel) (k "NoneType" rfl (by decide))⟩
    | _ => cases e
  | obj i =>
    have e : (match σ.heap[i]? with | some (.lst _) => some (Str.ofString "list", σ) | some (.frz _) => some (Str.ofString "list", σ) | _ => none) = some (nm, σ') := e
    split at e
    · rename_i ds hi
      cases e
      obtain ⟨a, vs, m, rfl, _, hL, _⟩ := root_list R hv hi
      exact ⟨rfl, call_type_of ⟨_, hL, rfl⟩ (by decide +kernel) (k "list" rfl (by decide))⟩
    · rename_i ds hi
      cases e
      obtain ⟨a, h1, rfl⟩ := hv
      obtain ⟨p, h2, vs, m, _, h5, _⟩ := R.objs i _ hi
      rw [root_some h2] at h1
      cases h1
      exact ⟨rfl, call_type_of ⟨_, h5, rfl⟩ (by decide +kernel) (k "list" rfl (by decide))⟩
    · cases e
  | rng lo hi => cases e
  | emp => cases e

noncomputable def typS (op : CmpOp) (m : M V) (t : Str) : M V := do
  let v ← m
  let n ← typeN v
  match op with
  | .Is => mpure (.dat (.bool (n = t)))
  | .IsNot => mpure (.dat (.bool !(n = t)))
  | _ => mfail

noncomputable def typOk (env : Env) (e : Expr) (t : Str) : Bool := noStar e && gKind env (Str.ofString "type") && gKind env t && (t == Str.ofString "str" || t == Str.ofString "list")

theorem typ_eq {T U : String} (h1 : T ∈ ["str", "list", "int", "NoneType"]) (h2 : U = "str" ∨ U = "list") : (Value.type T == Value.type U) = decide (Str.ofString T = Str.ofString U) := by
  simp only [List.mem_cons, List.not_mem_nil, or_false] at h1
  rcases h2 with rfl | rfl <;> rcases h1 with rfl | rfl | rfl | rfl <;> decide

theorem typ_core (ok : CxOk X) {p pos tp : Pos} {op : CmpOp} {e : Expr} {t : Str} {m : M V} (he : Ev X n env e m) (hc : typOk env e t = true) (ga : Ga n A) (R : Rel X ρ μ env σ s.heap) {r : V} {σ' : St} (q : typS op m t σ = some (r, σ')) :
    wpAny (model X.prog X.w) A (eval (.Call (.Name (Str.ofString "type") p) [e] [] pos) env) (fun a s₁ => wpAny (model X.prog X.w) A (eval (.Name t tp) env) (fun b s₂ => wpAny (model X.prog X.w) A (compareOp op a b) (Post X ρ μ env s VRr r σ') (fun _ _ => False) s₂) (fun _ _ => False) s₁) (fun _ _ => False) s := by
  unfold typOk at hc
  simp only [Bool.and_eq_true, Bool.or_eq_true, beq_iff_eq] at hc
  obtain ⟨⟨⟨h1, h2⟩, h3⟩, h4⟩ := hc
  have hst' : [e].all noStar = true := by simp [h1]
  unfold typS at q
  refine mbind_elim q fun v σ1 e1 q1 => ?_
  refine mbind_elim q1 fun nm σ2 e2 q2 => ?_
  have e1' : seqS [m] σ = some ([v], σ1) := by
    show (m >>= fun v => _) σ = _
    rw [bind_eq]; unfold mbind; rw [e1]; rfl
  refine Call_name ok R h2 (val_type ok) (PyProof.Rows.callWith_type (star_any hst') (wpAny_mono (W_args (ks := []) (EvL.cons he .nil) hst' .nil ga R e1' rfl) (fun ar s2 z => ?_) fun _ _ z => z))
  obtain ⟨μ2, st2, R2, ⟨x, rr, g1, g2, g3⟩, k2⟩ := z
  rw [show ar.kw = [] from k2, List.nil_append, g1, show rr = [] from g3]
  have hs := (W_typeN (A := A) (Q := fun _ _ => True) R2 g2 e2 (fun _ _ _ => trivial)).1
  refine And.right (W_typeN (A := A) R2 g2 e2 fun T hT hm => ?_)
  have hU : ∃ U : String, (U = "str" ∨ U = "list") ∧ t = Str.ofString U ∧ gval X t = some (.type U) := by
    rcases h4 with rfl | rfl
    · exact ⟨"str", .inl rfl, rfl, val_str ok⟩
    · exact ⟨"list", .inr rfl, rfl, val_list ok⟩
  obtain ⟨U, hU1, rfl, hU2⟩ := hU
  refine Name_glob ok R2 h3 hU2 ?_
  subst hT hs
  have hb := typ_eq hm hU1
  cases op <;> first | cases q2 | skip
  · refine wpAny_is_plain rfl ?_
    rw [hb]
    exact ⟨μ2, st2, R2, by show DR _ _ _ _; simp only [DR]⟩
  · refine wpAny_isNot_plain rfl ?_
    rw [hb]
    exact ⟨μ2, st2, R2, by show DR _ _ _ _; simp only [DR]⟩

theorem Te_Typ (ok : CxOk X) {p pos tp cp : Pos} {op : CmpOp} {e : Expr} {t : Str} {m : M V} (he : Ev X n env e m) (hc : typOk env e t = true) :
    Te X n env (.Compare (.Call (.Name (Str.ofString "type") p) [e] [] pos) [op] [.Name t tp] cp) (do let v ← typS op m t; truthS v) := by
  intro A ρ μ σ s ga R r σ' q
  refine mbind_elim q fun v σ1 e1 q1 => ?_
  refine wpAny_isTrue_Compare1 (wpAny_mono (typ_core ok he hc ga R e1) (fun _ _ z => wpAny_mono z (fun _ _ z => wpAny_mono z (fun c s3 z => ?_) fun _ _ z => z) fun _ _ z => z) fun _ _ z => z) (by cases op <;> rfl)
  first | refine post_elim z fun μ3 st3 R3 v3 => ?_ | obtain ⟨μ3, st3, R3, v3⟩ := z
  refine wpAny_mono (W_truthS R3 v3 r σ' q1) (fun c s3 z => ?_) fun _ _ z => z
  first | refine post_elim z fun μ4 st4 R4 v4 => ?_ | obtain ⟨μ4, st4, R4, v4⟩ := z
  exact ⟨μ4, st3.trans st4, R4, v4⟩

/-- self._headers -/
theorem find_hdr (ok : CxOk X) {t : Tok} {k : Nat} {al : Addr} : W.findObj X.K X.C (some (instDict X.w.params t k al)) hdrKey = some (.value (.ref al)) := by
  obtain ⟨cd, h1, h2⟩ := W.any_some ok.hasD
  unfold W.findObj
  rw [h1, Option.bind_some, ok.hd, Option.bind_some]
  show (W.ownOf cd (some (instDict X.w.params t k al)) hdrKey).bind _ = _
  unfold W.ownOf
  rw [h2]
  have hl : W.lookIn hdrKey (instDict X.w.params t k al) = some (some (.ref al)) := by
    unfold W.lookIn instDict
    have : (Value.str hdrKey t).isStr hdrKey = true := by unfold Value.isStr; simp
    simp [this]
  simp only [if_true, hl]
  rfl

theorem Ev_Attr (ok : CxOk X) {x : Str} {p pos : Pos} {name : Str} : Ev X n env (.Attribute (.Name x p) name pos) (do let ov ← nameS x; attrS ov name) := by
  intro A ρ μ σ s ga R r σ' q
  refine mbind_elim q fun ov σ1 e1 q1 => ?_
  refine PyProof.Rows.Attribute_name (wpAny_mono (Ev_Name (n := n) A ρ μ σ s ga R ov σ1 e1) (fun y s1 z => ?_) fun _ _ z => z)
  first | refine post_elim z fun μ1 st1 R1 v1 => ?_ | obtain ⟨μ1, st1, R1, v1⟩ := z
  unfold attrS at q1
  split at q1
  · rename_i i
    split at q1
    · rename_i l hi
      split at q1
      · rename_i hn
        cases q1
        subst hn
        obtain ⟨a, d, od, rfl, hr, I, hd, al, t, k, h3, rfl⟩ := inst_at R1 v1 hi
        refine W.get_value (R1.kin ok) I ok.ga (find_hdr ok) rfl ?_
        exact ⟨μ1, st1.trans (.grow (h' := s1.heap) fun _ _ e => e), R1, al, h3, rfl⟩
      · cases q1
    · cases q1
  · cases q1

end
end Mine
end

section
open PySem
set_option Elab.async false
set_option maxRecDepth 10000
namespace Mine

section
variable {X : Cx} {n : Nat} {env : Env} {P : Prm} {A : Around} {ρ : List Addr} {μ : Mu} {σ : St} {s : Shared} {h h' : Heap}

/-- the frame turns -/
theorem Rel.store (R : Rel X ρ μ env σ h) {c : Addr} (hc : c ∈ Mine.own env) (hs : Heap.SameBut c h h') (hl : ∃ o, h'.get? c = some o) {loc' : Str → Option V}
    (fr : ∃ m cm, FrameR env h' m cm ∧ ∀ x v, loc' x = some v → ∃ val, valOf env m cm x = some val ∧ VR h (okOf ρ μ) μ v val) : Rel X ρ μ env ⟨loc', σ.heap⟩ h' := by
  have k : ∀ b o, b ≠ c → h.get? b = some o → h'.get? b = some o := fun b o hb e => (hs.2 b hb).trans e
  have hcr := R.own c hc
  have kok : ∀ a ob, okOf ρ μ a → h.get? a = some ob → h'.get? a = some ob ∧ okOf ρ μ a := fun a ob q e => ⟨k a ob (fun hm => q.1 (hm ▸ hcr)) e, q⟩
  refine ⟨fun b ob e => k b ob (fun hm => ?_) (R.base b ob e), R.freshR, R.freshM, fun a ha => ?_, fun a ha => ?_, R.nod, R.dis, R.own, R.above, ?_, R.len, R.inj, ?_, R.frz⟩
  · subst hm; rw [R.freshR b hcr] at e; cases e
  · by_cases hm : a = c
    · subst hm; exact hl
    · obtain ⟨ob, e⟩ := R.liveR a ha; exact ⟨ob, k a ob hm e⟩
  · obtain ⟨ob, e⟩ := R.liveM a ha
    exact ⟨ob, k a ob (fun hm => R.dis c hcr (hm ▸ ha)) e⟩
  · obtain ⟨m, cm, F, l⟩ := fr
    refine ⟨m, cm, F, fun x v e => ?_⟩
    obtain ⟨val, h1, h2⟩ := l x v e
    exact ⟨val, h1, h2.mono (fun _ _ e => e) kok⟩
  · intro j oj e
    obtain ⟨q, h1, h2⟩ := R.objs j oj e
    refine ⟨q, h1, h2.mono (fun _ _ e => e) kok fun b hb ob e' => k b ob (fun hm => ?_) e'⟩
    subst hm
    rcases List.mem_cons.mp hb with rfl | hb
    · rcases h2.root_mem with h3 | ⟨ds, rfl⟩
      · exact R.dis _ hcr (foot_get h1 h3)
      · obtain ⟨vs, n, _, h4, _⟩ := h2
        exact R.frzOff h4 hc
    · exact R.dis _ hcr (foot_get h1 hb)

noncomputable def stOk (env : Env) (x : Str) : Bool := env.kindOf x == some .local || (env.kindOf x == some .cell && (env.cells.lookup x).isSome && env.func.isSome)

theorem Step.store {c : Addr} {tk : Nat} (hc : c ∈ Mine.wrt env) (hs : Heap.SameBut c s.heap h') (hl : ∃ o, h'.get? c = some o) : Step (Mine.wrt env) μ μ s { s with heap := h', toks := tk } :=
  ⟨⟨h', tk, rfl⟩, fun b o e _ ho => (hs.2 b (fun q => ho (q ▸ hc))).trans e, fun b o e => by
    by_cases q : b = c
    · subst q; exact hl
    · exact ⟨o, (hs.2 b q).trans e⟩, List.prefix_refl _, fun _ h => .inl h⟩

theorem cell_mem {x : Str} {c : Addr} (e : env.cells.lookup x = some c) : c ∈ Mine.own env := .tail _ (List.mem_map.mpr ⟨_, mem_of_lookup e, rfl⟩)

theorem cells_ne_locals (F : FrameR env h m cm) {c : Addr} (hc : ∃ n, (n, c) ∈ env.cells) : c ≠ env.locals := by
  rintro rfl
  obtain ⟨n, hn⟩ := hc
  obtain ⟨o, es, ep, h1, h2, _⟩ := F.ns
  obtain ⟨v, o', h3, h4⟩ := F.cells n _ hn
  rw [h1] at h3; cases h3
  rw [h2] at h4; cases h4

theorem IsCell.keep {c d : Addr} {v : Option Value} (hs : Heap.SameBut c h h') (hne : d ≠ c) (e : h.IsCell d v) : h'.IsCell d v := by
  obtain ⟨o, h1, h2⟩ := e
  exact ⟨o, (hs.2 d hne).trans h1, h2⟩

theorem pair_ne {l : List (Str × Addr)} (hp : l.Pairwise fun x y => x.2 ≠ y.2) {n n' : Str} {c : Addr} (h1 : (n, c) ∈ l) (h2 : (n', c) ∈ l) : n = n' := by
  induction hp with
  | nil => cases h1
  | cons ha _ ih =>
    rcases List.mem_cons.mp h1 with e1 | g1
    · rcases List.mem_cons.mp h2 with e2 | g2
      · rw [← e1] at e2; cases e2; rfl
      · exact absurd (by rw [← e1]) (ha _ g2)
    · rcases List.mem_cons.mp h2 with e2 | g2
      · exact absurd (by rw [← e2]) (ha _ g1)
      · exact ih g1 g2

/-- a name is bound -/
theorem W_setLoc {x : Str} {v : V} {y : Value} (hk : stOk env x = true) (R : Rel X ρ μ env σ s.heap) (hv : VR s.heap (okOf ρ μ) μ v y) : W X A ρ μ env s EqR (bindName env x y) (setLoc x v σ) := by
  intro u σ' e
  cases e
  obtain ⟨m, cm, F, l⟩ := R.frame
  unfold stOk at hk
  simp only [Bool.or_eq_true, Bool.and_eq_true, beq_iff_eq] at hk
  refine wpAny_bindName ?_
  rcases hk with hk | ⟨⟨hk, hc⟩, hfn⟩
  · refine wpAny_storeName_local hk F.ns (fun h' hn hs => ?_) (by rw [F.kind]; rfl)
    have hlv : ∃ o, h'.get? env.locals = some o := by obtain ⟨o, _, _, h1, _⟩ := hn; exact ⟨o, h1⟩
    refine ⟨μ, .store (.head _) hs hlv, R.store (.head _) hs hlv ⟨_, cm, ⟨F.kind, F.globals, F.builtins, hn, fun n c e => ?_, fun n c e => ?_, F.apart⟩, fun z w e => ?_⟩, rfl⟩
    · exact IsCell.keep hs (cells_ne_locals F ⟨n, mem_of_lookup e⟩) (F.cell n c e)
    · obtain ⟨w, q⟩ := F.cells n c e; exact ⟨w, IsCell.keep hs (cells_ne_locals F ⟨n, e⟩) q⟩
    · unfold upd at e
      split at e
      · rename_i hz
        cases e
        subst hz
        refine ⟨y, ?_, hv⟩
        unfold valOf; rw [hk]; simp
      · rename_i hz
        obtain ⟨val, h1, h2⟩ := l z w e
        refine ⟨val, ?_, h2⟩
        unfold valOf at h1 ⊢
        split at h1
        · simp only [if_neg hz]; exact h1
        · exact h1
        · cases h1
  · obtain ⟨c, hc⟩ := Option.isSome_iff_exists.mp hc
    refine wpAny_storeName_cell F.kind hk hc (F.cell x c hc) fun h' hn hs => ?_
    have hcm := cell_mem hc
    have hlv : ∃ o, h'.get? c = some o := by obtain ⟨o, h1, _⟩ := hn; exact ⟨o, h1⟩
    have hcl : env.locals ≠ c := fun q => cells_ne_locals F ⟨x, mem_of_lookup hc⟩ q.symm
    refine ⟨μ, .store (by unfold wrt; rw [if_pos hfn]; exact hcm) hs hlv, R.store hcm hs hlv ⟨m, fun z => if z = x then some y else cm z, ⟨F.kind, F.globals, F.builtins, F.ns.sameBut hs hcl, fun n c' e => ?_, fun n c' e => ?_, F.apart⟩, fun z w e => ?_⟩, rfl⟩
    · by_cases hz : n = x
      · subst hz; rw [hc] at e; cases e; simp only [if_true]; exact hn
      · simp only [if_neg hz]
        refine IsCell.keep hs (fun q => ?_) (F.cell n c' e)
        subst q
        exact hz (pair_ne F.apart (mem_of_lookup e) (mem_of_lookup hc))
    · by_cases q : c' = c
      · subst q; exact ⟨_, hn⟩
      · obtain ⟨w, q'⟩ := F.cells n c' e; exact ⟨w, IsCell.keep hs q q'⟩
    · unfold upd at e
      split at e
      · rename_i hz
        cases e
        subst hz
        refine ⟨y, ?_, hv⟩
        unfold valOf; rw [hk]; simp [hc]
      · rename_i hz
        obtain ⟨val, h1, h2⟩ := l z w e
        refine ⟨val, ?_, h2⟩
        unfold valOf at h1 ⊢
        split at h1
        · exact h1
        · simp only [if_neg hz]; exact h1
        · cases h1

end
end Mine
end

section
open PySem
set_option Elab.async false
set_option maxRecDepth 10000
namespace Mine

section
variable {X : Cx} {n : Nat} {env : Env} {P : Prm} {A : Around} {ρ : List Addr} {μ : Mu} {σ : St} {s : Shared}

end
end Mine
end

section
open PySem
set_option Elab.async false
set_option maxRecDepth 10000
namespace Mine

section
variable {X : Cx} {n : Nat} {env : Env} {P : Prm} {A : Around} {ρ : List Addr} {μ : Mu} {σ : St} {s : Shared}

theorem taker_hdr (ok : CxOk X) : W.takerIn X.K X.C hdrKey = some none := by
  unfold W.takerIn; rw [ok.hd]; rfl

theorem putName_empty (p : Params) (t : Tok) (al : Addr) : Obj.putName hdrKey (PyData.keyHash p hdrKey) (.str hdrKey t) (.ref al) W.emptyDict = instDict p t 1 al := by
  rw [Obj.putName_eq]; simp [Obj.putNameByArray, instDict]

/-- self._headers = l -/
theorem W_setAttrS (ok : CxOk X) {o v : V} {name : Str} {x z : Value} (R : Rel X ρ μ env σ s.heap) (ho : VR s.heap (okOf ρ μ) μ o x) (hv : VR s.heap (okOf ρ μ) μ v z) :
    W X A ρ μ env s EqR (setAttr x name z) (setAttrS o name v σ) := by
  intro u σ' e
  unfold setAttrS at e
  split at e
  · rename_i i l
    split at e
    · rename_i ds hi hl
      split at e
      · rename_i hn
        cases e
        subst hn
        obtain ⟨al, hal, rfl⟩ := hv
        obtain ⟨a, h1, rfl⟩ := ho
        obtain ⟨p, h2, d, h4, h5, h6⟩ := R.objs i _ hi
        rw [root_some h2] at h1
        cases h1
        obtain ⟨hh, g, dr, tk, os⟩ := s
        have K : X.K.In hh := R.kin ok
        have I : W.InstAt hh p.1 (W.instObj X.C d) X.C (some W.emptyDict) := ⟨h5, rfl, rfl, h6⟩
        refine W.set_plain K I ok.sa ?_
        refine W.osa_open K I ok.po (taker_hdr ok) fun b => ?_
        obtain ⟨cd, hc, hd'⟩ := W.any_some ok.hasD
        have L := W.looks_clsIn (M := model X.prog X.w) K hc
        refine wpAny_bind (wpAny_pure (wpAny_bind (wpAny_bind (wpAny_loadPart h5 (wpAny_bind (L.at ?_))))))
        rw [hd']
        refine wpAny_pure (a := some d) (wpAny_bind (wpAny_pure (wpAny_bind ?_)))
        unfold nsSet
        refine wpAny_bind (wpAny_bind (wpAny_askSetting (wpAny_pure (wpAny_bind (wpAny_mkText (wpAny_bind (wpAny_loadPart h6 ?_)))))))
        dsimp only
        rw [aRefKeyMayBeTheName_at, show (!(#[] : Array DictEntry).any (·.key.isStr hdrKey) && (#[] : Array DictEntry).any (·.refKey)) = false by simp]
        refine wpAny_updatePart h6 ?_
        have hpd : p.1 ≠ d := fun q => by
          have h5' : hh.get? p.1 = _ := h5
          have h6' : hh.get? d = _ := h6
          rw [q, h6'] at h5'; cases h5'
        have D' : (hh.update d (Obj.putName hdrKey (PyData.keyHash X.w.params hdrKey) (.str hdrKey (tk + 1)) (.ref al))).get? d = some (instDict X.w.params (tk + 1) 1 al) := by
          rw [Heap.get?_update_self _ h6 (by rw [putName_empty]; rfl), putName_empty]
        refine wpAny_bind (wpAny_lookBehind D' (pastItsLine_dict (by rw [sizeLine_eq]; show 1 ≤ _; decide)) (wpAny_pure ?_))
        have kf : ∀ b ob, b ∉ p.2 → hh.get? b = some ob → (hh.update d (Obj.putName hdrKey (PyData.keyHash X.w.params hdrKey) (.str hdrKey (tk + 1)) (.ref al))).get? b = some ob := by
          intro b ob hb e
          rw [h4] at hb
          exact (Heap.get?_update_other _ _ (fun q => hb (by rw [q]; simp))).trans e
        have h5' : (hh.update d (Obj.putName hdrKey (PyData.keyHash X.w.params hdrKey) (.str hdrKey (tk + 1)) (.ref al))).get? p.1 = some (W.instObj X.C d) := (Heap.get?_update_other _ _ (Ne.symm hpd)).trans h5
        have hl : ∀ b ∈ p.2, ∃ ob, (hh.update d (Obj.putName hdrKey (PyData.keyHash X.w.params hdrKey) (.str hdrKey (tk + 1)) (.ref al))).get? b = some ob := by
          intro b hb
          rw [h4] at hb
          simp only [List.mem_cons, List.not_mem_nil, or_false] at hb
          rcases hb with rfl | rfl
          · exact ⟨_, h5'⟩
          · exact ⟨_, D'⟩
        exact ⟨μ, .setObj h2 kf hl, R.setObj h2 (fun _ q => nomatch q) kf hl ⟨d, h4, h5', al, tk + 1, 1, hal, D'⟩, rfl⟩
      · cases e
    · cases e
  · cases e


/-! targets -/
noncomputable def As (X : Cx) (n : Nat) (env : Env) (t : Expr) (f : V → M Unit) : Prop :=
  ∀ A ρ μ σ s v x, Ga n A → Rel X ρ μ env σ s.heap → VR s.heap (okOf ρ μ) μ v x → W X A ρ μ env s EqR (assign t env x) (f v σ)

theorem As_Name {x : Str} {p : Pos} (hk : stOk env x = true) : As X n env (.Name x p) (setLoc x) := by
  intro A ρ μ σ s v y ga R hv
  show W X A ρ μ env s EqR (standAt p >>= fun _ => bindName env x y) _
  exact W_standAt (W_setLoc hk R hv)

theorem W_release {RV : RVt Unit Unit} {t : Sem Unit} {vs ks : List Value} {r : Option (Unit × St)} (h : W X A ρ μ env s RV t r) : W X A ρ μ env s RV (t >>= fun _ => release vs ks) r := by
  intro b σ' e
  exact wpAny_bind (wpAny_mono (h b σ' e) (fun _ _ z => wpAny_release z) fun _ _ z => z)

theorem As_Attr (ok : CxOk X) {o : Expr} {name : Str} {p : Pos} {mo : M V} (ho : Ev X n env o mo) : As X n env (.Attribute o name p) (fun v => do let ov ← mo; setAttrS ov name v) := by
  intro A ρ μ σ s v y ga R hv
  rw [arm_assign_Attribute]
  refine W_bind (W_holding (ho A ρ μ σ s ga R)) fun μ₁ s₁ a σ₁ x st₁ R₁ v₁ => W_standAt (W_release (W_holding (W_setAttrS ok R₁ v₁ (VR.step R st₁ hv))))

/-- a pair is unpacked -/
theorem As_Tuple {t u : Expr} {p : Pos} {k : Nat} {f g : V → M Unit} (ht : As X n env t f) (hu : As X n env u g) (hst : (noStar t && noStar u) = true) : As X n env (.Tuple [t, u] k p) (fun v => match v with
    | .dat (.tuple [a, b]) => (do f (.dat a); g (.dat b))
    | _ => mfail) := by
  intro A ρ μ σ s v y ga R hv w σ' e
  rw [Bool.and_eq_true] at hst
  cases v with
  | dat d =>
    cases d with
    | tuple l =>
      match l, e, hv with
      | [a, b], e, hv =>
        have hv : DR _ _ _ _ := hv
        simp only [DR, DRs] at hv
        obtain ⟨r, o, vs, m, rfl, hok, g1, g2, g3, x, _, g4, hx, x2, _, g6, hx2, g7⟩ := hv
        subst g7 g6
        refine mbind_elim e fun _ σ1 e1 e2 => ?_
        have hvs : vs = #[x, x2] := Array.toList_inj.mp g4
        subst hvs
        have hea : ∀ e : Expr, noStar e = true → ∀ r, assignEach (e :: r) env = (false, assign e env) :: assignEach r env := fun e he r => by cases e <;> first | rfl | cases he
        have hT : s.heap.IsTuple r #[x, x2] := ⟨o, g1, g2, m, g3⟩
        refine wpAny_assign_Tuple ga.handled hT (by rw [hea t hst.1, hea u hst.2]; rfl) (by rw [hea t hst.1, hea u hst.2]; rfl) fun h' he => ?_
        rw [hea t hst.1, hea u hst.2]
        have k1 : ∀ b o, s.heap.get? b = some o → h'.get? b = some o := fun b o e => he b o (Nat.ne_of_lt (Heap.lt_size e)) e
        have st0 : Step (wrt env) μ μ s { s with heap := h' } := .grow (tk := s.toks) k1
        have R0 : Rel X ρ μ env σ h' := R.ext k1
        refine wpAny_assignInOrder_more ?_
        refine wpAny_mono (ht A ρ μ σ { s with heap := h' } (.dat a) x ga R0 (VR.step R st0 (v := .dat a) hx) _ σ1 e1) (fun _ s1 z => ?_) fun _ _ z => z
        first | refine post_elim z fun μ1 st1 R1 _ => ?_ | obtain ⟨μ1, st1, R1, _⟩ := z
        refine wpAny_assignInOrder_more ?_
        refine wpAny_mono (hu A ρ μ1 σ1 s1 (.dat b) x2 ga R1 (VR.step (s := { s with heap := h' }) R0 st1 (VR.step R st0 (v := .dat b) hx2)) _ σ' e2) (fun _ s2 z => ?_) fun _ _ z => z
        first | refine post_elim z fun μ2 st2 R2 _ => ?_ | obtain ⟨μ2, st2, R2, _⟩ := z
        exact wpAny_assignInOrder_none ⟨μ2, (st0.trans st1).trans st2, R2, rfl⟩
      | [], e, _ => cases e
      | [_], e, _ => cases e
      | _ :: _ :: _ :: _, e, _ => cases e
    | _ => cases e
  | _ => cases e

end
end Mine
end

section
open PySem
set_option Elab.async false
set_option maxRecDepth 10000
namespace Mine

noncomputable def FlR : RVt Flow Fl := fun h ok μ f x => match f with
  | .next => x = .next
  | .brk => x = .brk
  | .cont => x = .cont
  | .ret v => ∃ y, x = .ret y ∧ VR h ok μ v y

noncomputable def Ex (X : Cx) (n : Nat) (env : Env) (st : Stmt) (m : M Fl) : Prop := Tr X n env FlR (exec st env) m
noncomputable def Exs (X : Cx) (n : Nat) (env : Env) (st : List Stmt) (m : M Fl) : Prop := Tr X n env FlR (execs st env) m

section
variable {X : Cx} {n : Nat} {env : Env} {P : Prm} {A : Around} {ρ : List Addr} {μ : Mu} {σ : St} {s : Shared}

theorem Rel.notInter (R : Rel X ρ μ env σ s.heap) : interactive env = false := by
  obtain ⟨m, cm, F, _⟩ := R.frame
  unfold interactive; rw [F.kind]; rfl

noncomputable def noComp : Expr → Bool
  | .ListComp .. => false
  | .SetComp .. => false
  | .DictComp .. => false
  | _ => true
theorem swaps_no {e : Expr} (h : noComp e = true) (t : Option Expr) (l : Nat) : swapsWith e t l env = pure false := by
  cases e <;> first | rfl | cases h

theorem Ex_Expr {e : Expr} {pos : Pos} {m : M V} (he : Ev X n env e m) (hc : noComp e = true) : Ex X n env (.Expr e pos) (do let _ ← m; mpure .next) := by
  intro A ρ μ σ s ga R r σ' q
  refine mbind_elim q fun v σ1 e1 q1 => ?_
  cases q1
  refine wpAny_Expr_any (wpAny_mono (he A ρ μ σ s ga R v _ e1) (fun y s1 z => ?_) fun _ _ z => z) R.notInter (swaps_no hc _ _)
  first | refine post_elim z fun μ1 st1 R1 _ => ?_ | obtain ⟨μ1, st1, R1, _⟩ := z
  exact ⟨μ1, st1, R1, rfl⟩

theorem Ex_Return {e : Expr} {pos : Pos} {m : M V} (he : Ev X n env e m) : Ex X n env (.Return (some e) pos) (do let v ← m; mpure (.ret v)) := fun A ρ μ σ s ga R => by
  rw [arm_exec_Return]
  exact W_standAt (W_bind (he A ρ μ σ s ga R) fun μ₁ s₁ a σ₁ x st₁ R₁ v₁ => W_pure R₁ ⟨x, rfl, v₁⟩)

noncomputable def swq : Expr → Expr → Bool
  | .Tuple .., .Tuple .. => false
  | .List .., .Tuple .. => false
  | _, _ => true
theorem swapped_no {t e : Expr} (h : swq t e = true) : swappedStores [t] e env = pure none := by
  cases t <;> first | rfl | (cases e <;> first | rfl | cases h)

theorem Ex_Assign {t e : Expr} {pos : Pos} {m : M V} {f : V → M Unit} (he : Ev X n env e m) (ht : As X n env t f) (h1 : noStar t = true) (h2 : swapsWith e (some t) pos.line env = pure false) (h3 : swappedStores [t] e env = pure none) :
    Ex X n env (.Assign [t] e pos) (do let v ← m; f v; mpure .next) := by
  intro A ρ μ σ s ga R r σ' q
  refine mbind_elim q fun v σ1 e1 q1 => ?_
  refine mbind_elim q1 fun u σ2 e2 q2 => ?_
  cases q2
  have hea : assignEach [t] env = [(false, assign t env)] := by cases t <;> first | rfl | cases h1
  refine wpAny_Assign_stores (wpAny_mono (he A ρ μ σ s ga R v σ1 e1) (fun y s1 z => ?_) fun _ _ z => z) h2 h3
  first | refine post_elim z fun μ1 st1 R1 v1 => ?_ | obtain ⟨μ1, st1, R1, v1⟩ := z
  rw [hea]
  refine wpAny_mono (ht A ρ μ1 σ1 s1 v y ga R1 v1 u _ e2) (fun _ s2 z => ?_) fun _ _ z => z
  first | refine post_elim z fun μ2 st2 R2 _ => ?_ | obtain ⟨μ2, st2, R2, _⟩ := z
  exact ⟨μ2, st1.trans st2, R2, rfl⟩

theorem Ex_If {t : Expr} {b o : List Stmt} {pos : Pos} {mt : M Bool} {mb mo : M Fl} (ht : Te X n env t mt) (hb : Exs X n env b mb) (ho : Exs X n env o mo) :
    Ex X n env (.If t b o pos) (do let c ← mt; bif c then mb else mo) := by
  intro A ρ μ σ s ga R
  rw [arm_exec_If]
  refine W_standAt (W_bind (ht A ρ μ σ s ga R) fun μ₁ s₁ c σ₁ x st₁ R₁ v₁ => ?_)
  have : x = c := v₁
  subst this
  exact W_cond (fun _ => hb A ρ μ₁ σ₁ s₁ ga R₁) fun _ => ho A ρ μ₁ σ₁ s₁ ga R₁

theorem Exs_nil : Exs X n env [] (mpure .next) := fun A ρ μ σ s ga R => W_pure R rfl
theorem Exs_cons {st : Stmt} {r : List Stmt} {m k : M Fl} (h : Ex X n env st m) (hr : Exs X n env r k) : Exs X n env (st :: r) (do let f ← m; match f with | .next => k | f => mpure f) := by
  intro A ρ μ σ s ga R
  rw [arm_execs_cons]
  refine W_bind (h A ρ μ σ s ga R) fun μ₁ s₁ f σ₁ x st₁ R₁ v₁ => ?_
  cases f with
  | next => rw [show x = Flow.next from v₁]; exact hr A ρ μ₁ σ₁ s₁ ga R₁
  | brk => rw [show x = Flow.brk from v₁]; exact W_pure R₁ rfl
  | cont => rw [show x = Flow.cont from v₁]; exact W_pure R₁ rfl
  | ret v => obtain ⟨y, rfl, hy⟩ := v₁; exact W_pure R₁ ⟨y, rfl, hy⟩

end
end Mine
end

section
open PySem
set_option Elab.async false
set_option maxRecDepth 10000
namespace Mine

section
variable {X : Cx} {n : Nat} {env : Env} {P : Prm} {A : Around} {ρ : List Addr} {μ μ' : Mu} {σ : St} {s : Shared} {h h' : Heap}

theorem root_back (pre : μ <+: μ') {i : Nat} (hi : i < μ.length) : root μ' i = root μ i := by
  obtain ⟨r, rfl⟩ := pre
  unfold root
  rw [List.getElem?_append_left hi]
theorem get_back (pre : μ <+: μ') {i : Nat} (hi : i < μ.length) : μ'[i]? = μ[i]? := by
  obtain ⟨r, rfl⟩ := pre
  rw [List.getElem?_append_left hi]

theorem VR.cut (pre : μ <+: μ') {v : V} {x : Value} (hv : VR h (okOf ρ μ') μ' v x) (ho : okV μ.length v = true) : VR h (okOf ρ μ) μ v x := by
  have kok : ∀ a ob, okOf ρ μ' a → h.get? a = some ob → h.get? a = some ob ∧ okOf ρ μ a := fun a ob q e => ⟨e, q.1, fun hm => q.2 (foot_prefix pre hm)⟩
  cases v with
  | dat d => exact DR.mono kok hv
  | obj i =>
    obtain ⟨a, h1, h2⟩ := hv
    exact ⟨a, by rw [← root_back pre (of_decide_eq_true ho)]; exact h1, h2⟩
  | rng lo hi =>
    obtain ⟨r, t, u, w, h1, h2, h3⟩ := hv
    exact ⟨r, t, u, w, h1, (kok r _ h2 h3).2, h3⟩
  | emp =>
    obtain ⟨a, n, h1, h0, h2, h3⟩ := hv
    exact ⟨a, n, h1, h0, (kok a _ h2 h3).2, h3⟩

/-- what is behind n is forgotten -/
theorem Rel.cut (R : Rel X ρ μ' env σ h) (pre : μ <+: μ') {σ₁ : St} (e : cutM μ.length σ = some σ₁) : Rel X ρ μ env σ₁ h := by
  unfold cutM at e
  split at e
  · rename_i hall
    cases e
    have hlen : μ.length ≤ σ.heap.length := by rw [← R.len]; exact pre.length_le
    have hf : ∀ a, a ∈ foot μ → a ∈ foot μ' := fun a ha => foot_prefix pre ha
    have kok : ∀ a ob, okOf ρ μ' a → h.get? a = some ob → h.get? a = some ob ∧ okOf ρ μ a := fun a ob q e => ⟨e, q.1, fun hm => q.2 (hf a hm)⟩
    refine ⟨R.base, R.freshR, fun a ha => R.freshM a (hf a ha), R.liveR, fun a ha => R.liveM a (hf a ha), ?_, fun a ha hm => R.dis a ha (hf a hm), R.own, R.above, ?_, ?_, fun i j a h1 h2 => R.inj i j a (root_prefix pre h1) (root_prefix pre h2), ?_, ?_⟩
    · obtain ⟨r, rfl⟩ := pre
      have := R.nod
      rw [foot_append, List.nodup_append] at this
      exact this.1
    · obtain ⟨m, cm, F, l⟩ := R.frame
      refine ⟨m, cm, F, fun x v ex => ?_⟩
      obtain ⟨h1, h2⟩ := Option.filter_eq_some_iff.mp ex
      obtain ⟨val, h3, h4⟩ := l x v h1
      exact ⟨val, h3, h4.cut pre h2⟩
    · simp [Nat.min_eq_left hlen]
    · intro i o hi
      have hi' : i < μ.length := by
        have := (List.getElem?_eq_some_iff.mp hi).1
        rw [List.length_take] at this; omega
      have hi2 : σ.heap[i]? = some o := by rwa [List.getElem?_take_of_lt hi'] at hi
      have hoo : okO μ.length o = true := List.all_eq_true.mp hall o (List.mem_of_getElem? hi)
      obtain ⟨p, h1, h2⟩ := R.objs i o hi2
      refine ⟨p, by rw [← get_back pre hi']; exact h1, ?_⟩
      cases o with
      | lst ds => obtain ⟨vs, m, g1, g2, g3⟩ := h2; exact ⟨vs, m, g1, g2, DRs.mono kok g3⟩
      | frz ds => obtain ⟨vs, m, g1, g2, g3⟩ := h2; exact ⟨vs, m, g1, g2, DRs.mono kok g3⟩
      | inst l =>
        obtain ⟨d, g1, g2, g3⟩ := h2
        refine ⟨d, g1, g2, ?_⟩
        cases l with
        | none => exact g3
        | some k =>
          obtain ⟨al, t, m, g4, g5⟩ := g3
          exact ⟨al, t, m, by rw [← root_back pre (of_decide_eq_true hoo)]; exact g4, g5⟩
    · intro i ds hi a ha
      have hi' : i < μ.length := by
        have := (List.getElem?_eq_some_iff.mp hi).1
        rw [List.length_take] at this; omega
      have hi2 : σ.heap[i]? = some (.frz ds) := by rwa [List.getElem?_take_of_lt hi'] at hi
      exact R.frz i ds hi2 a (by rw [root_back pre hi']; exact ha)
  · cases e

theorem Step.cut {ow : List Addr} {s s' : Shared} (st : Step ow μ μ' s s') : Step ow μ μ s s' := ⟨st.same, st.keep, st.live, List.prefix_refl _, fun _ h => .inl h⟩

theorem FlR.cut (pre : μ <+: μ') {f : Fl} {x : Flow} (hv : FlR h (okOf ρ μ') μ' f x) (ho : okF μ.length f = true) : FlR h (okOf ρ μ) μ f x := by
  cases f with
  | ret v => obtain ⟨y, h1, h2⟩ := hv; exact ⟨y, h1, h2.cut pre ho⟩
  | _ => exact hv

theorem post_cut {f : Fl} {x : Flow} {s' : Shared} {σ' σ₁ : St} (z : Post X ρ μ env s FlR f σ' x s') (ho : okF μ.length f = true) (e : cutM μ.length σ' = some σ₁) :
    Step (Mine.wrt env) μ μ s s' ∧ Rel X ρ μ env σ₁ s'.heap ∧ FlR s'.heap (okOf ρ μ) μ f x := by
  first | refine post_elim z fun μ1 st R v => ?_ | obtain ⟨μ1, st, R, v⟩ := z
  exact ⟨st.cut, R.cut st.pre e, v.cut st.pre ho⟩

theorem scopeM_some {m : M Fl} {f : Fl} {σ' : St} (e : scopeM m σ = some (f, σ')) : ∃ σ₁, m σ = some (f, σ₁) ∧ okF σ.heap.length f = true ∧ cutM σ.heap.length σ₁ = some σ' := by
  unfold scopeM at e
  split at e
  · cases e
  · rename_i g σ1 hm
    split at e
    · rename_i ho
      obtain ⟨σ2, h1, h2⟩ := Option.map_eq_some_iff.mp e
      cases h2
      exact ⟨σ1, hm, ho, h1⟩
    · cases e

/-- a while loop -/
theorem Ex_While {t : Expr} {b : List Stmt} {pos : Pos} {mt : M Bool} {mb : M Fl} (ht : Te X n env t mt) (hb : Exs X n env b mb) (k : Nat) : Ex X n env (.While t b [] pos) (whileS mt mb k) := by
  intro A ρ μ σ s ga R f σ' e
  refine wpAny_While ?_
  refine codeAny_whileLoop (fun j s' => ∃ μ₁ σ₁, Step (wrt env) μ μ₁ s s' ∧ Rel X ρ μ₁ env σ₁ s'.heap ∧ whileS mt mb j σ₁ = some (f, σ')) ?_ k ⟨μ, σ, .refl _ _ _, R, e⟩
  rintro j s₁ ⟨μ₁, σ₁, st₁, R₁, e₁⟩
  cases j with
  | zero => cases e₁
  | succ j =>
    simp only [whileS] at e₁
    split at e₁
    · cases e₁
    · rename_i σ₂ h2
      cases e₁
      refine wpAny_mono (ht A ρ μ₁ σ₁ s₁ ga R₁ _ _ h2) (fun c s₂ z => ?_) fun _ _ z => z.elim
      obtain ⟨μ₂, st₂, R₂, rfl⟩ := z
      exact wpAny_execs_nil ⟨μ₂, st₁.trans st₂, R₂, rfl⟩
    · rename_i σ₂ h2
      refine wpAny_mono (ht A ρ μ₁ σ₁ s₁ ga R₁ _ _ h2) (fun c s₂ z => ?_) fun _ _ z => z.elim
      obtain ⟨μ₂, st₂, R₂, rfl⟩ := z
      rw [if_pos rfl]
      cases hs : scopeM mb σ₂ with
      | none => rw [hs] at e₁; cases e₁
      | some r =>
        obtain ⟨f2, σ₃⟩ := r
        rw [hs] at e₁
        obtain ⟨σm, g1, g2, g3⟩ := scopeM_some hs
        rw [← R₂.len] at g2 g3
        refine wpAny_mono (hb A ρ μ₂ σ₂ s₂ ga R₂ _ _ g1) (fun x s₃ z => ?_) fun _ _ z => z.elim
        obtain ⟨st₃, R₃, v₃⟩ := post_cut z g2 g3
        cases f2 with
        | next =>
          rw [show x = Flow.next from v₃]
          exact ⟨j, Nat.lt_succ_self _, μ₂, σ₃, (st₁.trans st₂).trans st₃, R₃, e₁⟩
        | cont =>
          rw [show x = Flow.cont from v₃]
          exact ⟨j, Nat.lt_succ_self _, μ₂, σ₃, (st₁.trans st₂).trans st₃, R₃, e₁⟩
        | brk =>
          rw [show x = Flow.brk from v₃]
          cases e₁
          exact ⟨μ₂, (st₁.trans st₂).trans st₃, R₃, rfl⟩
        | ret v =>
          obtain ⟨y, rfl, hy⟩ := v₃
          cases e₁
          exact ⟨μ₂, (st₁.trans st₂).trans st₃, R₃, y, rfl, hy⟩

/-- reserved things are let go -/
theorem Rel.leave {wr : List Addr} (R : Rel X (wr ++ ρ) μ env σ h) (hw : ∀ a ∈ Mine.own env, a ∈ ρ) (hwo : ∀ a ∈ wr, a ∉ ρ) (hz : ∀ a ∈ wr, ∀ j, root μ j ≠ some a) (k : ∀ b o, b ∉ wr → h.get? b = some o → h'.get? b = some o) : Rel X ρ μ env σ h' := by
  have kok : ∀ a ob, okOf (wr ++ ρ) μ a → h.get? a = some ob → h'.get? a = some ob ∧ okOf ρ μ a := fun a ob q e => ⟨k a ob (fun hm => q.1 (List.mem_append_left _ hm)) e, fun hm => q.1 (List.mem_append_right _ hm), q.2⟩
  have ka : ∀ a ∈ ρ, a ∉ wr := fun a ha hm => hwo a hm ha
  have kf : ∀ a ∈ foot μ, a ∉ wr := fun a ha hm => R.dis a (List.mem_append_left _ hm) ha
  refine ⟨fun b o e => k b o (fun hm => ?_) (R.base b o e), fun a ha => R.freshR a (List.mem_append_right _ ha), R.freshM, fun a ha => ?_, fun a ha => ?_, R.nod, fun a ha => R.dis a (List.mem_append_right _ ha), hw, R.above, ?_, R.len, R.inj, ?_, ?_⟩
  · rw [R.freshR b (List.mem_append_left _ hm)] at e; cases e
  · obtain ⟨o, e⟩ := R.liveR a (List.mem_append_right _ ha); exact ⟨o, k a o (ka a ha) e⟩
  · obtain ⟨o, e⟩ := R.liveM a ha; exact ⟨o, k a o (kf a ha) e⟩
  · obtain ⟨m, cm, F, l⟩ := R.frame
    refine ⟨m, cm, F.at fun b hb o e => k b o (ka b (hw b hb)) e, fun x v e => ?_⟩
    obtain ⟨val, h1, h2⟩ := l x v e
    exact ⟨val, h1, h2.mono (fun _ _ e => e) kok⟩
  · intro j oj e
    obtain ⟨q, h1, h2⟩ := R.objs j oj e
    refine ⟨q, h1, h2.mono (fun _ _ e => e) kok fun b hb ob e' => k b ob (fun hm => ?_) e'⟩
    rcases List.mem_cons.mp hb with rfl | hb
    · rcases h2.root_mem with h3 | ⟨ds, rfl⟩
      · exact kf _ (foot_get h1 h3) hm
      · exact hz _ hm j (root_some h1)
    · exact kf _ (foot_get h1 hb) hm
  · intro i ds e a ha
    rcases List.mem_append.mp (R.frz i ds e a ha) with hm | hm
    · exact absurd ha (hz _ hm i)
    · exact hm

/-! for -/
noncomputable def plainIt (T : String) : Bool := !(["enumerate", "zip", "dict_itemiterator", "dict_reverseitemiterator", "odict_iterator", "itertools.zip_longest", "itertools.pairwise"].contains T)

noncomputable def ItAt (h : Heap) (I : Addr) : Prop := ∃ o T vs, h.get? I = some o ∧ o.cls = .type T ∧ o.data = .fields vs ∧ plainIt T = true

theorem letOwned {tgt : Expr} {I : Addr} {v : Value} {Q : Unit → Shared → Prop} {E : Value → Shared → Prop} (hI : ItAt s.heap I) (q : Q () s) : wpAny (model X.prog X.w) A (letOwnedTupleGo tgt (.ref I) v) Q E s := by
  obtain ⟨o, T, vs, h1, h2, h3, h4⟩ := hI
  unfold plainIt at h4
  rw [Bool.not_eq_true'] at h4
  have body : wpAny (model X.prog X.w) A (do
    let (.ref r, .ref a) := ((.ref I : Value), v) | return
    let o ← load r
    match o.cls, o.data with
    | .type n, .fields vs =>
      if ["enumerate", "zip", "dict_itemiterator", "dict_reverseitemiterator", "odict_iterator", "itertools.zip_longest", "itertools.pairwise"].contains n && vs[0]? == some (rawInt a) then
        rule "for.unpacks-the-owned-tuple"
        updateField r 0 .none
    | _, _ => pure () : Sem Unit) Q E s := by
    cases v with
    | ref a =>
      refine wpAny_bind (wpAny_load h1 ?_)
      rw [h2, h3]
      dsimp only
      rw [h4, Bool.false_and, if_neg (by decide)]
      exact wpAny_pure q
    | _ => exact wpAny_pure q
  unfold letOwnedTupleGo
  split
  · exact body
  · exact body
  · exact wpAny_pure q

/-- a walk over data -/
structure Itr (X : Cx) (A : Around) (ow : List Addr) (μ : Mu) (h₀ : Heap) (ok : Addr → Prop) (I : Addr) (ds : List V) (h₁ : Heap) : Prop where
  fresh : h₀.get? I = none
  keep : ∀ b o, h₀.get? b = some o → h₁.get? b = some o
  walk : ∃ fp P St, Walks X.prog X.w A I fp [I] ds.length P St ∧ I ∈ fp ∧ (∀ b ∈ fp, b ≠ I → b ∉ foot μ ∧ b ∉ ow ∧ ∃ o, h₀.get? b = some o) ∧ St 0 h₁ ∧ (∀ i v, i < ds.length → P i v → ∃ d, ds[i]? = some d ∧ VR h₀ ok μ d v) ∧ (∀ i h, St i h → ItAt h I)

theorem Itr.dat {X : Cx} {A : Around} {ow : List Addr} {μ : Mu} {h₀ h₁ : Heap} {ok : Addr → Prop} {I : Addr} {ds : List PyData} (f : h₀.get? I = none) (k : ∀ b o, h₀.get? b = some o → h₁.get? b = some o)
    (w : ∃ fp P St, Walks X.prog X.w A I fp [I] ds.length P St ∧ I ∈ fp ∧ (∀ b ∈ fp, b ≠ I → b ∉ foot μ ∧ b ∉ ow ∧ ∃ o, h₀.get? b = some o) ∧ St 0 h₁ ∧ (∀ i v, i < ds.length → P i v → ∃ d, ds[i]? = some d ∧ DR h₀ ok d v) ∧ (∀ i h, St i h → ItAt h I)) : Itr X A ow μ h₀ ok I (ds.map .dat) h₁ := by
  refine ⟨f, k, ?_⟩
  rw [List.length_map]
  obtain ⟨fp, P, St, h1, h2, h3, h4, h5, h6⟩ := w
  refine ⟨fp, P, St, h1, h2, h3, h4, fun i v hi hv => ?_, h6⟩
  obtain ⟨d, g1, g2⟩ := h5 i v hi hv
  exact ⟨.dat d, by rw [List.getElem?_map, g1]; rfl, g2⟩
theorem For_loop {tgt : Expr} {body : List Stmt} {bind : V → M Unit} {mb : M Fl} (hb : As X n env tgt bind) (hB : Exs X n env body mb) (ga : Ga n A) (R : Rel X ρ μ env σ s.heap) {I : Addr} {ds : List V} {h₁ : Heap} {tk : Nat}
    (it : Itr X A (own env) μ s.heap (okOf ρ μ) I ds h₁) {f : Fl} {σ' : St} (e : forS bind mb ds σ = some (f, σ')) :
    codeAny (model X.prog X.w) A (.forLoop tgt (.ref I) body [] env) (fun r s' => match r with | .ok x => Post X ρ μ env s FlR f σ' x s' | .error _ => False) { s with heap := h₁, toks := tk } := by
  obtain ⟨fp, P, Ss, hW, hIf, hfp, hst, hP, hlive⟩ := it.walk
  have hIρ : I ∉ ρ := fun hm => by obtain ⟨o, e⟩ := R.liveR I hm; rw [it.fresh] at e; cases e
  have hIμ : I ∉ foot μ := fun hm => by obtain ⟨o, e⟩ := R.liveM I hm; rw [it.fresh] at e; cases e
  have hIo : I ∉ own env := fun hm => hIρ (R.own I hm)
  have hIr : ∀ a ∈ [I], ∀ j, root μ j ≠ some a := all1 fun j hj => by
    obtain ⟨o, e⟩ := R.rootLive hj
    rw [it.fresh] at e; cases e
  have R₁ : Rel X ([I] ++ ρ) μ env σ h₁ := Rel.reserve (R.ext it.keep) (h₂ := s.heap) (all1 it.fresh) R it.keep (all1 (by obtain ⟨o, _, _, q, _⟩ := hlive 0 h₁ hst; exact ⟨o, q⟩))
  have leave : ∀ {σ₂ : St} {h₂ h₃ : Heap}, Rel X ([I] ++ ρ) μ env σ₂ h₂ → ItAt h₂ I → (∀ b o, b ∉ [I] → h₂.get? b = some o → h₃.get? b = some o) → Rel X ρ μ env σ₂ h₃ := fun r i k =>
    r.leave R.own (all1 hIρ) hIr k
  refine codeAny_forLoop_any (fun k s' => ∃ i σ₁, k = ds.length + 1 - i ∧ i ≤ ds.length ∧ Step (wrt env) μ μ s s' ∧ Rel X ([I] ++ ρ) μ env σ₁ s'.heap ∧ Ss i s'.heap ∧ forS bind mb (ds.drop i) σ₁ = some (f, σ')) ?_ (ds.length + 1)
    ⟨0, σ, rfl, Nat.zero_le _, .grow it.keep, R₁, hst, e⟩
  rintro k s' ⟨i, σ₁, rfl, hi, st, R₂, hSt, e₂⟩
  by_cases hlt : i < ds.length
  · refine hW.item i s' _ _ hlt hSt fun v h₂ tk₂ hv hSt₂ hk₂ => ?_
    obtain ⟨d, hd, hdr⟩ := hP i v hlt hv
    have hdrop : ds.drop i = d :: ds.drop (i + 1) := by
      rw [List.drop_eq_getElem_cons hlt]
      rw [List.getElem?_eq_getElem hlt] at hd
      cases hd; rfl
    rw [hdrop] at e₂
    simp only [forS] at e₂
    have it₂ := hlive _ _ hSt₂
    have R₃ : Rel X ([I] ++ ρ) μ env σ₁ h₂ := R₂.setRes (wr := [I]) (fun a ha => List.mem_append_left _ ha) (all1 hIo) (all1 (by obtain ⟨o, _, _, q, _⟩ := it₂; exact ⟨o, q⟩)) hIr hk₂
    have st₃ : Step (wrt env) μ μ s { s' with heap := h₂, toks := tk₂ } := by
      obtain ⟨hh, tt, es⟩ := st.same
      refine ⟨⟨h₂, tk₂, by rw [es]⟩, fun b o q1 q2 q3 => hk₂ b o (fun hm => ?_) (st.keep b o q1 q2 q3), fun b o q1 => ?_, List.prefix_refl _, fun _ h => .inl h⟩
      · exact nomatch (List.mem_singleton.mp hm ▸ q1).symm.trans it.fresh
      · obtain ⟨o', q'⟩ := st.live b o q1
        exact ⟨o', hk₂ b o' (fun hm => nomatch (List.mem_singleton.mp hm ▸ q1).symm.trans it.fresh) q'⟩
    have hv₃ : VR h₂ (okOf ([I] ++ ρ) μ) μ d v := VR.mono (fun _ _ e => e) (fun a o ok q => ⟨st₃.keep a o q ok.2 (fun hm => ok.1 (R.own a (wrt_own hm))), fun hm => by
      rcases List.mem_append.mp hm with hm | hm
      · exact nomatch (List.mem_singleton.mp hm ▸ q).symm.trans it.fresh
      · exact ok.1 hm, ok.2⟩) hdr
    cases hs : scopeM (do bind d; mb) σ₁ with
    | none => rw [hs] at e₂; cases e₂
    | some r =>
      obtain ⟨f2, σ₃⟩ := r
      rw [hs] at e₂
      obtain ⟨σm, g1, g2, g3⟩ := scopeM_some hs
      rw [← R₂.len] at g2 g3
      refine mbind_elim g1 fun u σb g4 g5 => ?_
      refine letOwned it₂ ?_
      refine wpAny_mono (hb A _ μ σ₁ { s' with heap := h₂, toks := tk₂ } d v ga R₃ hv₃ u σb g4) (fun _ s₄ z => ?_) fun _ _ z => z.elim
      first | refine post_elim z fun μ₄ st₄ R₄ _ => ?_ | obtain ⟨μ₄, st₄, R₄, _⟩ := z
      refine wpAny_mono (hB A _ μ₄ σb s₄ ga R₄ _ _ g5) (fun x s₅ z => ?_) fun _ _ z => z.elim
      first | refine post_elim z fun μ₅ st₅ R₅ v₅ => ?_ | obtain ⟨μ₅, st₅, R₅, v₅⟩ := z
      obtain ⟨st₆, R₆, v₆⟩ := post_cut (s := { s' with heap := h₂, toks := tk₂ }) ⟨μ₅, st₄.trans st₅, R₅, v₅⟩ g2 g3
      have hSt₆ : Ss (i + 1) s₅.heap := hW.frame _ _ _ hSt₂ fun b hb o q => by
        by_cases hbI : b = I
        · exact st₆.keep b o q (hbI ▸ hIμ) fun hm => hIo (hbI ▸ wrt_own hm)
        · exact st₆.keep b o q (hfp b hb hbI).1 fun hm => (hfp b hb hbI).2.1 (wrt_own hm)
      have it₆ := hlive _ _ hSt₆
      have st₇ := st₃.trans st₆
      cases f2 with
      | next =>
        rw [show x = Flow.next from v₆]
        exact ⟨ds.length + 1 - (i + 1), by omega, i + 1, σ₃, rfl, hlt, st₇, R₆, hSt₆, e₂⟩
      | cont =>
        rw [show x = Flow.cont from v₆]
        exact ⟨ds.length + 1 - (i + 1), by omega, i + 1, σ₃, rfl, hlt, st₇, R₆, hSt₆, e₂⟩
      | brk =>
        rw [show x = Flow.brk from v₆]
        cases e₂
        exact ⟨μ, st₇, leave R₆ it₆ fun _ _ _ e => e, rfl⟩
      | ret v =>
        obtain ⟨y, rfl, hy⟩ := v₆
        cases e₂
        refine ⟨μ, st₇, leave R₆ it₆ fun _ _ _ e => e, y, rfl, hy.mono (fun _ _ e => e) fun a o ok q => ⟨q, fun hm => ok.1 (List.mem_append_right _ hm), ok.2⟩⟩
  · have hin : i = ds.length := by omega
    subst hin
    rw [List.drop_length] at e₂
    cases e₂
    refine hW.done s' _ _ hSt fun h₂ tk₂ hk₂ => ?_
    refine wpAny_execs_nil ⟨μ, ?_, leave R₂ (hlive _ _ hSt) hk₂, rfl⟩
    obtain ⟨hh, tt, es⟩ := st.same
    refine ⟨⟨h₂, tk₂, by rw [es]⟩, fun b o q1 q2 q3 => hk₂ b o (fun hm => ?_) (st.keep b o q1 q2 q3), fun b o q1 => ?_, List.prefix_refl _, fun _ h => .inl h⟩
    · exact nomatch (List.mem_singleton.mp hm ▸ q1).symm.trans it.fresh
    · obtain ⟨o', q'⟩ := st.live b o q1
      exact ⟨o', hk₂ b o' (fun hm => nomatch (List.mem_singleton.mp hm ▸ q1).symm.trans it.fresh) q'⟩

end
end Mine
end

section
open PySem
set_option Elab.async false
set_option maxRecDepth 10000
namespace Mine

section
variable {X : Cx} {n : Nat} {env : Env} {P : Prm} {A : Around} {ρ : List Addr} {μ μ' : Mu} {σ : St} {s : Shared} {h h' : Heap}

theorem foot_cons (p : Addr × List Addr) (μ : Mu) : foot (p :: μ) = p.2 ++ foot μ := by simp [foot]

theorem foot_set (a : Addr) (fp : List Addr) : ∀ {μ : Mu} {i : Nat} {p : Addr × List Addr}, μ[i]? = some p → (foot μ).Nodup → fp.Nodup → (∀ b ∈ fp, b ∈ p.2 ∨ b ∉ foot μ) →
    (∀ b, b ∈ foot (μ.set i (a, fp)) ↔ (b ∈ foot μ ∧ b ∉ p.2) ∨ b ∈ fp) ∧ (foot (μ.set i (a, fp))).Nodup
  | [], i, p, e, _, _, _ => by simp at e
  | q :: μ, 0, p, e, hn, hf, hc => by
    simp at e; subst e
    rw [foot_cons, List.nodup_append] at hn
    obtain ⟨h1, h2, h3⟩ := hn
    simp only [List.set_cons_zero, foot_cons]
    refine ⟨fun b => ?_, ?_⟩
    · simp only [List.mem_append]
      constructor
      · rintro (hb | hb)
        · exact .inr hb
        · exact .inl ⟨.inr hb, fun hq => h3 b hq b hb rfl⟩
      · rintro (⟨hb | hb, hq⟩ | hb)
        · exact absurd hb hq
        · exact .inr hb
        · exact .inl hb
    · rw [List.nodup_append]
      refine ⟨hf, h2, fun x hx y hy hxy => ?_⟩
      subst hxy
      rcases hc x hx with hh | hh
      · exact h3 x hh x hy rfl
      · exact hh (by rw [foot_cons]; exact List.mem_append_right _ hy)
  | q :: μ, i + 1, p, e, hn, hf, hc => by
    simp at e
    rw [foot_cons, List.nodup_append] at hn
    obtain ⟨h1, h2, h3⟩ := hn
    have hpm : ∀ b ∈ p.2, b ∈ foot μ := fun b hb => foot_get e hb
    obtain ⟨ih1, ih2⟩ := foot_set a fp e h2 hf (fun b hb => by
      rcases hc b hb with hh | hh
      · exact .inl hh
      · exact .inr fun hm => hh (by rw [foot_cons]; exact List.mem_append_right _ hm))
    simp only [List.set_cons_succ, foot_cons]
    refine ⟨fun b => ?_, ?_⟩
    · simp only [List.mem_append, ih1]
      constructor
      · rintro (hb | (⟨hb, hq⟩ | hb))
        · exact .inl ⟨.inl hb, fun hq => h3 b hb b (hpm b hq) rfl⟩
        · exact .inl ⟨.inr hb, hq⟩
        · exact .inr hb
      · rintro (⟨hb | hb, hq⟩ | hb)
        · exact .inl hb
        · exact .inr (.inl ⟨hb, hq⟩)
        · exact .inr (.inr hb)
    · rw [List.nodup_append]
      refine ⟨h1, ih2, fun x hx y hy hxy => ?_⟩
      subst hxy
      rcases (ih1 x).mp hy with ⟨hb, _⟩ | hb
      · exact h3 x hx x hb rfl
      · rcases hc x hb with hh | hh
        · exact h3 x hx x (hpm x hh) rfl
        · exact hh (by rw [foot_cons]; exact List.mem_append_left _ hx)

theorem root_set {i : Nat} {p : Addr × List Addr} (e : μ[i]? = some p) (fp : List Addr) (j : Nat) : root (μ.set i (p.1, fp)) j = root μ j := by
  unfold root
  rw [List.getElem?_set]
  split
  · rename_i hij
    subst hij
    rw [if_pos (List.getElem?_eq_some_iff.mp e).1, e]; rfl
  · rfl

/-- a list is laid by -/
theorem Rel.freeze (R : Rel X ρ μ env σ h) {i : Nat} {a : Addr} {ds : List PyData} (hi : σ.heap[i]? = some (.lst ds)) (hp : μ[i]? = some (a, [a])) :
    Rel X ([a] ++ ρ) (μ.set i (a, [])) env ⟨σ.loc, σ.heap.set i (.frz ds)⟩ h := by
  obtain ⟨fs, fn⟩ := foot_set a [] hp R.nod (by simp) (by simp)
  have hfs : ∀ b, b ∈ foot (μ.set i (a, [])) ↔ b ∈ foot μ ∧ b ≠ a := fun b => by rw [fs]; simp
  have ham : a ∈ foot μ := foot_get hp (by simp)
  have haρ : a ∉ ρ := fun hm => R.dis a hm ham
  have hrt : ∀ j, root (μ.set i (a, [])) j = root μ j := root_set hp []
  have kok : ∀ b ob, okOf ρ μ b → h.get? b = some ob → h.get? b = some ob ∧ okOf ([a] ++ ρ) (μ.set i (a, [])) b := fun b ob q e => ⟨e, fun hm => by
    rcases List.mem_append.mp hm with hm | hm
    · simp at hm; subst hm; exact q.2 ham
    · exact q.1 hm, fun hm => q.2 ((hfs b).mp hm).1⟩
  have hpr : ∀ j b, root μ j = some b → root (μ.set i (a, [])) j = some b := fun j b e => by rw [hrt]; exact e
  refine ⟨R.base, fun b hb => ?_, fun b hb => R.freshM b ((hfs b).mp hb).1, fun b hb => ?_, fun b hb => R.liveM b ((hfs b).mp hb).1, fn, fun b hb hm => ?_, fun b hb => List.mem_append_right _ (R.own b hb), R.above, ?_, by simp [R.len], fun j k b h1 h2 => R.inj j k b (by rw [← hrt]; exact h1) (by rw [← hrt]; exact h2), ?_, ?_⟩
  · rcases List.mem_append.mp hb with hb | hb
    · simp at hb; subst hb; exact R.freshM b ham
    · exact R.freshR b hb
  · rcases List.mem_append.mp hb with hb | hb
    · simp at hb; subst hb; exact R.liveM b ham
    · exact R.liveR b hb
  · rcases List.mem_append.mp hb with hb | hb
    · simp at hb; subst hb; exact ((hfs b).mp hm).2 rfl
    · exact R.dis b hb ((hfs b).mp hm).1
  · obtain ⟨m, cm, F, l⟩ := R.frame
    refine ⟨m, cm, F, fun x v e => ?_⟩
    obtain ⟨val, h1, h2⟩ := l x v e
    exact ⟨val, h1, h2.mono hpr kok⟩
  · intro j o e
    rw [List.getElem?_set] at e
    split at e
    · rename_i hij
      subst hij
      split at e
      · cases e
        obtain ⟨p, h1, vs, m, h2, h3, h4⟩ := R.objs i _ hi
        rw [hp] at h1; cases h1
        refine ⟨(a, []), ?_, vs, m, rfl, h3, DRs.mono kok h4⟩
        rw [List.getElem?_set_self (List.getElem?_eq_some_iff.mp hp).1]
      · cases e
    · rename_i hij
      obtain ⟨p, h1, h2⟩ := R.objs j o e
      refine ⟨p, by rw [List.getElem?_set_ne hij]; exact h1, h2.mono hpr kok fun _ _ _ e => e⟩
  · intro j es e b hb
    rw [List.getElem?_set] at e
    rw [hrt] at hb
    split at e
    · rename_i hij
      subst hij
      split at e
      · cases e
        rw [root_some hp] at hb; cases hb
        simp
      · cases e
    · exact List.mem_append_right _ (R.frz j es e b hb)

/-- and taken up again -/
theorem Rel.thaw {i : Nat} {a : Addr} {ds : List PyData} {vs : Array Value} {m : Nat} (R : Rel X ([a] ++ ρ) μ env σ h) (hp : μ[i]? = some (a, [])) (ha : a ∉ ρ) (ho : ∀ b ∈ Mine.own env, b ∈ ρ)
    (hL : h.get? a = some { cls := .type "list", data := .seq vs m }) (hd : DRs h (okOf ([a] ++ ρ) μ) ds vs.toList) :
    Rel X ρ (μ.set i (a, [a])) env ⟨σ.loc, σ.heap.set i (.lst ds)⟩ h ∧ (∀ b, okOf ([a] ++ ρ) μ b → okOf ρ (μ.set i (a, [a])) b) ∧ (∀ b, b ∈ foot (μ.set i (a, [a])) → b ∈ foot μ ∨ b = a) := by
  have haμ : a ∉ foot μ := R.dis a (by simp)
  obtain ⟨fs, fn⟩ := foot_set a [a] hp R.nod (by simp) (fun b hb => by simp at hb; subst hb; exact .inr haμ)
  have hfs : ∀ b, b ∈ foot (μ.set i (a, [a])) ↔ b ∈ foot μ ∨ b = a := fun b => by rw [fs]; simp
  have hrt : ∀ j, root (μ.set i (a, [a])) j = root μ j := root_set hp [a]
  have hok : ∀ b, okOf ([a] ++ ρ) μ b → okOf ρ (μ.set i (a, [a])) b := fun b q => ⟨fun hm => q.1 (List.mem_append_right _ hm), fun hm => by
    rcases (hfs b).mp hm with hm | hm
    · exact q.2 hm
    · subst hm; exact q.1 (by simp)⟩
  have kok : ∀ b ob, okOf ([a] ++ ρ) μ b → h.get? b = some ob → h.get? b = some ob ∧ okOf ρ (μ.set i (a, [a])) b := fun b ob q e => ⟨e, hok b q⟩
  have hpr : ∀ j b, root μ j = some b → root (μ.set i (a, [a])) j = some b := fun j b e => by rw [hrt]; exact e
  refine ⟨⟨R.base, fun b hb => R.freshR b (List.mem_append_right _ hb), fun b hb => ?_, fun b hb => R.liveR b (List.mem_append_right _ hb), fun b hb => ?_, fn, fun b hb hm => ?_, ho, R.above, ?_, by simp [R.len], fun j k b h1 h2 => R.inj j k b (by rw [← hrt]; exact h1) (by rw [← hrt]; exact h2), ?_, ?_⟩, hok, fun b hb => (hfs b).mp hb⟩
  · rcases (hfs b).mp hb with hb | hb
    · exact R.freshM b hb
    · subst hb; exact R.freshR b (by simp)
  · rcases (hfs b).mp hb with hb | hb
    · exact R.liveM b hb
    · subst hb; exact R.liveR b (by simp)
  · rcases (hfs b).mp hm with hm | hm
    · exact R.dis b (List.mem_append_right _ hb) hm
    · subst hm; exact ha hb
  · obtain ⟨m, cm, F, l⟩ := R.frame
    refine ⟨m, cm, F, fun x v e => ?_⟩
    obtain ⟨val, h1, h2⟩ := l x v e
    exact ⟨val, h1, h2.mono hpr kok⟩
  · intro j o e
    rw [List.getElem?_set] at e
    split at e
    · rename_i hij
      subst hij
      split at e
      · cases e
        refine ⟨(a, [a]), ?_, vs, m, rfl, hL, DRs.mono kok hd⟩
        rw [List.getElem?_set_self (List.getElem?_eq_some_iff.mp hp).1]
      · cases e
    · rename_i hij
      obtain ⟨p, h1, h2⟩ := R.objs j o e
      refine ⟨p, by rw [List.getElem?_set_ne hij]; exact h1, h2.mono hpr kok fun _ _ _ e => e⟩
  · intro j es e b hb
    rw [List.getElem?_set] at e
    rw [hrt] at hb
    split at e
    · split at e
      · cases e
      · cases e
    · rename_i hij
      rcases List.mem_append.mp (R.frz j es e b hb) with hm | hm
      · simp at hm; subst hm
        exact absurd (R.inj i j b (by rw [root_some hp]) hb) hij
      · exact hm

/-- from the laid-by world back -/
theorem thaw_core (R : Rel X ρ μ env σ s.heap) {i : Nat} {ds : List PyData} (hi : σ.heap[i]? = some (.lst ds)) {a : Addr} (hp : μ[i]? = some (a, [a])) {μ₁ : Mu} {s' : Shared} {σ' : St}
    (st : Step (wrt env) (μ.set i (a, [])) μ₁ s s') {ρ' : List Addr} (hρ : ∀ b ∈ ρ', b ∈ ρ ∨ s.heap.get? b = none) (hoρ : ∀ b ∈ own env, b ∈ ρ') (R' : Rel X ([a] ++ ρ') μ₁ env σ' s'.heap) :
    ∃ μ₂, Step (wrt env) μ μ₂ s s' ∧ Rel X ρ' μ₂ env ⟨σ'.loc, σ'.heap.set i (.lst ds)⟩ s'.heap ∧ (∀ b, okOf ([a] ++ ρ') μ₁ b → okOf ρ' μ₂ b) ∧ (∀ j b, root μ₁ j = some b → root μ₂ j = some b) := by
  have ham : a ∈ foot μ := foot_get hp (by simp)
  have haρ : a ∉ ρ := fun hm => R.dis a hm ham
  obtain ⟨p, h1, vs, m, h2, h3, h4⟩ := R.objs i _ hi
  rw [hp] at h1; cases h1
  have haρ' : a ∉ ρ' := fun hm => by
    rcases hρ a hm with hm | hm
    · exact haρ hm
    · have h3' : s.heap.get? a = _ := h3
      rw [hm] at h3'; cases h3'
  obtain ⟨fs, fn⟩ := foot_set a [] hp R.nod (by simp) (by simp)
  have hfs : ∀ b, b ∈ foot (μ.set i (a, [])) ↔ b ∈ foot μ ∧ b ≠ a := fun b => by rw [fs]; simp
  have hlt : i < μ.length := (List.getElem?_eq_some_iff.mp hp).1
  have hao : a ∉ own env := R.frzOff h3
  have hp1 : μ₁[i]? = some (a, []) := by
    obtain ⟨r, hr⟩ := st.pre
    rw [← hr, List.getElem?_append_left (by simpa using hlt), List.getElem?_set_self hlt]
  have hL : s'.heap.get? a = some { cls := .type "list", data := .seq vs m } := st.keep a _ h3 (fun hm => ((hfs a).mp hm).2 rfl) (fun hm => hao (wrt_own hm))
  have hd : DRs s'.heap (okOf ([a] ++ ρ') μ₁) ds vs.toList := DRs.mono (fun b o q e => by
    have q0 : b ∉ [a] ++ ρ' := fun hm => by
      rcases List.mem_append.mp hm with hm | hm
      · simp at hm; subst hm; exact q.2 ham
      · rcases hρ b hm with hm | hm
        · exact q.1 hm
        · rw [e] at hm; cases hm
    have q1 : okOf ([a] ++ ρ') (μ.set i (a, [])) b := ⟨q0, fun hm => q.2 ((hfs b).mp hm).1⟩
    exact st.ok (ρ := [a] ++ ρ') (fun x hx => List.mem_append_right _ (hoρ x (wrt_own hx))) b o q1 e) h4
  obtain ⟨RR, hok, hft⟩ := R'.thaw hp1 haρ' hoρ hL hd
  refine ⟨_, ⟨st.same, fun b o e hm ho => st.keep b o e (fun hm' => hm ((hfs b).mp hm').1) ho, st.live, ?_, fun b hb => ?_⟩, RR, hok, fun j b e => by rw [root_set hp1]; exact e⟩
  · obtain ⟨r, hr⟩ := st.pre
    refine ⟨r, ?_⟩
    rw [← hr, List.set_append_left _ _ (by simpa using hlt), List.set_set]
    congr 1
    apply List.ext_getElem?
    intro j
    rw [List.getElem?_set]
    split
    · rename_i hij
      subst hij
      first | (rw [if_pos hlt, hp]) | exact hp | (simp [hlt, hp])
    · rfl
  · rcases hft b hb with hm | hm
    · rcases st.new b hm with h | h
      · exact .inl ((hfs b).mp h).1
      · exact .inr h
    · subst hm; exact .inl ham


/-! what may be walked over -/
theorem Itr_list {ax : Addr} {vs : Array Value} {ds : List PyData} {k : Nat} (ga : Ga k A) (hL : s.heap.IsList ax vs) (hds : DRs s.heap (okOf ρ μ) ds vs.toList) (h1 : ax ∉ foot μ) (h2 : ax ∉ own env) :
    Itr X A (own env) μ s.heap (okOf ρ μ) s.heap.objs.size (ds.map .dat) (s.heap.push { cls := .type "list_iterator", data := .fields #[.ref ax, .int 0 0] }) := by
  have ln := hds.length
  rw [Array.length_toList] at ln
  have hne : ax ≠ s.heap.objs.size := by obtain ⟨o, ho, _⟩ := hL; exact Nat.ne_of_lt (Heap.lt_size ho)
  have hW := Walks.list (prog := X.prog) (w := X.w) ga.handled s.heap.objs.size ax hne vs
  rw [ln] at hW
  refine Itr.dat (fresh_size _) (fun _ _ e => Heap.get?_push_of_some _ e) ⟨_, _, _, hW, by simp, fun b hb hbI => ?_, ⟨⟨_, Heap.get?_push_size _ rfl, rfl, rfl⟩, hL.at fun o e => Heap.get?_push_of_some _ e⟩, fun i v hi hv => ?_, fun i h st => ?_⟩
  · simp at hb
    rcases hb with rfl | rfl
    · exact absurd rfl hbI
    · exact ⟨h1, h2, by obtain ⟨o, ho, _⟩ := hL; exact ⟨o, ho⟩⟩
  · obtain ⟨d, hd, hr⟩ := hds.getV (k := i) (v := v) (by rw [Array.getElem?_toList]; exact hv)
    exact ⟨d, hd, hr⟩
  · obtain ⟨o, g1, g2, g3⟩ := st.1
    exact ⟨o, _, _, g1, g2, g3, by decide⟩

theorem Itr_tuple {ax : Addr} {vs : Array Value} {ds : List PyData} {k : Nat} (ga : Ga k A) (hL : s.heap.IsTuple ax vs) (hds : DRs s.heap (okOf ρ μ) ds vs.toList) (h1 : ax ∉ foot μ) (h2 : ax ∉ own env) :
    Itr X A (own env) μ s.heap (okOf ρ μ) s.heap.objs.size (ds.map .dat) (s.heap.push { cls := .type "tuple_iterator", data := .fields #[.ref ax, .int 0 0] }) := by
  have ln := hds.length
  rw [Array.length_toList] at ln
  have hne : ax ≠ s.heap.objs.size := by obtain ⟨o, ho, _⟩ := hL; exact Nat.ne_of_lt (Heap.lt_size ho)
  have hW := Walks.tuple (prog := X.prog) (w := X.w) ga.handled s.heap.objs.size ax hne vs
  rw [ln] at hW
  refine Itr.dat (fresh_size _) (fun _ _ e => Heap.get?_push_of_some _ e) ⟨_, _, _, hW, by simp, fun b hb hbI => ?_, ⟨⟨_, Heap.get?_push_size _ rfl, rfl, rfl⟩, by obtain ⟨o, ho, r⟩ := hL; exact ⟨o, Heap.get?_push_of_some _ ho, r⟩⟩, fun i v hi hv => ?_, fun i h st => ?_⟩
  · simp at hb
    rcases hb with rfl | rfl
    · exact absurd rfl hbI
    · exact ⟨h1, h2, by obtain ⟨o, ho, _⟩ := hL; exact ⟨o, ho⟩⟩
  · obtain ⟨d, hd, hr⟩ := hds.getV (k := i) (v := v) (by rw [Array.getElem?_toList]; exact hv)
    exact ⟨d, hd, hr⟩
  · obtain ⟨o, g1, g2, g3⟩ := st.1
    exact ⟨o, _, _, g1, g2, g3, by decide⟩

theorem asc128 {x : Str} (ha : asc x = true) : x.cps.all (· < 128) = true := by
  rw [← Array.all_toList, List.all_eq_true]
  intro c hc
  have := asc_lt ha c hc
  exact decide_eq_true (by omega)

theorem Itr_str {x : Str} {t : Tok} {k : Nat} (ga : Ga k A) (ha : asc x = true) :
    Itr X A (own env) μ s.heap (okOf ρ μ) s.heap.objs.size ((chars x).map .dat) (s.heap.push { cls := .type "str_ascii_iterator", data := .fields #[.str x t, .int 0 0] }) := by
  have hW := Walks.strAscii (prog := X.prog) (w := X.w) ga.handled s.heap.objs.size x t
  have hlen : x.cps.size = (chars x).length := by simp [chars]
  rw [hlen] at hW
  refine Itr.dat (fresh_size _) (fun _ _ e => Heap.get?_push_of_some _ e) ⟨_, _, _, hW, by simp, fun b hb hbI => ?_, ⟨_, Heap.get?_push_size _ rfl, rfl, rfl⟩, fun i v hi hv => ?_, fun i h st => ?_⟩
  · simp at hb; exact absurd hb hbI
  · obtain ⟨c, u, h1, rfl⟩ := hv
    refine ⟨.str ⟨#[c]⟩, ?_, ?_⟩
    · unfold chars
      rw [List.getElem?_map, Array.getElem?_toList, h1]; rfl
    · simp only [DR]
      refine ⟨?_, u, rfl⟩
      unfold asc at ha ⊢
      rw [List.all_eq_true] at ha
      simp only [List.all_cons, List.all_nil, Bool.and_true]
      exact ha c (mem_of_at h1)
  · obtain ⟨o, g1, g2, g3⟩ := st
    exact ⟨o, _, _, g1, g2, g3, by decide⟩

theorem Itr_range {lo hi : Int} {k : Nat} (ga : Ga k A) :
    Itr X A (own env) μ s.heap (okOf ρ μ) s.heap.objs.size ((intsD lo hi).map .dat) (s.heap.push { cls := .type "range_iterator", data := .fields #[rawInt lo, rawInt (Builtin.Range.rangeSize lo hi 1), rawInt 1] }) := by
  have hW := Walks.range (prog := X.prog) (w := X.w) ga.handled s.heap.objs.size lo 1 (intsD lo hi).length
  refine Itr.dat (fresh_size _) (fun _ _ e => Heap.get?_push_of_some _ e) ⟨_, _, _, hW, by simp, fun b hb hbI => ?_, ?_, fun i v hi hv => ?_, fun i h st => ?_⟩
  · simp at hb; exact absurd hb hbI
  · have : (s.heap.push { cls := .type "range_iterator", data := .fields #[rawInt lo, rawInt (Builtin.Range.rangeSize lo hi 1), rawInt 1] }).get? s.heap.objs.size = _ := Heap.get?_push_size _ rfl
    show IsRangeIter _ _ _ _ _
    unfold IsRangeIter
    rw [this, rangeSize_eq, intsD_length]
    simp
  · obtain ⟨t, rfl⟩ := hv
    refine ⟨.int (lo + i), ?_, by simp only [DR]; exact ⟨t, by simp⟩⟩
    rw [intsD_length] at hi
    unfold intsD
    rw [List.getElem?_map, List.getElem?_range hi]; rfl
  · exact ⟨_, _, _, st, rfl, rfl, by decide⟩


theorem Walk_any {α β : Type} {v : V} {x : Value} {m : List V → M β} {k : Nat} (ga : Ga k A) (T : Value → (α → Shared → Prop) → Shared → Prop) (hT : ∀ it Q Q' s', (∀ y s'', Q y s'' → Q' y s'') → T it Q s' → T it Q' s')
    (G : List Addr → Mu → β → St → α → Shared → Prop)
    (hG : ∀ {ρ : List Addr} {μ : Mu} {σ : St} {i : Nat} {ds : List PyData} {a : Addr}, Rel X ρ μ env σ s.heap → σ.heap[i]? = some (.lst ds) → μ[i]? = some (a, [a]) → ∀ r σ' y s', G ([a] ++ ρ) (μ.set i (a, [])) r σ' y s' → G ρ μ r ⟨σ'.loc, σ'.heap.set i (.lst ds)⟩ y s')
    (hm : ∀ {ρ : List Addr} {μ : Mu} {σ : St}, Rel X ρ μ env σ s.heap → ∀ I ds h₁ tk, Itr X A (own env) μ s.heap (okOf ρ μ) I ds h₁ → ∀ r σ', m ds σ = some (r, σ') → T (.ref I) (G ρ μ r σ') { s with heap := h₁, toks := tk })
    (R : Rel X ρ μ env σ s.heap) (hv : VR s.heap (okOf ρ μ) μ v x) {r : β} {σ' : St} (e : walkV m v σ = some (r, σ')) :
    wpAny (model X.prog X.w) A (pyIter x) (fun it s₂ => T it (G ρ μ r σ') s₂) (fun _ _ => False) s := by
  cases v with
  | dat d =>
    simp only [walkV] at e
    cases hd : itemsD d with
    | some ds =>
      rw [hd] at e
      unfold itemsD at hd
      split at hd
      · cases hd
        simp only [VR, DR] at hv
        obtain ⟨a, o, vs, nn, rfl, ok, h2, h3, h4, h5⟩ := hv
        have hL : s.heap.IsList a vs := ⟨o, h2, h3, nn, h4⟩
        refine wpAny_pyIter_list hL ?_
        exact hm R _ _ _ s.toks (Itr_list ga hL h5 ok.2 (fun hm => ok.1 (R.own _ hm))) r σ' e
      · cases hd
        simp only [VR, DR] at hv
        obtain ⟨a, o, vs, nn, rfl, ok, h2, h3, h4, h5⟩ := hv
        have hL : s.heap.IsTuple a vs := ⟨o, h2, h3, nn, h4⟩
        refine wpAny_pyIter_tuple hL ?_
        exact hm R _ _ _ s.toks (Itr_tuple ga hL h5 ok.2 (fun hm => ok.1 (R.own _ hm))) r σ' e
      · cases hd
        simp only [VR, DR] at hv
        obtain ⟨ha, t, rfl⟩ := hv
        refine wpAny_pyIter_ascii (asc128 ha) ?_
        exact hm R _ _ _ s.toks (Itr_str ga ha) r σ' e
      · cases hd
    | none => rw [hd] at e; cases e
  | rng lo hi =>
    simp only [walkV] at e
    split at e
    · rename_i hs
      obtain ⟨a, t, u, w, rfl, ok, hr⟩ := hv
      refine wpAny_pyIter_range hr (small_range hs).1 ?_
      exact hm R _ _ _ s.toks (Itr_range ga) r σ' e
    · cases e
  | emp => cases e
  | obj i =>
    simp only [walkV, frozenG] at e
    split at e
    · rename_i ds hi
      split at e
      · cases e
      · rename_i f σ2 h2
        cases e
        obtain ⟨p, g1, vs, mm, g2, g3, g4⟩ := R.objs i _ hi
        obtain ⟨a, h1, rfl⟩ := hv
        rw [root_some g1] at h1; cases h1
        have g1' : μ[i]? = some (p.1, [p.1]) := by rw [g1, ← g2]
        have Rf := R.freeze hi g1'
        obtain ⟨q, k1, ws, mm2, k2, k3, k4⟩ := Rf.objs i (.frz ds) (by rw [List.getElem?_set_self (List.getElem?_eq_some_iff.mp hi).1])
        have k1' : (μ.set i (p.1, []))[i]? = some (p.1, []) := by rw [List.getElem?_set_self (List.getElem?_eq_some_iff.mp g1).1]
        rw [k1'] at k1; cases k1
        have hL : s.heap.IsList p.1 ws := ⟨_, k3, rfl, mm2, rfl⟩
        refine wpAny_pyIter_list hL ?_
        refine hT _ _ _ _ (fun y s'' z => hG R hi g1' _ _ _ _ z) (hm Rf _ _ _ s.toks (Itr_list ga hL k4 (Rf.dis _ (by simp)) (Rf.frzOff k3)) _ _ h2)
    · rename_i ds hi
      obtain ⟨p, g1, vs, mm, g2, g3, g4⟩ := R.objs i _ hi
      obtain ⟨a, h1, rfl⟩ := hv
      rw [root_some g1] at h1; cases h1
      have hL : s.heap.IsList p.1 vs := ⟨_, g3, rfl, mm, rfl⟩
      refine wpAny_pyIter_list hL ?_
      exact hm R _ _ _ s.toks (Itr_list ga hL g4 (R.dis _ (R.frz i ds hi _ (root_some g1))) (R.frzOff g3)) _ _ e
    · cases e

/-- for -/
theorem Ex_For {tgt it : Expr} {body : List Stmt} {pos : Pos} {bind : V → M Unit} {mb : M Fl} {mi : M V} (hi : Ev X n env it mi) (hb : As X n env tgt bind) (hB : Exs X n env body mb) (hset : ∀ x, foldedSetIterable it env x = pure x) :
    Ex X n env (.For tgt it body [] pos) (do let v ← mi; forV bind mb v) := by
  intro A ρ μ σ s ga R f σ' e
  refine mbind_elim e fun v σ1 e1 q => ?_
  refine wpAny_For (wpAny_mono (hi A ρ μ σ s ga R v σ1 e1) (fun x s1 z => ?_) fun _ _ z => z) hset
  first | refine post_elim z fun μ1 st1 R1 v1 => ?_ | obtain ⟨μ1, st1, R1, v1⟩ := z
  refine wpAny_mono (Walk_any (α := Flow) ga (fun it Q s' => codeAny (model X.prog X.w) A (.forLoop tgt it body [] env) (fun r s'' => match r with | .ok x => Q x s'' | .error _ => False) s') (fun it Q Q' s' hq z => codeAny_mono z fun r s'' y => ?_)
    (fun ρ μ r σ' => Post X ρ μ env s1 FlR r σ') (fun R hi hp r σ' y s' z => ?_) (fun R I ds h₁ tk itr r σ' e => For_loop hb hB ga R itr e) R1 v1 q) (fun it s2 z => codeAny_mono z fun r s'' y => ?_) fun _ _ z => z
  · cases r with
    | ok x => exact hq _ _ y
    | error x => exact y
  · first | refine post_elim z fun μ2 st2 R2 v2 => ?_ | obtain ⟨μ2, st2, R2, v2⟩ := z
    obtain ⟨μ3, st3, R3, hok, hrt⟩ := thaw_core R hi hp st2 (fun _ h => .inl h) R.own R2
    refine ⟨μ3, st3, R3, ?_⟩
    cases r with
    | ret w => obtain ⟨y', h1, h2⟩ := v2; exact ⟨y', h1, h2.mono hrt fun a o q e => ⟨e, hok a q⟩⟩
    | _ => exact v2
  · cases r with
    | ok x =>
      obtain ⟨μ2, st2, R2, v2⟩ := y
      exact ⟨μ2, st1.trans st2, R2, v2⟩
    | error x => exact y.elim

end
end Mine
end

section
open PySem
set_option Elab.async false
set_option maxRecDepth 10000
namespace Mine

section
variable {X : Cx} {n : Nat} {env : Env} {P : Prm} {A : Around} {ρ : List Addr} {μ μ' : Mu} {σ : St} {s : Shared} {h h' : Heap}

theorem Rel.notIn (R : Rel X ρ μ env σ h) {a : Addr} (hf : h.get? a = none) : a ∉ ρ ∧ a ∉ foot μ := R.okNew hf

/-! the frame of a comprehension -/
noncomputable def clsC (cells : List (Str × Addr)) : List (Str × NameKind) → List (Str × Addr) → List (Str × Addr)
  | [], acc => acc
  | (n, k) :: r, acc => if k == .free then clsC cells r ((n, (cells.lookup n).getD 0) :: acc) else clsC cells r acc

noncomputable def compOk (env : Env) (sc : Scope) : Bool := sc.kind == .function && sc.names.all (fun p => p.2 != .cell && (p.2 != .local || sc.names.lookup p.1 == some .local) &&
  (p.2 != .free || (sc.names.lookup p.1 == some .free && env.kindOf p.1 == some .cell && (env.cells.lookup p.1).isSome))) && decide ((sc.names.map (·.1)).Nodup)

theorem lookup_isSome {l : List (Str × Addr)} {x : Str} (h : x ∈ l.map (·.1)) : (l.lookup x).isSome = true := by
  induction l with
  | nil => simp at h
  | cons p l ih =>
    rw [List.lookup_cons]
    cases q : (x == p.1) with
    | true => rfl
    | false =>
      rw [List.map_cons] at h
      rcases List.mem_cons.mp h with rfl | h
      · simp at q
      · exact ih h

noncomputable def cenvOf (sc : Scope) (C : Addr) (env : Env) : Env := compEnvC sc (clsC env.cells sc.names []) C env

theorem lookup_mem_key {l : List (Str × NameKind)} {x : Str} {k : NameKind} (h : l.lookup x = some k) : (x, k) ∈ l := by
  induction l with
  | nil => simp at h
  | cons p l ih =>
    rw [List.lookup_cons] at h
    cases q : (x == p.1) with
    | true =>
      rw [q] at h; cases h
      have : x = p.1 := by simpa using q
      rw [this]; exact .head _
    | false => rw [q] at h; exact .tail _ (ih h)

end
end Mine
end

section
open PySem
set_option Elab.async false
set_option maxRecDepth 10000
namespace Mine

section
variable {X : Cx} {n : Nat} {env : Env} {P : Prm} {A : Around} {ρ : List Addr} {μ μ' : Mu} {σ : St} {s : Shared} {h h' : Heap}

noncomputable abbrev testsOf (ifs : List Expr) (env : Env) : Sem Bool := forIn ifs true fun c r => if r = true then do let ok ← isTrue c env (eval c env); pure (ForInStep.yield ok) else pure (ForInStep.yield r)

theorem Step.weak {ow : List Addr} {s₁ : Shared} (a : Step [] μ μ' s s₁) : Step ow μ μ' s s₁ := ⟨a.same, fun b o e hm _ => a.keep b o e hm (by simp), a.live, a.pre, a.new⟩


end
end Mine
end

section
open PySem
set_option Elab.async false
set_option maxRecDepth 10000
namespace Mine

section
variable {X : Cx} {n : Nat} {env : Env} {P : Prm} {A : Around} {ρ : List Addr} {μ μ' : Mu} {σ : St} {s : Shared} {h h' : Heap}

theorem Rel.nsNoRoot (R : Rel X ρ μ env σ h) {C : Addr} {m : Str → Option Value} (hn : h.Ns C m) (j : Nat) : root μ j ≠ some C := fun hj => by
  obtain ⟨o, es, ep, h1, h2, _⟩ := hn
  unfold root at hj
  obtain ⟨p, g1, rfl⟩ := Option.map_eq_some_iff.mp hj
  have hlt : j < σ.heap.length := by rw [← R.len]; exact (List.getElem?_eq_some_iff.mp g1).1
  obtain ⟨q, g2, g3⟩ := R.objs j _ (List.getElem?_eq_getElem hlt)
  rw [g1] at g2; cases g2
  generalize σ.heap[j] = ob at g3
  cases ob with
  | lst ds => obtain ⟨vs, n, _, h4, _⟩ := g3; rw [h4] at h1; cases h1; cases h2
  | frz ds => obtain ⟨vs, n, _, h4, _⟩ := g3; rw [h4] at h1; cases h1; cases h2
  | inst l => obtain ⟨d, _, h4, _⟩ := g3; rw [h4] at h1; cases h1; cases h2

end
end Mine
end

section
open PySem
set_option Elab.async false
set_option maxRecDepth 10000
namespace Mine

structure SameEnv (se env : Env) : Prop where
  scope : se.scope = env.scope
  cells : ∀ x, (se.cells.lookup x).isSome = (env.cells.lookup x).isSome
  func : se.func.isSome = env.func.isSome

theorem SameEnv.kindOf {se env : Env} (h : SameEnv se env) (x : Str) : se.kindOf x = env.kindOf x := by unfold Env.kindOf; rw [h.scope]
theorem SameEnv.gKind {se env : Env} (h : SameEnv se env) (x : Str) : Mine.gKind se x = Mine.gKind env x := by unfold Mine.gKind; rw [h.kindOf]
theorem SameEnv.stOk {se env : Env} (h : SameEnv se env) (x : Str) : Mine.stOk se x = Mine.stOk env x := by unfold Mine.stOk; rw [h.kindOf, h.cells, h.func]
theorem SameEnv.typOk {se env : Env} (h : SameEnv se env) (e : Expr) (x : Str) : Mine.typOk se e x = Mine.typOk env e x := by unfold Mine.typOk; rw [h.gKind, h.gKind]
theorem lookup_key {l : List (Str × Addr)} {x : Str} (h : (l.lookup x).isSome = true) : x ∈ l.map (·.1) := by
  obtain ⟨c, hc⟩ := Option.isSome_iff_exists.mp h
  exact List.mem_map.mpr ⟨_, mem_of_lookup hc, rfl⟩
theorem isSome_keys {l k : List (Str × Addr)} (h : l.map (·.1) = k.map (·.1)) (x : Str) : (l.lookup x).isSome = (k.lookup x).isSome := by
  rw [Bool.eq_iff_iff]
  exact ⟨fun q => lookup_isSome (by rw [← h]; exact lookup_key q), fun q => lookup_isSome (by rw [h]; exact lookup_key q)⟩

noncomputable def noSet : Expr → Bool
  | .Set .. => false
  | _ => true
theorem folded_no {e : Expr} {env : Env} (h : noSet e = true) (x : Value) : foldedSetIterable e env x = pure x := by
  cases e <;> first | rfl | cases h

end Mine
end

section
open PySem
set_option Elab.async false
set_option maxRecDepth 10000
namespace Mine

/-! what the nodes compute, as programs of our own -/
noncomputable def thenM (a b : M Fl) : M Fl := do
  let f ← a
  match f with
  | .next => b
  | f => mpure f
noncomputable def endM : M Fl := mpure .next
noncomputable def retM (m : M V) : M Fl := do
  let v ← m
  mpure (.ret v)
noncomputable def exprM (m : M V) : M Fl := do
  let _ ← m
  mpure .next
noncomputable def asgM (x : Str) (m : M V) : M Fl := do
  let v ← m
  setLoc x v
  mpure .next
noncomputable def asgAttrM (o : M V) (name : Str) (m : M V) : M Fl := do
  let v ← m
  (do
    let ov ← o
    setAttrS ov name v)
  mpure .next
noncomputable def two (A B : V → M Unit) : V → M Unit
  | .dat (.tuple [a, b]) => do
    A (.dat a)
    B (.dat b)
  | _ => mfail
noncomputable def asg2M (A B : V → M Unit) (m : M V) : M Fl := do
  let v ← m
  two A B v
  mpure .next
noncomputable def ifM (t : M Bool) (a b : M Fl) : M Fl := do
  let c ← t
  bif c then a else b
noncomputable def forM (bind : V → M Unit) (body : M Fl) (it : M V) : M Fl := do
  let v ← it
  forV bind body v

noncomputable def datM (d : PyData) : M V := mpure (.dat d)
noncomputable def binM (op : Operator) (a b : M V) : M V := do
  let x ← a
  let y ← b
  binS op x y
noncomputable def ifxM (t : M Bool) (a b : M V) : M V := do
  let c ← t
  bif c then a else b
noncomputable def lstM (Q : Prm) (ms : List (M V)) : M V := do
  let ds ← listS Q ms
  mpure (.dat (.list ds))
noncomputable def tupM (Q : Prm) (ms : List (M V)) : M V := do
  let ds ← listS Q ms
  mpure (.dat (.tuple ds))
noncomputable def typM (op : CmpOp) (m : M V) (t : Str) : M V := do
  let v ← m
  let n ← typeN v
  match op with
  | .Is => mpure (.dat (.bool (n = t)))
  | .IsNot => mpure (.dat (.bool !(n = t)))
  | _ => mfail
noncomputable def cmpM (Q : Prm) (op : CmpOp) (a b : M V) : M V := do
  let x ← a
  let y ← b
  cmpS Q op x y
noncomputable def lmM (F : List PyData → List V → Option (PyData × List PyData)) (o : M V) (args : List (M V)) : M V := do
  let ov ← o
  lstG ov
  let vs ← seqS args
  lstF F ov vs
noncomputable def imM (Q : Prm) (o : M V) (name : Str) (args : List (M V)) (kws : List (Str × M V)) : M V := do
  let ov ← o
  instG ov
  let vs ← seqS args
  let ks ← kwS kws
  Q.mt name ov vs ks
noncomputable def mkM (Q : Prm) (ms : List (M V)) : M V := do
  let vs ← seqS ms
  Q.make vs
noncomputable def callM (Q : Prm) (f : Str) (ms : List (M V)) : M V := do
  let vs ← seqS ms
  Q.fn f vs
noncomputable def bltM (F : List V → M V) (ms : List (M V)) : M V := do
  let vs ← seqS ms
  F vs
noncomputable def attrM (o : M V) (name : Str) : M V := do
  let ov ← o
  attrS ov name
noncomputable def itemM (Q : Prm) (o i : M V) : M V := do
  let ov ← o
  let iv ← i
  itemS Q ov iv
noncomputable def sliceM (o : M V) (lo hi : Option (M V)) : M V := do
  let ov ← o
  let a ← optS lo
  let b ← optS hi
  sliceS ov a b
noncomputable def notT (t : M Bool) : M Bool := do
  let b ← t
  mpure (!b)
noncomputable def truT (m : M V) : M Bool := do
  let v ← m
  truthS v
noncomputable def ownLstM (Q : Prm) (ms : List (M V)) : M V := do
  let ds ← listS Q ms
  newObj (.lst ds)
noncomputable def ownListM (m : M V) : M V := do
  let v ← m
  let ds ← listOfS v
  newObj (.lst ds)
noncomputable def ownSliceM (o : M V) (lo hi : Option (M V)) : M V := do
  let ov ← o
  let a ← optS lo
  let b ← optS hi
  let d ← readD ov
  let x ← mopt (boundS a)
  let y ← mopt (boundS b)
  match cutD x y d with
  | some (.list ds) => newObj (.lst ds)
  | _ => mfail

end Mine
end

section
open PySem
set_option Elab.async false
set_option maxRecDepth 10000
namespace Mine

/-! what a text computes, in every frame of its kind -/
noncomputable def EvR (X : Cx) (n : Nat) (se : Env) (e : Expr) (m : M V) : Prop := ∀ env, SameEnv se env → Ev X n env e m
noncomputable def TeR (X : Cx) (n : Nat) (se : Env) (e : Expr) (m : M Bool) : Prop := ∀ env, SameEnv se env → Te X n env e m
noncomputable def EvLR (X : Cx) (n : Nat) (se : Env) (e : List Expr) (m : List (M V)) : Prop := ∀ env, SameEnv se env → EvL X n env e m
noncomputable def TeLR (X : Cx) (n : Nat) (se : Env) (e : List Expr) (m : List (M Bool)) : Prop := ∀ env, SameEnv se env → TeL X n env e m
noncomputable def EvOR (X : Cx) (n : Nat) (se : Env) (e : Option Expr) (m : Option (M V)) : Prop := ∀ env, SameEnv se env → EvO X n env e m
noncomputable def EvKR (X : Cx) (n : Nat) (se : Env) (e : List Keyword) (m : List (Str × M V)) : Prop := ∀ env, SameEnv se env → EvK X n env e m
noncomputable def AsR (X : Cx) (n : Nat) (se : Env) (e : Expr) (m : V → M Unit) : Prop := ∀ env, SameEnv se env → As X n env e m
noncomputable def ExR (X : Cx) (n : Nat) (se : Env) (e : Stmt) (m : M Fl) : Prop := ∀ env, SameEnv se env → Ex X n env e m
noncomputable def ExsR (X : Cx) (n : Nat) (se : Env) (e : List Stmt) (m : M Fl) : Prop := ∀ env, SameEnv se env → Exs X n env e m

section
variable {X : Cx} {n : Nat} {se : Env} {P : Prm} {e l r t b o i : Expr} {es : List Expr} {m a c d : M V} {ms : List (M V)} {pos p q : Pos} {x y f name : Str} {mt mb mc : M Bool}

theorem L_nil : EvLR X n se [] [] := fun _ _ => .nil
theorem L_cons (h : EvR X n se e m) (k : EvLR X n se es ms) : EvLR X n se (e :: es) (m :: ms) := fun v hs => .cons (h v hs) (k v hs)
theorem TL_nil : TeLR X n se [] [] := fun _ _ => .nil
theorem TL_cons {ms : List (M Bool)} (h : TeR X n se e mt) (k : TeLR X n se es ms) : TeLR X n se (e :: es) (mt :: ms) := fun v hs => .cons (h v hs) (k v hs)
theorem OP_none : EvOR X n se none none := fun _ _ => .none
theorem OP_some (h : EvR X n se e m) : EvOR X n se (some e) (some m) := fun v hs => .some (h v hs)
theorem K_nil : EvKR X n se [] [] := fun _ _ => .nil
theorem K_cons {ks : List Keyword} {km : List (Str × M V)} (h : EvR X n se e m) (k : EvKR X n se ks km) : EvKR X n se (⟨some x, e, p⟩ :: ks) ((x, m) :: km) := fun v hs => .cons (h v hs) (k v hs)

theorem D_int {j : Int} {k : Nat} : EvR X n se (.Constant (.int j) k pos) (datM (.int j)) := fun _ _ => Ev_Constant
theorem D_bool {j : Bool} {k : Nat} : EvR X n se (.Constant (.bool j) k pos) (datM (.bool j)) := fun _ _ => Ev_Constant
theorem D_none {k : Nat} : EvR X n se (.Constant .none k pos) (datM .none) := fun _ _ => Ev_Constant
theorem D_str {k : Nat} (h : asc x = true) : EvR X n se (.Constant (.str x) k pos) (datM (.str x)) := fun v hs => by
  have e : constS (.str x) = datM (.str x) := if_pos h
  rw [← e]; exact Ev_Constant
theorem D_name : EvR X n se (.Name x pos) (nameS x) := fun _ _ => Ev_Name
theorem D_bin {op : Operator} (h : EvR X n se l a) (k : EvR X n se r c) : EvR X n se (.BinOp l op r pos) (binM op a c) := fun v hs => Ev_BinOp (h v hs) (k v hs)
theorem D_boolop {op : BoolOp} (h : EvLR X n se es ms) : EvR X n se (.BoolOp op es pos) (boolS op ms) := fun v hs => Ev_BoolOp (h v hs)
theorem D_ifx (h : TeR X n se t mt) (k : EvR X n se b a) (j : EvR X n se o c) : EvR X n se (.IfExp t b o pos) (ifxM mt a c) := fun v hs => Ev_IfExp (h v hs) (k v hs) (j v hs)
theorem D_lst (h : EvLR X n se es ms) (hst : es.all noStar = true) : EvR X n se (.List es pos) (lstM P ms) := fun v hs => Ev_List (h v hs) hst
theorem D_tup {k : Nat} (h : EvLR X n se es ms) (hst : es.all noStar = true) : EvR X n se (.Tuple es k pos) (tupM P ms) := fun v hs => Ev_Tuple (h v hs) hst
theorem O_lst (h : EvLR X n se es ms) (hst : es.all noStar = true) : EvR X n se (.List es pos) (ownLstM P ms) := fun v hs A ρ μ σ s ga R r σ' q => by
  refine mbind_elim q fun ds σ1 e1 q1 => ?_
  cases q1
  exact wpAny_mono (Fl_List (h v hs) hst ga R e1) (fun _ _ f => f.obj) fun _ _ z => z

/-- a comprehension's parts -/
structure CompP (X : Cx) (n : Nat) (se : Env) (elt tgt iter : Expr) (ifs : List Expr) (sc : Scope) (bind : V → M Unit) (tests : List (M Bool)) (me mi : M V) : Prop where
  c : compOk se sc = true
  i : EvR X n se iter mi
  b : AsR X n (cenvOf sc 0 se) tgt bind
  t : TeLR X n (cenvOf sc 0 se) ifs tests
  e : EvR X n (cenvOf sc 0 se) elt me
  s : noSet iter = true
section
variable {elt tgt iter : Expr} {ifs : List Expr} {sc : Scope} {bind : V → M Unit} {tests : List (M Bool)} {me mi : M V}
end

theorem D_cmp (ok : CxOk X) (pok : PrmOk X n P) {op : CmpOp} (h : EvR X (n + 1) se l a) (k : EvR X (n + 1) se r c) (hm : noMark op r = true) : EvR X (n + 1) se (.Compare l [op] [r] pos) (cmpM P op a c) := fun v hs => Ev_Compare ok pok (h v hs) (k v hs) hm
theorem D_item (ok : CxOk X) (pok : PrmOk X n P) (h : EvR X (n + 1) se o a) (k : EvR X (n + 1) se i c) (hm : noSlice i = true) : EvR X (n + 1) se (.Subscript o i pos) (itemM P a c) := fun v hs => Ev_Subscript ok pok (h v hs) (k v hs) hm
theorem D_slice {lo hi : Option Expr} {ml mh : Option (M V)} (h : EvR X n se o a) (k : EvOR X n se lo ml) (j : EvOR X n se hi mh) : EvR X n se (.Subscript o (.Slice lo hi none p) pos) (sliceM a ml mh) := fun v hs => Ev_Slice (h v hs) (k v hs) (j v hs)
theorem O_slice {lo hi : Option Expr} {ml mh : Option (M V)} (h : EvR X n se o a) (k : EvOR X n se lo ml) (j : EvOR X n se hi mh) : EvR X n se (.Subscript o (.Slice lo hi none p) pos) (ownSliceM a ml mh) := fun v hs A ρ μ σ s ga R r σ' q => by
  refine mbind_elim q fun ov σ1 e1 q1 => ?_
  refine mbind_elim q1 fun a σ2 e2 q2 => ?_
  refine mbind_elim q2 fun b σ3 e3 q3 => ?_
  refine mbind_elim q3 fun d σ4 e4 q4 => ?_
  have h4 := readD_state e4; subst h4
  refine mbind_elim q4 fun x σ5 e5 q5 => ?_
  obtain ⟨e5', h5⟩ := mopt_some e5; subst h5
  refine mbind_elim q5 fun y σ6 e6 q6 => ?_
  obtain ⟨e6', h6⟩ := mopt_some e6; subst h6
  cases hcut : cutD x y d with
  | none => rw [hcut] at q6; cases q6
  | some w =>
    rw [hcut] at q6
    cases w with
    | list ds =>
      cases q6
      exact wpAny_mono (Fl_Slice (h v hs) (k v hs) (j v hs) ga R e1 e2 e3 e4 e5' e6' hcut) (fun _ _ f => f.obj) fun _ _ z => z
    | _ => cases q6
theorem D_im (ok : CxOk X) (pok : PrmOk X n P) {ks : List Keyword} {km : List (Str × M V)} (h : EvR X (n + 1) se o a) (k : EvLR X (n + 1) se es ms) (j : EvKR X (n + 1) se ks km) (hm : methOk o es ks p pos = true) :
    EvR X (n + 1) se (.Call (.Attribute o name p) es ks pos) (imM P a name ms km) := fun v hs => Ev_InstM ok pok (h v hs) (k v hs) (j v hs) hm
theorem D_lm {id : String} {F : List PyData → List V → Option (PyData × List PyData)} (hG : LGok X name id) (hF : LMok X id F) (h : EvR X n se o a) (k : EvLR X n se es ms) (hm : methOk o es [] p pos = true) :
    EvR X n se (.Call (.Attribute o name p) es [] pos) (lmM F a ms) := fun v hs => Ev_LstM hG hF (h v hs) (k v hs) hm
theorem D_call (ok : CxOk X) (pok : PrmOk X n P) (h : EvLR X (n + 1) se es ms) (hst : es.all noStar = true) (hk : gKind se f = true) : EvR X (n + 1) se (.Call (.Name f p) es [] pos) (callM P f ms) := fun v hs => Ev_Fn ok pok (h v hs) hst (by rw [← hs.gKind]; exact hk)
theorem D_len (ok : CxOk X) (pok : PrmOk X n P) (h : EvLR X (n + 1) se es ms) (hst : es.all noStar = true) (hk : gKind se (Str.ofString "len") = true) : EvR X (n + 1) se (.Call (.Name (Str.ofString "len") p) es [] pos) (bltM (lenB P) ms) := fun v hs => Ev_BltB ok (val_len ok) (h v hs) hst (by rw [← hs.gKind]; exact hk) fun ga R hv => W_lenB ok pok ga R hv
theorem D_strB (ok : CxOk X) (h : EvLR X (n + 1) se es ms) (hst : es.all noStar = true) (hk : gKind se (Str.ofString "str") = true) : EvR X (n + 1) se (.Call (.Name (Str.ofString "str") p) es [] pos) (bltM strB ms) := fun v hs => Ev_BltT ok (val_str ok) (h v hs) hst (by rw [← hs.gKind]; exact hk) fun ga R hv => W_strB R hv
theorem O_list (ok : CxOk X) (h : EvR X n se e m) (hst : noStar e = true) (hk : gKind se (Str.ofString "list") = true) : EvR X n se (.Call (.Name (Str.ofString "list") p) [e] [] pos) (ownListM m) := fun v hs A ρ μ σ s ga R r σ' q => by
  refine mbind_elim q fun v' σ1 e1 q1 => ?_
  refine mbind_elim q1 fun ds σ2 e2 q2 => ?_
  cases q2
  exact wpAny_mono (Fl_CallList ok (h v hs) hst (by rw [← hs.gKind]; exact hk) ga R e1 e2) (fun _ _ f => f.obj) fun _ _ z => z
theorem D_mk (ok : CxOk X) (pok : PrmOk X n P) (h : EvLR X (n + 1) se es ms) (hst : es.all noStar = true) (hk : gKind se (Str.ofString "Headers") = true) : EvR X (n + 1) se (.Call (.Name (Str.ofString "Headers") p) es [] pos) (mkM P ms) := fun v hs => Ev_Make ok pok (h v hs) hst (by rw [← hs.gKind]; exact hk)
theorem D_attr (ok : CxOk X) : EvR X n se (.Attribute (.Name x p) name pos) (attrM (nameS x) name) := fun _ _ => Ev_Attr ok

/-! tests -/
theorem T_cmp (ok : CxOk X) (pok : PrmOk X n P) {op : CmpOp} (h : EvR X (n + 1) se l a) (k : EvR X (n + 1) se r c) (hm : noMark op r = true) : TeR X (n + 1) se (.Compare l [op] [r] pos) (truT (cmpM P op a c)) := fun v hs => Te_Compare ok pok (h v hs) (k v hs) hm
theorem T_typ (ok : CxOk X) {op : CmpOp} {tp cp : Pos} (h : EvR X n se e m) (hc : typOk se e x = true) : TeR X n se (.Compare (.Call (.Name (Str.ofString "type") p) [e] [] pos) [op] [.Name x tp] cp) (truT (typM op m x)) := fun v hs => Te_Typ ok (h v hs) (by rw [← hs.typOk]; exact hc)
theorem T_plain (h : EvR X n se e m) (hp : plainTest e = true) : TeR X n se e (truT m) := fun v hs => Te_plain hp (h v hs)
theorem T_not (h : TeR X n se e mt) : TeR X n se (.UnaryOp .Not e pos) (notT mt) := fun v hs => Te_Not (h v hs)
theorem T_bool {op : BoolOp} {ms : List (M Bool)} (h : TeLR X n se es ms) : TeR X n se (.BoolOp op es pos) (allTS op ms) := fun v hs => Te_BoolOp (h v hs)

/-! targets -/
theorem A_name (hk : stOk se x = true) : AsR X n se (.Name x p) (setLoc x) := fun v hs => As_Name (by rw [← hs.stOk]; exact hk)
theorem A_two {k : Nat} {A B : V → M Unit} (h : AsR X n se t A) (j : AsR X n se b B) (hst : (noStar t && noStar b) = true) : AsR X n se (.Tuple [t, b] k p) (two A B) := fun v hs => by
  have q := As_Tuple (k := k) (p := p) (h v hs) (j v hs) hst
  intro A' ρ μ σ s v z ga R hv
  have q := q A' ρ μ σ s v z ga R hv
  cases v with
  | dat d =>
    cases d with
    | tuple l =>
      match l, q with
      | [a, b], q => exact q
      | [], q => exact q
      | [_], q => exact q
      | _ :: _ :: _ :: _, q => exact q
    | _ => exact q
  | _ => exact q

/-! statements -/
theorem X_expr (h : EvR X n se e m) (hc : noComp e = true) : ExR X n se (.Expr e pos) (exprM m) := fun v hs => Ex_Expr (h v hs) hc
theorem X_ret (h : EvR X n se e m) : ExR X n se (.Return (some e) pos) (retM m) := fun v hs => Ex_Return (h v hs)
theorem X_fail {st : Stmt} : ExR X n se st mfail := fun v hs A ρ μ σ s ga R r σ' q => by cases q
theorem X_asg (h : EvR X n se e m) (hk : stOk se x = true) (hc : noComp e = true) : ExR X n se (.Assign [.Name x p] e pos) (asgM x m) := fun v hs =>
  Ex_Assign (h v hs) (A_name hk v hs) rfl (swaps_no hc _ _) (swapped_no rfl)
theorem X_asgAttr (ok : CxOk X) (h : EvR X n se e m) (k : EvR X n se o a) (hc : noComp e = true) : ExR X n se (.Assign [.Attribute o name p] e pos) (asgAttrM a name m) := fun v hs =>
  Ex_Assign (h v hs) (As_Attr ok (k v hs)) rfl (swaps_no hc _ _) (swapped_no rfl)
theorem X_asg2 {k : Nat} {A B : V → M Unit} (h : EvR X n se e m) (j : AsR X n se t A) (g : AsR X n se b B) (hst : (noStar t && noStar b) = true) (hc : noComp e = true) (hw : swq (.Tuple [t, b] k p) e = true) : ExR X n se (.Assign [.Tuple [t, b] k p] e pos) (asg2M A B m) := fun v hs =>
  Ex_Assign (h v hs) (A_two j g hst v hs) rfl (swaps_no hc _ _) (swapped_no hw)
theorem X_if {ts fs : List Stmt} {mT mF : M Fl} (h : TeR X n se t mt) (k : ExsR X n se ts mT) (j : ExsR X n se fs mF) : ExR X n se (.If t ts fs pos) (ifM mt mT mF) := fun v hs => Ex_If (h v hs) (k v hs) (j v hs)
theorem X_while {ts : List Stmt} {mT : M Fl} {k : Nat} (h : TeR X n se t mt) (j : ExsR X n se ts mT) : ExR X n se (.While t ts [] pos) (whileS mt mT k) := fun v hs => Ex_While (h v hs) (j v hs) k
theorem X_for {ts : List Stmt} {mT : M Fl} {bind : V → M Unit} (h : EvR X n se e m) (k : AsR X n se t bind) (j : ExsR X n se ts mT) (hs' : noSet e = true) : ExR X n se (.For t e ts [] pos) (forM bind mT m) := fun v hs => Ex_For (h v hs) (k v hs) (j v hs) (folded_no hs')
theorem S_nil : ExsR X n se [] endM := fun _ _ => Exs_nil
theorem S_cons {st : Stmt} {rs : List Stmt} {mS mR : M Fl} (h : ExR X n se st mS) (k : ExsR X n se rs mR) : ExsR X n se (st :: rs) (thenM mS mR) := fun v hs => Exs_cons (h v hs) (k v hs)
end
end Mine
end

section
open PySem
set_option Elab.async false
set_option maxRecDepth 10000
namespace Mine

section
variable {X : Cx} {n : Nat} {se : Env} {P : Prm} {e t b : Expr} {m : M V} {pos p q : Pos} {x y : Str}

end
end Mine
end

section
open PySem
set_option Elab.async false
set_option maxRecDepth 10000
namespace Mine

theorem cellsFrom_keys : ∀ {names : List (Str × NameKind)} {k : Nat} {acc : List (Str × Addr)}, (cellsFrom k names acc).map (·.1) = ((names.filter (·.2 == .cell)).map (·.1)).reverse ++ acc.map (·.1)
  | [], _, _ => rfl
  | (nm, kd) :: r, k, acc => by
    unfold cellsFrom
    cases hk : (kd == NameKind.cell) with
    | true => simp only [hk, if_true, List.filter_cons, List.map_cons, List.reverse_cons]; rw [cellsFrom_keys]; simp
    | false => simp only [hk, Bool.false_eq_true, if_false, List.filter_cons]; exact cellsFrom_keys

theorem lookup_of_mem {l : List (Str × Addr)} (hn : (l.map (·.1)).Nodup) {x : Str} {c : Addr} (hm : (x, c) ∈ l) : l.lookup x = some c := by
  induction l with
  | nil => cases hm
  | cons p l ih =>
    rw [List.map_cons, List.nodup_cons] at hn
    rw [List.lookup_cons]
    rcases List.mem_cons.mp hm with e | hm
    · subst e; simp
    · have : (x == p.1) = false := by
        rw [Bool.eq_false_iff]; intro q
        have q := beq_iff_eq.mp q
        exact hn.1 (q ▸ List.mem_map.mpr ⟨_, hm, rfl⟩)
      rw [this]; exact ih hn.2 hm

theorem bindL_miss {k : Str → Option NameKind} : ∀ {binds : List (Str × Value)} {m : Str → Option Value} {x : Str}, x ∉ binds.map (·.1) → bindL k binds m x = m x
  | [], _, _, _ => rfl
  | (nm, v) :: r, m, x, h => by
    rw [List.map_cons, List.mem_cons, not_or] at h
    unfold bindL
    rw [bindL_miss h.2]
    split
    · exact if_neg h.1
    · rfl
theorem bindC_miss {k : Str → Option NameKind} : ∀ {binds : List (Str × Value)} {m : Str → Option Value} {x : Str}, x ∉ binds.map (·.1) → bindC k binds m x = m x
  | [], _, _, _ => rfl
  | (nm, v) :: r, m, x, h => by
    rw [List.map_cons, List.mem_cons, not_or] at h
    unfold bindC
    rw [bindC_miss h.2]
    split
    · rfl
    · exact if_neg h.1
theorem bindL_get {k : Str → Option NameKind} {x : Str} {val : Value} (hk : k x = some .local) : ∀ {binds : List (Str × Value)} {m : Str → Option Value}, (binds.map (·.1)).Nodup → binds.lookup x = some val → bindL k binds m x = some val
  | [], _, _, h => by simp at h
  | (nm, v) :: r, m, hn, h => by
    rw [List.map_cons, List.nodup_cons] at hn
    rw [List.lookup_cons] at h
    unfold bindL
    cases q : (x == nm) with
    | true =>
      rw [q] at h; cases h
      have q := beq_iff_eq.mp q
      subst q
      rw [bindL_miss hn.1, if_pos hk]; simp
    | false => rw [q] at h; exact bindL_get hk hn.2 h
theorem bindC_get {k : Str → Option NameKind} {x : Str} {val : Value} (hk : k x ≠ some .local) : ∀ {binds : List (Str × Value)} {m : Str → Option Value}, (binds.map (·.1)).Nodup → binds.lookup x = some val → bindC k binds m x = some val
  | [], _, _, h => by simp at h
  | (nm, v) :: r, m, hn, h => by
    rw [List.map_cons, List.nodup_cons] at hn
    rw [List.lookup_cons] at h
    unfold bindC
    cases q : (x == nm) with
    | true =>
      rw [q] at h; cases h
      have q := beq_iff_eq.mp q
      subst q
      rw [bindC_miss hn.1, if_neg hk]; simp
    | false => rw [q] at h; exact bindC_get hk hn.2 h

/-- names with values, abstract and real -/
theorem zip_val {h : Heap} {ok : Addr → Prop} {μ : Mu} {x : Str} {v : V} : ∀ {ps : List Str} {vs : List V} {xs : List Value}, VRl h ok μ vs xs → bindP ps vs x = some v → ∃ val, (ps.zip xs).lookup x = some val ∧ VR h ok μ v val
  | [], _, _, _, e => by simp [bindP] at e
  | p :: ps, [], _, _, e => by simp [bindP] at e
  | p :: ps, w :: vs, _, hv, e => by
    obtain ⟨y, r, rfl, h1, h2⟩ := hv
    unfold bindP at e
    rw [List.zip_cons_cons, List.lookup_cons] at e ⊢
    cases q : (x == p) with
    | true => rw [q] at e; cases e; exact ⟨y, rfl, h1⟩
    | false => rw [q] at e; exact zip_val h2 e

structure FnOk (X : Cx) (f : Addr) (fd : FuncData) (body : List Stmt) (ps : List Str) : Prop where
  at_ : ∃ o, X.base.get? f = some o ∧ o.data = .func fd
  code : X.base.CodeRec fd.code fd.qualname
  body : fd.body = .stmts body
  clo : fd.closure = []
  glob : fd.globals = mainGlobals
  blt : fd.builtins = builtinsNs
  kind : fd.scope.kind = .function
  co : fd.scope.isCoroutine = false
  gen : fd.scope.isGenerator = false
  nod : (fd.scope.names.map (·.1)).Nodup
  pnod : ps.Nodup
  pk : ∀ p ∈ ps, fd.scope.names.lookup p = some .local ∨ fd.scope.names.lookup p = some .cell

noncomputable def fnEnv (sc : Scope) : Env := { scope := sc, locals := 0, globals := 0, cells := cellsFrom 0 sc.names [], func := some 0 }

theorem fnEnv_same (fd : FuncData) (L a : Addr) : SameEnv (fnEnv fd.scope) (callEnvC fd L a) :=
  ⟨rfl, isSome_keys (by show (cellsFrom 0 fd.scope.names []).map (·.1) = (cellsFrom (L + 1) fd.scope.names []).map (·.1); rw [cellsFrom_keys, cellsFrom_keys]), rfl⟩

section
variable {X : Cx} {n : Nat} {env : Env} {P : Prm} {A : Around} {ρ : List Addr} {μ μ' : Mu} {σ : St} {s : Shared} {h h' : Heap}

theorem Rel.cellNoRoot (R : Rel X ρ μ env σ h) {C : Addr} {v : Option Value} (hn : h.IsCell C v) (j : Nat) : root μ j ≠ some C := fun hj => by
  obtain ⟨o, h1, h2⟩ := hn
  unfold root at hj
  obtain ⟨p, g1, rfl⟩ := Option.map_eq_some_iff.mp hj
  have hlt : j < σ.heap.length := by rw [← R.len]; exact (List.getElem?_eq_some_iff.mp g1).1
  obtain ⟨q, g2, g3⟩ := R.objs j _ (List.getElem?_eq_getElem hlt)
  rw [g1] at g2; cases g2
  generalize σ.heap[j] = ob at g3
  cases ob with
  | lst ds => obtain ⟨vs, n, _, h4, _⟩ := g3; rw [h4] at h1; cases h1; cases h2
  | frz ds => obtain ⟨vs, n, _, h4, _⟩ := g3; rw [h4] at h1; cases h1; cases h2
  | inst l => obtain ⟨d, _, h4, _⟩ := g3; rw [h4] at h1; cases h1; cases h2

theorem Step.transG {wr : List Addr} {s₁ s₂ : Shared} (a : Step [] μ μ s s₁) (b : Step wr μ μ' s₁ s₂) (hf : ∀ x ∈ wr, s.heap.get? x = none) : Step [] μ μ' s s₂ := by
  obtain ⟨h1, t1, e1⟩ := a.same
  obtain ⟨h2, t2, e2⟩ := b.same
  refine ⟨⟨h2, t2, by rw [e2, e1]⟩, fun x o e hm ho => ?_, fun x o e => ?_, b.pre, fun x hx => ?_⟩
  · refine b.keep x o (a.keep x o e hm ho) hm fun hw => ?_
    rw [hf x hw] at e; cases e
  · obtain ⟨o1, q⟩ := a.live x o e
    exact b.live x o1 q
  · rcases b.new x hx with h | h
    · exact .inl h
    · right
      cases q : s.heap.get? x with
      | none => rfl
      | some o =>
        obtain ⟨o1, q1⟩ := a.live x o q
        rw [h] at q1; cases q1

noncomputable def flowV : Flow → Value
  | .ret v => v
  | _ => .none

theorem FlR.val {ok : Addr → Prop} {fl : Fl} {x : Flow} (v2 : FlR h ok μ fl x) : VR h ok μ (retV fl) (flowV x) := by
  cases fl with
  | ret v => obtain ⟨y, h1, hy⟩ := v2; subst h1; exact hy
  | next => have h1 : x = Flow.next := v2; subst h1; simp only [VR, DR, retV, flowV]
  | brk => have h1 : x = Flow.brk := v2; subst h1; simp only [VR, DR, retV, flowV]
  | cont => have h1 : x = Flow.cont := v2; subst h1; simp only [VR, DR, retV, flowV]

set_option maxHeartbeats 1000000 in
/-- a def is entered -/
theorem Call_in (ok : CxOk X) {f : Addr} {fd : FuncData} {body : List Stmt} {ps : List Str} {mb : M Fl} (fo : FnOk X f fd body ps) (hB : ∀ env', SameEnv (fnEnv fd.scope) env' → Exs X (n + 1) env' body mb) (ga : Ga (n + 2) A) (R : Rel X ρ μ env σ s.heap)
    {vs : List V} {ys : List Value} (hv : VRl s.heap (okOf ρ μ) μ vs ys) {r : V} {σ' : St} (e : callB ps mb vs σ = some (r, σ')) {E : Value → Shared → Prop} :
    wpAny (model X.prog X.w) A.in1 (newFunctionEnv fd.scope fd.globals fd.closure (ps.zip ys) (fd.qualname ++ ".<locals>.") (some f) fd.code none fd.builtins)
      (fun ev s₂ => s₂.heap.NoLimit ∧ codeAny (model X.prog X.w) A (.func body ev) (fun q s' => match q with | .ok (.ret v) => Post X ρ μ env s VRr r σ' v s' | .ok _ => False | .error _ => False) s₂) E s := by
  unfold callB at e
  split at e
  · rename_i hlen
    cases hbody : mb ⟨bindP ps vs, σ.heap⟩ with
    | none => rw [hbody] at e; cases e
    | some p =>
      obtain ⟨fl, σ2⟩ := p
      rw [hbody] at e
      have hyl := hv.length
      have hzk : (ps.zip ys).map (·.1) = ps := by
        rw [List.map_fst_zip]
        omega
      rw [fo.clo]
      have hkeys : ∀ k, ((cellsFrom k fd.scope.names []).map (·.1)).Nodup := fun k => by
        rw [cellsFrom_keys]
        simp only [List.map_nil, List.append_nil]
        refine List.pairwise_reverse.mpr (List.Pairwise.imp (fun hh => Ne.symm hh) ?_)
        exact List.Nodup.sublist (List.Sublist.map _ List.filter_sublist) fo.nod
      have hcellin : ∀ k x, fd.scope.names.lookup x = some .cell → ((cellsFrom k fd.scope.names []).lookup x).isSome = true := fun k x hx => lookup_isSome (by
        rw [cellsFrom_keys]
        simp only [List.map_nil, List.append_nil, List.mem_reverse, List.mem_map, List.mem_filter]
        exact ⟨(x, .cell), ⟨lookup_mem_key hx, rfl⟩, rfl⟩)
      refine wpAny_newFunctionEnv_cells fo.kind (fun p hp => ?_) fun env' he' s₁ ic => ?_
      · have hp1 : p.1 ∈ ps := by rw [← hzk]; exact List.mem_map.mpr ⟨p, hp, rfl⟩
        rcases fo.pk p.1 hp1 with h | h
        · exact .inl h
        · exact .inr ⟨h, hcellin _ _ h⟩
      · have he'' : env' = callEnvC fd s.heap.objs.size f := he'
        refine ⟨(ok.nolimit.keeps R.base).keeps ic.toInCall.keep, codeAny_func ?_⟩
        have hEs : SameEnv (fnEnv fd.scope) env' := by rw [he'']; exact fnEnv_same fd _ _
        have hkd : env'.scope = fd.scope := by rw [he'']; rfl
        have hloc : env'.locals = s.heap.objs.size := by rw [he'']; rfl
        have hcls : env'.cells = cellsFrom (s.heap.objs.size + 1) fd.scope.names [] := by rw [he'']; rfl
        have hfr : ∀ b ∈ own env', s.heap.get? b = none := fun b hb' => by
          have hge : s.heap.objs.size ≤ b := by
            rcases List.mem_cons.mp hb' with rfl | hb'
            · exact Nat.le_of_eq hloc.symm
            · obtain ⟨⟨nm, c⟩, h1, rfl⟩ := List.mem_map.mp hb'
              have := ic.above nm c h1
              rw [hloc] at this
              exact Nat.le_of_lt this
          cases q : s.heap.get? b with
          | none => rfl
          | some o => exact absurd (Heap.lt_size q) (Nat.not_lt.mpr hge)
        have hcellsIs : ∀ nm c, (nm, c) ∈ env'.cells → ∃ v, s₁.heap.IsCell c v := fun nm c hm => ⟨_, ic.cell nm c (lookup_of_mem (by rw [hcls]; exact hkeys _) hm)⟩
        have F' : FrameR env' s₁.heap (bindL env'.kindOf (ps.zip ys) fun _ => none) (bindC env'.kindOf (ps.zip ys) fun _ => none) :=
          ⟨by rw [hkd]; exact fo.kind, by rw [he'']; exact fo.glob, by rw [he'']; exact fo.blt, ic.toInCall.ns, ic.cell, hcellsIs, ic.apart⟩
        have hlv : ∀ b ∈ own env', ∃ o, s₁.heap.get? b = some o := fun b hb' => by
          rcases List.mem_cons.mp hb' with rfl | hb'
          · obtain ⟨o, _, _, q, _⟩ := F'.ns; exact ⟨o, q⟩
          · obtain ⟨⟨nm, c⟩, h1, rfl⟩ := List.mem_map.mp hb'
            obtain ⟨v, o, q, _⟩ := hcellsIs nm c h1
            exact ⟨o, q⟩
        obtain ⟨hh, tk, rfl⟩ := ic.toInCall.same
        have Rr : Rel X (own env' ++ ρ) μ env σ hh := Rel.reserve (R.ext ic.toInCall.keep) (h₂ := s.heap) hfr R ic.toInCall.keep hlv
        have Rc : Rel X (own env' ++ ρ) μ env' ⟨bindP ps vs, σ.heap⟩ hh := by
          refine Rr.reframe (fun b hb' => List.mem_append_left _ hb') ?_ ⟨_, _, F', fun x v ev => ?_⟩
          · rw [hloc]
            have h1 := R.above
            obtain ⟨m, cm, F, _⟩ := R.frame
            obtain ⟨o, _, _, q, _⟩ := F.ns
            exact Nat.le_of_lt (Nat.lt_of_le_of_lt h1 (Heap.lt_size q))
          · obtain ⟨val, g1, g2⟩ := zip_val hv ev
            have hxp : x ∈ ps := by rw [← hzk]; exact List.mem_map.mpr ⟨_, mem_of_lookup g1, rfl⟩
            refine ⟨val, ?_, g2.mono (fun _ _ e => e) fun a o q e => ⟨ic.toInCall.keep a o e, fun hm => ?_, q.2⟩⟩
            · have hkx : env'.kindOf x = fd.scope.names.lookup x := by unfold Env.kindOf; rw [hkd]
              unfold valOf
              rcases fo.pk x hxp with h | h
              · rw [hkx, h]
                exact bindL_get (by rw [hkx, h]) (by rw [hzk]; exact fo.pnod) g1
              · rw [hkx, h]
                simp only [hcls, hcellin _ x h, if_true]
                exact bindC_get (by rw [hkx, h]; decide) (by rw [hzk]; exact fo.pnod) g1
            · rcases List.mem_append.mp hm with hm | hm
              · rw [hfr a hm] at e; cases e
              · exact q.1 hm
        have st₁ : Step [] μ μ s { s with heap := hh, toks := tk } := .grow ic.toInCall.keep
        refine wpAny_mono (hB env' hEs (A.deeper env') _ μ ⟨bindP ps vs, σ.heap⟩ { s with heap := hh, toks := tk } ga.deeper Rc fl σ2 hbody) (fun x s' z => ?_) fun _ _ z => z.elim
        first | refine post_elim z fun μ2 st2 R2 v2 => ?_ | obtain ⟨μ2, st2, R2, v2⟩ := z
        have hwf : ∀ b ∈ wrt env', s.heap.get? b = none := fun b hb' => hfr b (wrt_own hb')
        have stG := st₁.transG st2 hwf
        -- the value
        have hval := FlR.val v2
        have hout : ∀ b ∈ own env', b ∉ ρ := fun b hb' => (R.notIn (hfr b hb')).1
        have hframe : ∀ {μ3 : Mu}, μ <+: μ3 → (∀ b ∈ foot μ3, b ∈ foot μ ∨ s.heap.get? b = none) → ∃ m cm, FrameR env s'.heap m cm ∧ ∀ x v, σ.loc x = some v → ∃ val, valOf env m cm x = some val ∧ VR s'.heap (okOf (own env' ++ ρ) μ3) μ3 v val := by
          intro μ3 pre hnew
          obtain ⟨m, cm, F, l⟩ := R.frame
          refine ⟨m, cm, F.at fun b hb' o q => stG.keep b o q (R.dis b (R.own b hb')) (by simp), fun x v ev => ?_⟩
          obtain ⟨val, q1, q2⟩ := l x v ev
          refine ⟨val, q1, q2.mono (fun _ _ => root_prefix pre) fun a o q e => ⟨stG.keep a o e q.2 (by simp), fun hm => ?_, fun hm => ?_⟩⟩
          · rcases List.mem_append.mp hm with hm | hm
            · rw [hfr a hm] at e; cases e
            · exact q.1 hm
          · rcases hnew a hm with hm | hm
            · exact q.2 hm
            · rw [e] at hm; cases hm
        have hnoR : ∀ {μ3 : Mu} {σ3 : St}, Rel X (own env' ++ ρ) μ3 env' σ3 s'.heap → ∀ a ∈ own env', ∀ j, root μ3 j ≠ some a := fun R3 a ha j => by
          obtain ⟨m, cm, F3, _⟩ := R3.frame
          rcases List.mem_cons.mp ha with rfl | ha
          · exact R3.nsNoRoot F3.ns j
          · obtain ⟨⟨nm, c⟩, h1, rfl⟩ := List.mem_map.mp ha
            obtain ⟨v, q⟩ := F3.cells nm c h1
            exact R3.cellNoRoot q j
        have okdown : ∀ {μ3 : Mu} a o, okOf (own env' ++ ρ) μ3 a → s'.heap.get? a = some o → s'.heap.get? a = some o ∧ okOf ρ μ3 a := fun a o q e => ⟨e, fun hm => q.1 (List.mem_append_right _ hm), q.2⟩
        dsimp only at e
        split at e
        · rename_i σ3 hc
          cases e
          have hokv : okV σ.heap.length (retV fl) = true := by
            cases q : okV σ.heap.length (retV fl) with
            | true => rfl
            | false => rw [q] at hc; cases hc
          rw [hokv, if_pos rfl] at hc
          rw [← R.len] at hokv hc
          have R3 := R2.cut st2.pre hc
          have R4 : Rel X (own env' ++ ρ) μ env ⟨σ.loc, σ3.heap⟩ s'.heap := R3.reframe (fun b hb' => List.mem_append_right _ (R.own b hb')) R.above (hframe (List.prefix_refl _) fun _ h => .inl h)
          have fin : Post X ρ μ env s VRr (retV fl) ⟨σ.loc, σ3.heap⟩ (flowV x) s' := ⟨μ, stG.cut.weak, R4.leave R.own hout (hnoR R3) fun _ _ _ e => e, (hval.cut st2.pre hokv).mono (fun _ _ e => e) okdown⟩
          cases x <;> exact fin
        · cases e
          have R4 : Rel X (own env' ++ ρ) μ2 env ⟨σ.loc, σ2.heap⟩ s'.heap := R2.reframe (fun b hb' => List.mem_append_right _ (R.own b hb')) R.above (hframe st2.pre fun b hb' => stG.new b hb')
          have fin : Post X ρ μ env s VRr (retV fl) ⟨σ.loc, σ2.heap⟩ (flowV x) s' := ⟨μ2, stG.weak, R4.leave R.own hout (hnoR R2) fun _ _ _ e => e, hval.mono (fun _ _ e => e) okdown⟩
          cases x <;> exact fin
  · cases e


/-- how the arguments come to the names: things may be laid down for it -/
noncomputable def Binds (X : Cx) (ρ : List Addr) (μ : Mu) (s : Shared) (fd : FuncData) (args : Args) (ps : List Str) (vs : List V) : Prop :=
  ∀ (A : Around) (E : Value → Shared → Prop) (Q : List (Str × Value) → Shared → Prop), (∀ (h : Heap) (tk : Nat) (ys : List Value), (∀ b o, s.heap.get? b = some o → h.get? b = some o) → VRl h (okOf ρ μ) μ vs ys → Q (ps.zip ys) { s with heap := h, toks := tk }) →
    wpAny (model X.prog X.w) A (bindArgs fd args) Q E s
theorem Binds.of {fd : FuncData} {args : Args} {ps : List Str} {vs : List V} {ys : List Value} (hv : VRl s.heap (okOf ρ μ) μ vs ys) (hb : BindsTo s fd args (ps.zip ys)) : Binds X ρ μ s fd args ps vs :=
  fun A E Q hq => hb _ _ _ _ (hq s.heap s.toks ys (fun _ _ e => e) hv)

/-- a def is called -/
theorem Call_code (ok : CxOk X) {f : Addr} {fd : FuncData} {body : List Stmt} {ps : List Str} {mb : M Fl} (fo : FnOk X f fd body ps) (hB : ∀ env', SameEnv (fnEnv fd.scope) env' → Exs X (n + 1) env' body mb) (ga : Ga (n + 2) A) (R : Rel X ρ μ env σ s.heap)
    {vs : List V} {xs : List Value} {kx : List (Str × Value)} (hb : Binds X ρ μ s fd ⟨xs, kx⟩ ps vs) :
    ∀ r σ', callB ps mb vs σ = some (r, σ') → codeAny (model X.prog X.w) A (.call (.ref f) ⟨xs, kx⟩) (fun q s' => match q with | .ok (.ret v) => Post X ρ μ env s VRr r σ' v s' | .ok _ => False | .error _ => False) s := by
  intro r σ' e
  obtain ⟨o, ho, hd⟩ := fo.at_
  refine codeAny_call_function ga.room (R.base f o ho) hd fo.co fo.gen fo.body (fo.code.keeps R.base) (hb _ _ _ fun h tk ys hk hv => ?_)
  refine wpAny_mono (Call_in (s := { s with heap := h, toks := tk }) ok fo hB ga (R.ext hk) hv e) (fun ev s₂ z => ⟨z.1, codeAny_mono z.2 fun q s' y => ?_⟩) fun _ _ z => z
  cases q with
  | ok x =>
    cases x with
    | ret v => exact post_up (.grow hk) y
    | _ => exact y
  | error x => exact y

theorem Call_body (ok : CxOk X) {f : Addr} {fd : FuncData} {body : List Stmt} {ps : List Str} {mb : M Fl} (fo : FnOk X f fd body ps) (hB : ∀ env', SameEnv (fnEnv fd.scope) env' → Exs X (n + 1) env' body mb) (ga : Ga (n + 2) A) (R : Rel X ρ μ env σ s.heap)
    {vs : List V} {xs : List Value} {kx : List (Str × Value)} (hb : Binds X ρ μ s fd ⟨xs, kx⟩ ps vs) : W X A ρ μ env s VRr (call (.ref f) xs kx) (callB ps mb vs σ) :=
  fun r σ' e => wpAny_call (codeAny_mono (Call_code ok fo hB ga R hb r σ' e) fun q s' z => by
    cases q with
    | ok x => cases x <;> exact z
    | error x => exact z)

end
end Mine
end

section
open PySem
set_option Elab.async false
set_option maxRecDepth 100000
namespace Mine

theorem slot_search : Slot "re.Pattern" "search" "re.Pattern.search" :=
  .of (owner := "re.Pattern") (n := "search") (by rw [typeLookup_type, builtinLookup_eq_fast]; kernel_rfl) (by decide +kernel) (by decide +kernel) (by decide +kernel)
    (by first | exact .inl (by decide +kernel) | exact .inr (by decide +kernel)) (by rw [isSubtype_type]; kernel_rfl)
theorem type_search : typeOf (.builtin "re.Pattern.search") = pure (.type "method_descriptor") := by show builtinType _ = _; rw [builtinType_eq_fast]; kernel_rfl
theorem entry_search : entryFor table "re.Pattern.search" = some Builtin.«re.Pattern.search» := entryFor_of_tree (by kernel_rfl)
theorem plain_pattern : PlainAttrs "re.Pattern" :=
  ⟨⟨"object.__getattribute__", by rw [typeLookup_type, builtinLookup_eq_fast]; kernel_rfl, by decide +kernel⟩, by rw [typeLookup_type, builtinLookup_eq_fast]; kernel_rfl⟩
theorem args_search (a b : Value) : argsOk "re.Pattern.search" ⟨[a, b], []⟩ := by
  unfold argsOk; kernel_rfl


/-! the machine on printable text -/
open PySem.Sre

noncomputable def codeOk (code : Array Nat) : Prop := (∀ c seen, 32 ≤ c → c < 127 → ∃ seen', inSet code c code.size 5 true seen = .ok (false, seen')) ∧ (∀ m : Sre.M, m.code = code → m.hasFirstSet = true)

theorem admitted_none {m : Sre.M} (hc : ∀ c seen, 32 ≤ c → c < 127 → ∃ seen', inSet m.code c m.code.size 5 true seen = .ok (false, seen')) (ht : ∀ i, i < m.lim → 32 ≤ m.text.getD i 0 ∧ m.text.getD i 0 < 127) :
    ∀ (fuel s : Nat) (seen : Seen), ∃ seen', Sre.M.admitted m fuel s seen = .ok (none, seen')
  | 0, s, seen => ⟨seen, rfl⟩
  | fuel + 1, s, seen => by
    unfold Sre.M.admitted
    split
    · exact ⟨seen, rfl⟩
    · rename_i hs
      obtain ⟨h1, h2⟩ := ht s (by omega)
      obtain ⟨seen', e⟩ := hc _ seen h1 h2
      rw [e]
      exact admitted_none hc ht fuel (s + 1) seen'

theorem attempt_none {m : Sre.M} (hf : m.hasFirstSet = true) (hc : ∀ c seen, 32 ≤ c → c < 127 → ∃ seen', inSet m.code c m.code.size 5 true seen = .ok (false, seen')) (ht : ∀ i, i < m.lim → 32 ≤ m.text.getD i 0 ∧ m.text.getD i 0 < 127) (k : Nat) (first : Bool) :
    ∃ seen', m.attemptFrom k first = ({ m with seen := seen' } : Sre.M).say false := by
  unfold Sre.M.attemptFrom
  rw [hf]
  simp only [Bool.not_true, Bool.false_eq_true, if_false]
  obtain ⟨seen', e⟩ := admitted_none hc ht (m.lim + 1 - k) k m.seen
  rw [e]
  exact ⟨seen', rfl⟩

theorem search_said {code text : Array Nat} {groups : Nat} (hc : codeOk code) (ht : ∀ c ∈ text.toList, 32 ≤ c ∧ c < 127) :
    (forSearch code text groups 0 text.size false).answer = some false ∧ (forSearch code text groups 0 text.size false).frames = [] ∧ (forSearch code text groups 0 text.size false).outcome = none := by
  have ht' : ∀ i, i < text.size → 32 ≤ text.getD i 0 ∧ text.getD i 0 < 127 := fun i hi => by
    have : text.getD i 0 = text[i] := by simp [Array.getD, hi]
    rw [this]
    exact ht _ (by simp)
  unfold forSearch
  dsimp only
  split
  · exact ⟨rfl, rfl, rfl⟩
  · generalize hm : Sre.M.attemptFrom _ 0 true = m
    obtain ⟨seen', e⟩ : ∃ seen', m = _ := by
      rw [← hm]
      exact attempt_none (hc.2 _ rfl) hc.1 ht' 0 true
    rw [e]
    exact ⟨rfl, rfl, rfl⟩

theorem search_run {code text : Array Nat} {groups : Nat} (hc : codeOk code) (ht : ∀ c ∈ text.toList, 32 ≤ c ∧ c < 127) : ((forSearch code text groups 0 text.size false).runFor Builtin.Re.reTurnSteps).outcome = some .failed := by
  obtain ⟨h1, h2, h3⟩ := search_said (groups := groups) hc ht
  generalize forSearch code text groups 0 text.size false = m at h1 h2 h3
  unfold Builtin.Re.reTurnSteps
  unfold Sre.M.runFor
  rw [h3]
  simp only [Option.isSome_none, Bool.false_eq_true, if_false]
  have hs : m.step = { m with outcome := some .failed } := by
    unfold Sre.M.step
    rw [h1, h2, h3]
    simp
  rw [hs]
  unfold Sre.M.runFor
  simp

theorem wp_drive {M : Model} {A : Around} {E : Value → Shared → Prop} {s : Shared} {m : Sre.M} {Q : Option Sre.M → Shared → Prop} (hm : (m.runFor Builtin.Re.reTurnSteps).outcome = some .failed) (hq : Q none s) : wpAny M A (Builtin.Re.reRunToEnd m) Q E s := by
  unfold Builtin.Re.reRunToEnd
  have e1 : Builtin.Re.reDrive (2 ^ 64) m = pure (m.runFor Builtin.Re.reTurnSteps) := by
    show Builtin.Re.reDrive (18446744073709551615 + 1) m = _
    rw [Builtin.Re.reDrive]
    simp only [hm, Option.isSome_some, if_true]
  rw [e1]
  refine wpAny_bind (wpAny_pure ?_)
  generalize m.runFor Builtin.Re.reTurnSteps = m' at hm
  have loop : ∀ (l : List Nat) (Q' : PUnit → Shared → Prop), Q' ⟨⟩ s → wpAny M A (forIn l PUnit.unit fun i _ => if m'.seen.has i = true then do rule (Sre.names.getD i ""); pure (ForInStep.yield PUnit.unit) else pure (ForInStep.yield PUnit.unit)) Q' E s := by
    intro l
    induction l with
    | nil => intro Q' h; exact wpAny_pure h
    | cons i l ih =>
      intro Q' h
      rw [List.forIn_cons]
      split
      · exact wpAny_bind (wpAny_bind (wpAny_rule (wpAny_pure (ih Q' h))))
      · exact wpAny_bind (wpAny_pure (ih Q' h))
  refine wpAny_bind (loop _ _ ?_)
  rw [hm]
  exact wpAny_pure hq

end Mine
end

section
open PySem
set_option Elab.async false
set_option maxRecDepth 100000
namespace Mine
open PySem.Sre

theorem named_search (v : Value) : Builtin.Re.reNamed "re.Pattern.search" "search" ["string", "pos", "endpos"] 1 [v] [] = pure [some v, none, none] := by kernel_rfl

noncomputable def patObj (pat fl : Value) (c : Addr) : Obj := { cls := .type "re.Pattern", data := .fields #[pat, fl, .int 0 0, .none, .none, .ref c, .int 0 0] }

theorem call_search {prog : Program} {w : World} {A : Around} {E : Value → Shared → Prop} {s : Shared} {p c : Addr} {pat fl : Value} {cv : Array Value} {k : Nat} {oc : Obj} {x : Str} {t : Tok} {Q : Value → Shared → Prop} (hp : s.heap.get? p = some (patObj pat fl c)) (hc : s.heap.get? c = some oc) (hcd : oc.data = .seq cv k)
    (hok : codeOk ((cv.map Builtin.Re.reRawOf).map (·.toNat))) (ha : asc x = true) (hl : x.cps.size ≤ big) (hq : Q .none s) : wpAny (model prog w) A (call (.builtin "re.Pattern.search") [.ref p, .str x t]) Q E s := by
  refine wpAny_call_entry slot_search ⟨_, hp, rfl⟩ entry_search ?_ (args_search _ _)
  unfold Builtin.«re.Pattern.search» Builtin.Re.reTarget
  refine wpAny_bind ?_
  dsimp only
  rw [named_search]
  refine wpAny_bind (wpAny_pure ?_)
  refine wpAny_bind (wpAny_pure ?_)
  refine wpAny_bind (wpAny_pure ?_)
  refine wpAny_bind (wpAny_fieldsOf hp rfl ?_)
  unfold Builtin.Re.reTextOf
  refine wpAny_bind ?_
  refine wpAny_bind (m := asStr? (.str x t)) (wpAny_pure ?_)
  refine wpAny_pure ?_
  rw [if_neg (show ¬ (_ = true) from by show ¬ ((0 == 0 && 0 == 1) = true); decide), if_neg (show ¬ (_ = true) from by show ¬ ((0 == 1 && 0 == 0) = true); decide)]
  refine wpAny_bind (m := Builtin.Re.reNoCollectionInside (.str x t) 0) (wpAny_pure ?_)
  unfold Builtin.Re.reRawItems
  refine wpAny_bind (wpAny_bind (wpAny_seqItems hc hcd (wpAny_pure (wpAny_pure ?_))))
  unfold Builtin.Re.reAnswer
  have h1 : min (2 ^ 63 - 1 : Int).toNat x.cps.size = x.cps.size := by unfold big at hl; omega
  show wpAny _ _ (Builtin.Re.reRunToEnd (forSearch ((cv.map Builtin.Re.reRawOf).map (·.toNat)) x.cps 0 (min (Int.toNat 0) x.cps.size) (min (2 ^ 63 - 1 : Int).toNat x.cps.size) false) >>= _) _ _ _
  rw [h1, show min (Int.toNat 0) x.cps.size = 0 by simp]
  refine wpAny_bind (wp_drive (search_run hok (asc_lt ha)) ?_)
  exact wpAny_pure ⟨.none, rfl, hq⟩

theorem bits_ok : ∀ c, c < 127 → 32 ≤ c → (c < 256 && (Nat.testBit (([4294966783, 0, 0, 2147483648, 0, 0, 0, 0] : List Nat).getD (c / 32) 0) (c % 32))) = false := by decide +kernel

noncomputable def code1 : Array Nat := #[14, 10, 4, 1, 1, 22, 0, 31, 16, 127, 0, 13, 7, 22, 0, 31, 16, 127, 0, 1]
noncomputable def code2 : Array Nat := #[14, 14, 4, 1, 1, 9, 4294966783, 0, 0, 2147483648, 0, 0, 0, 0, 0, 13, 11, 9, 4294966783, 0, 0, 2147483648, 0, 0, 0, 0, 0, 1]

theorem code1_ok : codeOk code1 := by
  refine ⟨fun c seen h1 h2 => ?_, fun m hm => by unfold Sre.M.hasFirstSet; rw [hm]; decide⟩
  have e : inSet code1 c code1.size 5 true seen = inSet code1 c 19 8 true (seen.add 22) := by
    show inSet code1 c (19 + 1) 5 true seen = _
    rw [inSet]
    show (if ((0 : Nat) ≤ c && c ≤ 31) = true then _ else _) = _
    rw [if_neg (by simp; omega)]; rfl
  rw [e]
  have e : inSet code1 c (18 + 1) 8 true (seen.add 22) = inSet code1 c 18 10 true ((seen.add 22).add 16) := by
    rw [inSet]
    show (if (c == 127) = true then _ else _) = _
    rw [if_neg (by simp; omega)]; rfl
  rw [e]
  exact ⟨_, rfl⟩

theorem code2_ok : codeOk code2 := by
  refine ⟨fun c seen h1 h2 => ?_, fun m hm => by unfold Sre.M.hasFirstSet; rw [hm]; decide⟩
  have hb := bits_ok c h2 h1
  have e : inSet code2 c code2.size 5 true seen = inSet code2 c 27 14 true (seen.add 9) := by
    show inSet code2 c (27 + 1) 5 true seen = _
    rw [inSet]
    show (if (c < 256 && (code2.getD (5 + (1 + c / 32)) 0).testBit (c % 32)) = true then _ else _) = _
    have hw : code2.getD (5 + (1 + c / 32)) 0 = ([4294966783, 0, 0, 2147483648, 0, 0, 0, 0] : List Nat).getD (c / 32) 0 := by
      have hlt : c / 32 < 4 := by omega
      generalize c / 32 = q at hlt
      match q, hlt with
      | 0, _ => rfl
      | 1, _ => rfl
      | 2, _ => rfl
      | 3, _ => rfl
    rw [hw, hb]; rfl
  rw [e]
  exact ⟨_, rfl⟩

end Mine
end

section
open PySem
set_option Elab.async false
set_option maxRecDepth 10000
namespace Mine

noncomputable def PatOk (X : Cx) (nm : Str) : Prop := ∃ p c pat fl cv k oc, X.mg nm = some (.ref p) ∧ X.base.get? p = some (patObj pat fl c) ∧ X.base.get? c = some oc ∧ oc.data = .seq cv k ∧ codeOk ((cv.map Builtin.Re.reRawOf).map (·.toNat))

noncomputable def sValue : Str := Str.ofString "value"
noncomputable def sName : Str := Str.ofString "name"
noncomputable def sRegex : Str := Str.ofString "regex"

noncomputable def convM : M Fl := fun σ => match σ.loc sValue, σ.loc sName with
  | some (.dat (.str x)), some (.dat (.bool _)) => if x.length ≤ big then some (.ret (.dat (.str x)), ⟨fun y => if y = sRegex then none else σ.loc y, σ.heap⟩) else none
  | _, _ => none

section
variable {X : Cx} {n : Nat} {env : Env} {P : Prm} {A : Around} {ρ : List Addr} {μ μ' : Mu} {σ : St} {s : Shared} {h h' : Heap}

theorem nameS_at {x : Str} {v : V} (hx : x ≠ dbg) (e : σ.loc x = some v) : nameS x σ = some (v, σ) := by
  unfold nameS; rw [if_neg hx]; unfold getLoc; rw [e]; rfl

theorem Exs_conv (ok : CxOk X) (h1 : PatOk X (Str.ofString "_name_disallowed_re")) (h2 : PatOk X (Str.ofString "_value_disallowed_re")) (hk : env.kindOf sRegex = some .local) (hty : typOk env (.Name sValue p2) (Str.ofString "str") = true)
    (hg1 : gKind env (Str.ofString "_name_disallowed_re") = true) (hg2 : gKind env (Str.ofString "_value_disallowed_re") = true) {p1 p3 p4 p5 p6 p7 p8 p9 p10 p11 p12 p13 p14 p15 p16 p17 p18 p19 : Pos} {r1 r2 : List Stmt} (hpos : p13.endLine = p15.line) :
    Exs X n env (.If (.Compare (.Call (.Name (Str.ofString "type") p1) [.Name sValue p2] [] p3) [.Is] [.Name (Str.ofString "str") p4] p5)
      [.Assign [.Name sRegex p6] (.IfExp (.Name sName p7) (.Name (Str.ofString "_name_disallowed_re") p8) (.Name (Str.ofString "_value_disallowed_re") p9) p10) p11,
       .If (.Call (.Attribute (.Name sRegex p12) (Str.ofString "search") p13) [.Name sValue p14] [] p15) r1 [] p16, .Return (some (.Name sValue p17)) p18] [] p19 :: r2) convM := by
  intro A ρ μ σ s ga R f σ' e
  unfold convM at e
  split at e
  · rename_i x b hv hn
    split at e
    · rename_i hl
      cases e
      have nv : nameS sValue σ = some (.dat (.str x), σ) := nameS_at (by decide) hv
      have nn : nameS sName σ = some (.dat (.bool b), σ) := nameS_at (by decide) hn
      refine wpAny_execs_cons (wpAny_If ?_)
      have q1 : (do let v ← typS .Is (nameS sValue) (Str.ofString "str"); truthS v) σ = some (true, σ) := by
        show mbind (mbind (nameS sValue) _) _ σ = _
        unfold mbind
        rw [nv]
        rfl
      refine wpAny_mono (Te_Typ ok Ev_Name hty A ρ μ σ s ga R true σ q1) (fun c s1 z => ?_) fun _ _ z => z
      obtain ⟨μ1, st1, R1, rfl⟩ := z
      rw [if_pos rfl]
      -- the pattern is chosen
      have hpat : ∃ p, wpAny (model X.prog X.w) A (eval (.IfExp (.Name sName p7) (.Name (Str.ofString "_name_disallowed_re") p8) (.Name (Str.ofString "_value_disallowed_re") p9) p10) env) (fun y s2 => y = .ref p ∧ ∃ μ2, Step (wrt env) μ1 μ2 s1 s2 ∧ Rel X ρ μ2 env σ s2.heap) (fun _ _ => False) s1 ∧
          ∃ c pat fl cv k oc, X.base.get? p = some (patObj pat fl c) ∧ X.base.get? c = some oc ∧ oc.data = .seq cv k ∧ codeOk ((cv.map Builtin.Re.reRawOf).map (·.toNat)) := by
        have q2 : (do let v ← nameS sName; truthS v) σ = some (b, σ) := by
          show mbind (nameS sName) _ σ = _
          unfold mbind
          rw [nn]
          rfl
        cases b with
        | true =>
          obtain ⟨p, c, pat, fl, cv, k, oc, g1, g2, g3, g4, g5⟩ := h1
          refine ⟨p, ?_, c, pat, fl, cv, k, oc, g2, g3, g4, g5⟩
          rw [arm_eval_IfExp]
          refine wpAny_bind (wpAny_mono (Te_plain (X := X) (n := n) rfl Ev_Name A ρ μ1 σ s1 ga R1 true σ q2) (fun c s2 z => ?_) fun _ _ z => z)
          obtain ⟨μ2, st2, R2, rfl⟩ := z
          rw [if_pos rfl]
          exact Name_glob ok R2 hg1 (by unfold gval; rw [g1]) ⟨rfl, μ2, st2, R2⟩
        | false =>
          obtain ⟨p, c, pat, fl, cv, k, oc, g1, g2, g3, g4, g5⟩ := h2
          refine ⟨p, ?_, c, pat, fl, cv, k, oc, g2, g3, g4, g5⟩
          rw [arm_eval_IfExp]
          refine wpAny_bind (wpAny_mono (Te_plain (X := X) (n := n) rfl Ev_Name A ρ μ1 σ s1 ga R1 false σ q2) (fun c s2 z => ?_) fun _ _ z => z)
          obtain ⟨μ2, st2, R2, rfl⟩ := z
          rw [if_neg (by decide)]
          exact Name_glob ok R2 hg2 (by unfold gval; rw [g1]) ⟨rfl, μ2, st2, R2⟩
      obtain ⟨p, hev, c, pat, fl, cv, k, oc, g2, g3, g4, g5⟩ := hpat
      refine wpAny_execs_cons (wpAny_Assign_Name (wpAny_mono hev (fun y s2 z => ?_) fun _ _ z => z))
      obtain ⟨rfl, μ2, st2, R2⟩ := z
      obtain ⟨m, cm, F, l⟩ := R2.frame
      refine wpAny_storeName_local hk F.ns (fun h3 hns hsb => ?_) (by rw [F.kind]; rfl)
      have hlv : ∃ o, h3.get? env.locals = some o := by obtain ⟨o, _, _, q, _⟩ := hns; exact ⟨o, q⟩
      have F3 : FrameR env h3 (fun z => if z = sRegex then some (.ref p) else m z) cm := ⟨F.kind, F.globals, F.builtins, hns, fun nm c e => IsCell.keep hsb (cells_ne_locals F ⟨nm, mem_of_lookup e⟩) (F.cell nm c e), fun nm c e => by
        obtain ⟨w, q⟩ := F.cells nm c e; exact ⟨w, IsCell.keep hsb (cells_ne_locals F ⟨nm, e⟩) q⟩, F.apart⟩
      have R3 : Rel X ρ μ2 env ⟨fun y => if y = sRegex then none else σ.loc y, σ.heap⟩ h3 := R2.store (.head _) hsb hlv ⟨_, cm, F3, fun z w ew => by
        split at ew
        · cases ew
        · rename_i hz
          obtain ⟨val, q1, q2⟩ := l z w ew
          refine ⟨val, ?_, q2⟩
          unfold valOf at q1 ⊢
          split at q1
          · simp only [if_neg hz]; exact q1
          · exact q1
          · cases q1⟩
      have st3 : Step (wrt env) μ2 μ2 s2 { s2 with heap := h3, toks := s2.toks + 1 } := .store (.head _) hsb hlv
      have stA := (st1.trans st2).trans st3
      refine wpAny_execs_cons (wpAny_If ?_)
      rw [isTrue_plainE rfl]
      have hv3 : (fun y => if y = sRegex then none else σ.loc y) sValue = some (.dat (.str x)) := by
        show (if sValue = sRegex then none else σ.loc sValue) = _
        rw [if_neg (by decide)]; exact hv
      have nv3 : nameS sValue ⟨fun y => if y = sRegex then none else σ.loc y, σ.heap⟩ = some (.dat (.str x), ⟨fun y => if y = sRegex then none else σ.loc y, σ.heap⟩) := nameS_at (by decide) hv3
      have hp3 : h3.get? p = some (patObj pat fl c) := R3.base p _ g2
      refine wpAny_bind ?_
      rw [arm_eval_Call, attributeBase_plain rfl]
      refine wpAny_bind (wpAny_Name (wpAny_loadName_local F.kind hk hns (v := .ref p) (by simp) ?_) (by decide))
      refine wpAny_bind (wpAny_standAt ?_)
      unfold methodCall
      rw [form_true (X := X) (n := n) (es := [.Name sValue p14]) rfl .nil (by show 1 + 0 < 20; decide)]
      refine wpAny_bind (wpAny_holding ?_)
      refine getMethod_builtin (T := "re.Pattern") (name := Str.ofString "search") (id := "re.Pattern.search") ⟨_, hp3, rfl⟩ plain_pattern slot_search type_search (fun a ea => by cases ea; exact ⟨_, hp3, rfl⟩) ?_
      have hpp : methodCallPos true (.Name sRegex p12) env p13 p15 = pure p15 := by
        unfold methodCallPos
        rw [if_pos (by simp [hpos])]
      show wpAny _ _ (methodCallPos true (.Name sRegex p12) env p13 p15 >>= _) _ _ _
      rw [hpp]
      refine wpAny_bind (wpAny_pure ?_)
      refine Calls.callWith_builtin (star_any (es := [.Name sValue p14]) rfl) ?_
      have sq : seqS [nameS sValue] ⟨fun y => if y = sRegex then none else σ.loc y, σ.heap⟩ = some ([.dat (.str x)], ⟨fun y => if y = sRegex then none else σ.loc y, σ.heap⟩) := by
        show mbind (nameS sValue) _ _ = _
        unfold mbind
        rw [nv3]; rfl
      refine wpAny_mono (W_args (X := X) (n := n) (ks := []) (EvL.cons Ev_Name .nil) rfl .nil ga (s := { s2 with heap := h3, toks := s2.toks + 1 }) R3 sq rfl) (fun ar s4 z => ?_) fun _ _ z => z
      obtain ⟨μ4, st4, R4, ⟨y, rr, v1, v2, v3⟩, k4⟩ := z
      rw [show ar.kw = [] from k4, v1, show rr = [] from v3]
      have v2' : DR _ _ _ _ := v2
      simp only [DR] at v2'
      obtain ⟨ha, t, rfl⟩ := v2'
      refine call_search (R4.base p _ g2) (R4.base c _ g3) g4 g5 ha hl ?_
      refine wpAny_bind (wpAny_standAt (wpAny_holding (PyProof.Rows.truthy_none ?_)))
      rw [if_neg (by decide)]
      refine wpAny_execs_nil ?_
      refine wpAny_execs_cons (wpAny_Return_some (wpAny_mono (Ev_Name (X := X) (n := n) A ρ μ4 _ s4 ga R4 _ _ nv3) (fun y s5 z => ?_) fun _ _ z => z))
      first | refine post_elim z fun μ5 st5 R5 v5 => ?_ | obtain ⟨μ5, st5, R5, v5⟩ := z
      exact ⟨μ5, (stA.trans st4).trans st5, R5, y, rfl, v5⟩
    · cases e
  · cases e

end
end Mine
end

section
open PySem
set_option Elab.async false
set_option maxRecDepth 10000
namespace Mine

noncomputable def makeM (initM : V → List V → M V) (vs : List V) : M V := do
  let i ← newObj (.inst none)
  let r ← initM i vs
  match r with
  | .dat .none => mpure i
  | _ => mfail

section
variable {X : Cx} {n : Nat} {env : Env} {P : Prm} {A : Around} {ρ : List Addr} {μ μ' : Mu} {σ : St} {s : Shared} {h h' : Heap}

theorem Ga.under (C : Addr) (rest : List Value) (kw : List (Str × Value)) (ga : Ga (n + 1) A) : Ga n (A.under (.builtin "type.__call__" ⟨.ref C :: rest, kw⟩)) :=
  ⟨ga.handled, by have := ga.depth; rw [W.depth_under_kw]; omega, by
    have := ga.units
    have e : (A.under (.builtin "type.__call__" ⟨.ref C :: rest, kw⟩)).units = A.units + 1 := rfl
    rw [e]; omega⟩

theorem W_make (ok : CxOk X) (hm : W.makesIn X.K X.C = true) {fI : Addr} (hi : W.findIn X.K (.ref X.C) "__init__" = some (some (.ref fI))) (hf : W.typeIn X.K (.ref fI) = some (.type "function")) {initM : V → List V → M V}
    (hI : ∀ (env : Env) A ρ μ σ s self x vs xs, Ga n A → Rel X ρ μ env σ s.heap → VR s.heap (okOf ρ μ) μ self x → VRl s.heap (okOf ρ μ) μ vs xs → ∀ r σ', initM self vs σ = some (r, σ') →
      codeAny (model X.prog X.w) A (.call (.ref fI) ⟨x :: xs, []⟩) (fun q s' => match q with | .ok (.ret v) => Post X ρ μ env s VRr r σ' v s' | .ok _ => False | .error _ => False) s)
    (ga : Ga (n + 1) A) (R : Rel X ρ μ env σ s.heap) {vs : List V} {xs : List Value} (hv : VRl s.heap (okOf ρ μ) μ vs xs) : W X A ρ μ env s VRr (call (.ref X.C) xs []) (makeM initM vs σ) := by
  intro r σ' e
  unfold makeM at e
  refine mbind_elim e fun i σ1 e1 q => ?_
  refine mbind_elim q fun rv σ2 e2 q2 => ?_
  have hr : rv = .dat .none ∧ r = i ∧ σ' = σ2 := by
    split at q2
    · cases q2; exact ⟨rfl, rfl, rfl⟩
    · cases q2
  obtain ⟨rfl, rfl, rfl⟩ := hr
  cases e1
  obtain ⟨hh, g, d, t, os⟩ := s
  have K : X.K.In hh := R.kin ok
  refine wpAny_call (W.make_core (W.makes_of K hm) (W.looks_findIn K hi) (fun self => W.bind_fn K self hf) (.inl rfl) ?_)
  have k1 : ∀ b o, hh.get? b = some o → ((hh.push W.emptyDict).push (W.instObj X.C hh.objs.size)).get? b = some o := fun b o e => Heap.get?_push_of_some _ (Heap.get?_push_of_some _ e)
  have hD : ((hh.push W.emptyDict).push (W.instObj X.C hh.objs.size)).get? hh.objs.size = some W.emptyDict := Heap.get?_push_of_some _ (Heap.get?_push_size _ rfl)
  have hx : ((hh.push W.emptyDict).push (W.instObj X.C hh.objs.size)).get? (hh.objs.size + 1) = some (W.instObj X.C hh.objs.size) := by
    have := Heap.get?_push_size (o := W.instObj X.C hh.objs.size) (hh.push W.emptyDict) rfl
    rwa [Heap.size_push] at this
  have fresh : ∀ b, hh.objs.size ≤ b → hh.get? b = none := fun b hb => by
    cases q : hh.get? b with
    | none => rfl
    | some o => exact absurd (Heap.lt_size q) (Nat.not_lt.mpr hb)
  have hfp : ∀ b ∈ [hh.objs.size + 1, hh.objs.size], hh.get? b = none := fun b hb => by
    simp only [List.mem_cons, List.not_mem_nil, or_false] at hb
    rcases hb with rfl | rfl
    · exact fresh _ (Nat.le_succ _)
    · exact fresh _ (Nat.le_refl _)
  have R1 : Rel X ρ (μ ++ [(hh.objs.size + 1, [hh.objs.size + 1, hh.objs.size])]) env ⟨σ.loc, σ.heap ++ [.inst none]⟩ ((hh.push W.emptyDict).push (W.instObj X.C hh.objs.size)) := by
    refine R.newObj hfp ?_ (fun _ q => nomatch q) k1 (fun b hb => ?_) ⟨hh.objs.size, rfl, hx, hD⟩
    · simp
    · simp only [List.mem_cons, List.not_mem_nil, or_false] at hb
      rcases hb with rfl | rfl
      · exact ⟨_, hx⟩
      · exact ⟨_, hD⟩
  have st1 : Step (wrt env) μ (μ ++ [(hh.objs.size + 1, [hh.objs.size + 1, hh.objs.size])]) ⟨hh, g, d, t, os⟩ ⟨(hh.push W.emptyDict).push (W.instObj X.C hh.objs.size), g, d, t, os⟩ :=
    Step.newObj (s := ⟨hh, g, d, t, os⟩) (tk := t) hfp k1
  have hself : VR ((hh.push W.emptyDict).push (W.instObj X.C hh.objs.size)) (okOf ρ (μ ++ [(hh.objs.size + 1, [hh.objs.size + 1, hh.objs.size])])) (μ ++ [(hh.objs.size + 1, [hh.objs.size + 1, hh.objs.size])]) (.obj σ.heap.length) (.ref (hh.objs.size + 1)) :=
    ⟨_, by rw [← R.len]; exact root_last, rfl⟩
  have hv1 := VRl.step R st1 hv
  refine codeAny_mono (hI env _ ρ _ _ ⟨(hh.push W.emptyDict).push (W.instObj X.C hh.objs.size), g, d, t, os⟩ _ _ vs xs (ga.under _ _ _) R1 hself hv1 _ _ e2) fun q s' z => ?_
  cases q with
  | error x => exact z
  | ok x =>
    cases x with
    | ret v =>
      first | refine post_elim z fun μ2 st2 R2 v2 => ?_ | obtain ⟨μ2, st2, R2, v2⟩ := z
      have v2' : DR _ _ _ _ := v2
      simp only [DR] at v2'
      subst v2'
      refine ⟨rfl, μ2, st1.trans st2, R2, ?_⟩
      obtain ⟨a, h1, h2⟩ := hself
      exact ⟨a, root_prefix st2.pre h1, h2⟩
    | _ => exact z

end
end Mine
end

section
open PySem
set_option Elab.async false
set_option maxRecDepth 10000
namespace Mine

noncomputable def fdOf (K : W.Frag) (a : Addr) : FuncData := match K.lookup a with
  | some ⟨_, _, .func fd, _⟩ => fd
  | _ => default
noncomputable def bodyOf (fd : FuncData) : List Stmt := match fd.body with
  | .stmts b => b
  | _ => []
noncomputable def codeChk (K : W.Frag) (fd : FuncData) : Bool := match fd.code with
  | .ref c => (match K.lookup c with
    | some ⟨_, _, .fields vs, _⟩ => (match (vs[1]? : Option Value) with | some (.str q _) => q == fd.qualname | _ => false)
    | _ => false)
  | _ => false
noncomputable def fnChk (K : W.Frag) (f : Addr) (ps : List Str) : Bool := match K.lookup f with
  | some ⟨_, _, .func fd, _⟩ => (match fd.body with | .stmts _ => true | _ => false) && fd.closure.isEmpty && fd.globals == mainGlobals && fd.builtins == builtinsNs && fd.scope.kind == .function && !fd.scope.isCoroutine && !fd.scope.isGenerator &&
      decide ((fd.scope.names.map (·.1)).Nodup) && decide ps.Nodup && ps.all (fun p => fd.scope.names.lookup p == some .local || fd.scope.names.lookup p == some .cell) && codeChk K fd
  | _ => false

theorem codeChk_ok {K : W.Frag} {h : Heap} {fd : FuncData} (hK : K.In h) (e : codeChk K fd = true) : h.CodeRec fd.code fd.qualname := by
  unfold codeChk at e
  split at e
  · rename_i c hc
    split at e
    · rename_i cl dd vs sl hl
      split at e
      · rename_i q t hq
        exact ⟨c, _, vs, t, hc, hK _ _ hl, rfl, by rw [hq, beq_iff_eq.mp e]⟩
      · cases e
    · cases e
  · cases e

theorem fnOk_of {X : Cx} {f : Addr} {ps : List Str} (ok : CxOk X) (e : fnChk X.K f ps = true) : FnOk X f (fdOf X.K f) (bodyOf (fdOf X.K f)) ps := by
  unfold fnChk at e
  split at e
  · rename_i cl dd fd sl hl
    have hfd : fdOf X.K f = fd := by unfold fdOf; rw [hl]
    rw [hfd]
    simp only [Bool.and_eq_true, beq_iff_eq, Bool.not_eq_true', decide_eq_true_eq, List.isEmpty_iff, List.all_eq_true, Bool.or_eq_true] at e
    obtain ⟨⟨⟨⟨⟨⟨⟨⟨⟨⟨h1, h2⟩, h3⟩, h4⟩, h5⟩, h6⟩, h7⟩, h8⟩, h9⟩, h10⟩, h11⟩ := e
    refine ⟨⟨_, ok.kin _ _ hl, rfl⟩, codeChk_ok ok.kin h11, ?_, h2, h3, h4, h5, h6, h7, h8, h9, h10⟩
    unfold bodyOf
    cases hb : fd.body with
    | stmts b => rfl
    | expr b => rw [hb] at h1; cases h1
  · cases e

/-! the methods and defs of a program -/
structure Info where
  f : Addr
  ps : List Str
  dflt : List Const
  den : Prm → M Fl

noncomputable def constV : Const → V
  | .bool b => .dat (.bool b)
  | .int i => .dat (.int i)
  | .str _ => .emp
  | _ => .dat .none

/-- a last parameter that takes the keywords: it cannot be given by place -/
noncomputable def kwD : List Const → Bool
  | [.str _] => true
  | _ => false

/-- the values behind the given ones -/
noncomputable def fill (i : Info) (vs : List V) : List V := if kwD i.dflt && vs.length == i.ps.length then [] else vs ++ (i.dflt.drop (i.dflt.length - (i.ps.length - vs.length))).map constV

noncomputable def runI (P : Prm) (i : Info) (vs : List V) : M V := callB i.ps (i.den P) (fill i vs)

noncomputable def sConv : Str := Str.ofString "_convert_string_type"
noncomputable def sSelf : Str := Str.ofString "self"
noncomputable def convP (self : V) (vs : List V) (ks : List (Str × V)) : M V := match vs, ks with
  | [v], [(k, b)] => if k = sName then callB [sSelf, sValue, sName] convM [self, v, b] else mfail
  | _, _ => mfail

structure Tab where
  mt : Str → Option Info
  fn : Str → Option Info
  init : Info
  fuel : Nat

noncomputable def prm (T : Tab) : Nat → Prm
  | 0 => ⟨fun _ _ => mfail, fun _ _ _ _ => mfail, fun _ => mfail, T.fuel⟩
  | k + 1 => ⟨fun name vs => match T.fn name with
      | some i => runI (prm T k) i vs
      | none => mfail,
    fun name self vs ks => if name = sConv then convP self vs ks else match T.mt name with
      | some i => if ks.isEmpty then runI (prm T k) i (self :: vs) else mfail
      | none => mfail,
    fun vs => makeM (fun self ws => runI (prm T k) T.init (self :: ws)) vs, T.fuel⟩

end Mine
end

section
open PySem
set_option Elab.async false
set_option maxRecDepth 10000
namespace Mine

noncomputable def constVal : Const → Value
  | .bool b => .bool b
  | _ => .none
noncomputable def okConst : Const → Bool
  | .none => true
  | .bool _ => true
  | _ => false

noncomputable def fillV (i : Info) (xs : List Value) : List Value := xs ++ (i.dflt.drop (i.dflt.length - (i.ps.length - xs.length))).map constVal

structure InfoOk (X : Cx) (i : Info) : Prop where
  fn : fnChk X.K i.f i.ps = true
  den : ∀ (n : Nat) (P : Prm), PrmOk X n P → ExsR X (n + 1) (fnEnv (fdOf X.K i.f).scope) (bodyOf (fdOf X.K i.f)) (i.den P)
  bind : ∀ {env : Env} {ρ : List Addr} {μ : Mu} {σ : St} {s : Shared} {vs : List V} {xs : List Value}, X.K.In s.heap → Rel X ρ μ env σ s.heap → VRl s.heap (okOf ρ μ) μ vs xs → i.ps.length = (fill i vs).length → Binds X ρ μ s (fdOf X.K i.f) ⟨xs, []⟩ i.ps (fill i vs)

theorem VRl.append {h : Heap} {ok : Addr → Prop} {μ : Mu} : ∀ {vs ws : List V} {xs ys : List Value}, VRl h ok μ vs xs → VRl h ok μ ws ys → VRl h ok μ (vs ++ ws) (xs ++ ys)
  | [], _, _, _, e, k => by rw [show _ = [] from e]; exact k
  | _ :: _, _, _, _, e, k => by obtain ⟨x, r, rfl, h1, h2⟩ := e; exact ⟨x, _, rfl, h1, h2.append k⟩

theorem VRl_const {h : Heap} {ok : Addr → Prop} {μ : Mu} : ∀ {cs : List Const}, cs.all okConst = true → VRl h ok μ (cs.map constV) (cs.map constVal)
  | [], _ => rfl
  | c :: cs, h => by
    rw [List.all_cons, Bool.and_eq_true] at h
    refine ⟨_, _, rfl, ?_, VRl_const h.2⟩
    cases c with
    | none => simp only [constV, constVal, VR, DR]
    | bool b => simp only [constV, constVal, VR, DR]
    | _ => cases h.1

theorem fill_rel {h : Heap} {ok : Addr → Prop} {μ : Mu} {i : Info} (hc : i.dflt.all okConst = true) {vs : List V} {xs : List Value} (hv : VRl h ok μ vs xs) : VRl h ok μ (fill i vs) (fillV i xs) := by
  have hk : kwD i.dflt = false := by
    unfold kwD
    split
    · rename_i e; rw [e] at hc; cases hc
    · rfl
  unfold fill fillV
  rw [hv.length, hk, Bool.false_and, if_neg (by decide)]
  refine hv.append (VRl_const ?_)
  rw [List.all_eq_true] at hc ⊢
  exact fun c hm => hc c (List.mem_of_mem_drop hm)

theorem callB_len {ps : List Str} {mb : M Fl} {vs : List V} {σ σ' : St} {r : V} (e : callB ps mb vs σ = some (r, σ')) : ps.length = vs.length := by
  unfold callB at e
  split at e
  · assumption
  · cases e

theorem fill_len {i : Info} {vs : List V} (hk : i.dflt.all okConst = true) (h : i.ps.length = (fill i vs).length) : vs.length ≤ i.ps.length ∧ i.ps.length ≤ vs.length + i.dflt.length := by
  have hk : kwD i.dflt = false := by
    unfold kwD
    split
    · rename_i e; rw [e] at hk; cases hk
    · rfl
  unfold fill at h
  rw [hk, Bool.false_and, if_neg (by decide)] at h
  rw [List.length_append, List.length_map, List.length_drop] at h
  omega

section
variable {X : Cx} {n : Nat} {env : Env} {P : Prm} {A : Around} {ρ : List Addr} {μ μ' : Mu} {σ : St} {s : Shared} {h h' : Heap}

theorem runI_code (ok : CxOk X) (pok : PrmOk X n P) {i : Info} (io : InfoOk X i) (ga : Ga (n + 2) A) (R : Rel X ρ μ env σ s.heap) {vs : List V} {xs : List Value} (hv : VRl s.heap (okOf ρ μ) μ vs xs) :
    ∀ r σ', runI P i vs σ = some (r, σ') → codeAny (model X.prog X.w) A (.call (.ref i.f) ⟨xs, []⟩) (fun q s' => match q with | .ok (.ret v) => Post X ρ μ env s VRr r σ' v s' | .ok _ => False | .error _ => False) s := by
  intro r σ' e
  unfold runI at e
  exact Call_code ok (fnOk_of ok io.fn) (io.den n P pok) ga R (io.bind (R.kin ok) R hv (callB_len e)) r σ' e

theorem runI_W (ok : CxOk X) (pok : PrmOk X n P) {i : Info} (io : InfoOk X i) (ga : Ga (n + 2) A) (R : Rel X ρ μ env σ s.heap) {vs : List V} {xs : List Value} (hv : VRl s.heap (okOf ρ μ) μ vs xs) :
    W X A ρ μ env s VRr (call (.ref i.f) xs []) (runI P i vs σ) := fun r σ' e => wpAny_call (codeAny_mono (runI_code ok pok io ga R hv r σ' e) fun q s' z => by
    cases q with
    | ok x => cases x <;> exact z
    | error x => exact z)

structure TabOk (X : Cx) (T : Tab) : Prop where
  mt : ∀ name i, T.mt name = some i → InfoOk X i ∧ mth X name = some i.f
  fn : ∀ name i, T.fn name = some i → InfoOk X i ∧ X.mg name = some (.ref i.f)
  init : InfoOk X T.init
  initF : W.findIn X.K (.ref X.C) "__init__" = some (some (.ref T.init.f))
  initT : W.typeIn X.K (.ref T.init.f) = some (.type "function")
  makes : W.makesIn X.K X.C = true
  head : X.mg (Str.ofString "Headers") = some (.ref X.C)
  conv : ∃ f, mth X sConv = some f ∧ fnChk X.K f [sSelf, sValue, sName] = true ∧ (∀ k env', SameEnv (fnEnv (fdOf X.K f).scope) env' → Exs X k env' (bodyOf (fdOf X.K f)) convM) ∧
    ∀ (s : Shared) x y z, BindsTo s (fdOf X.K f) ⟨[x, y], [(sName, z)]⟩ ([sSelf, sValue, sName].zip [x, y, z])

theorem prm_ok (ok : CxOk X) {T : Tab} (to : TabOk X T) : ∀ k, PrmOk X (3 * k) (prm T k)
  | 0 => ⟨fun _ _ _ _ _ _ _ _ _ _ _ _ _ _ _ _ _ _ _ _ => W_fail, fun _ _ _ _ _ _ => rfl, fun _ _ _ _ => rfl, fun _ _ _ _ e => (by cases e), to.head, fun _ _ _ _ _ _ _ _ _ _ _ => W_fail⟩
  | k + 1 => by
    have ih := prm_ok ok to k
    refine ⟨fun name f hm env A ρ μ σ s self x vs xs ks kx ga R hself hvs hks => ?_, fun name hm σ self vs ks => ?_, fun σ self vs ks => ?_, fun name vs σ r e => ?_, to.head, fun env A ρ μ σ s vs xs ga R hvs => ?_⟩
    · show W X A ρ μ env s VRr _ ((if name = sConv then convP self vs ks else _) σ)
      split
      · rename_i hn
        subst hn
        obtain ⟨f', hf, hfn, hb, hbind⟩ := to.conv
        rw [hm] at hf; cases hf
        unfold convP
        split
        · rename_i v kk b
          obtain ⟨y, r, rfl, hy, hr⟩ := hvs
          rw [show r = [] from hr]
          obtain ⟨z, r', rfl, hz, hr'⟩ := hks
          rw [show r' = [] from hr']
          split
          · rename_i hkk
            subst hkk
            exact Call_body ok (fnOk_of ok hfn) (fun env' hs => hb (3 * k + 1) env' hs) (ga.less (by omega)) R (.of (ys := [x, y, z]) ⟨x, _, rfl, hself, y, _, rfl, hy, z, _, rfl, hz, rfl⟩ (hbind s x y z))
          · exact W_fail
        · exact W_fail
      · cases hi : T.mt name with
        | none => exact W_fail
        | some i =>
          obtain ⟨io, hf⟩ := to.mt name i hi
          rw [hm] at hf; cases hf
          dsimp only
          cases ks with
          | nil =>
            rw [show kx = [] from hks]
            exact runI_W ok ih io (ga.less (by omega)) R ⟨x, xs, rfl, hself, hvs⟩
          | cons a b => exact W_fail
    · show (if name = sConv then convP self vs ks else _) σ = none
      split
      · rename_i hn
        subst hn
        obtain ⟨f', hf, _⟩ := to.conv
        rw [hm] at hf; cases hf
      · cases hi : T.mt name with
        | none => rfl
        | some i =>
          obtain ⟨_, hf⟩ := to.mt name i hi
          rw [hm] at hf; cases hf
    · cases hi : T.mt hdrKey with
      | none =>
        show (if hdrKey = sConv then convP self vs ks else match T.mt hdrKey with | some i => if ks.isEmpty then runI (prm T k) i (self :: vs) else mfail | none => mfail) σ = none
        rw [if_neg (by decide), hi]
        rfl
      | some i =>
        obtain ⟨_, hf⟩ := to.mt hdrKey i hi
        obtain ⟨g1, _⟩ := mth_find hf
        rw [ok.hd] at g1; cases g1
    · have e' : (match T.fn name with | some i => runI (prm T k) i vs | none => mfail) σ = some r := e
      cases hi : T.fn name with
      | none => rw [hi] at e'; cases e'
      | some i =>
        obtain ⟨io, hg⟩ := to.fn name i hi
        obtain ⟨o, ho, hd⟩ := (fnOk_of ok io.fn).at_
        refine ⟨i.f, o, _, hg, ho, hd, fun env A ρ μ s xs ga R hvs => ?_⟩
        show W X A ρ μ env s VRr _ ((match T.fn name with | some i => runI (prm T k) i vs | none => mfail) σ)
        rw [hi]
        exact runI_W ok ih io (ga.less (by omega)) R hvs
    · show W X A ρ μ env s VRr _ (makeM (fun self ws => runI (prm T k) T.init (self :: ws)) vs σ)
      exact W_make (n := 3 * k + 2) ok to.makes to.initF to.initT (fun env A ρ μ σ s self x vs xs ga R hself hvs r σ' e => runI_code ok ih to.init ga R (show VRl s.heap (okOf ρ μ) μ (self :: vs) (x :: xs) from ⟨x, xs, rfl, hself, hvs⟩) r σ' e) (ga.less (by omega)) R hvs

end
end Mine
end

section
open PySem
set_option Elab.async false
set_option maxRecDepth 10000
namespace Mine

section
variable {X : Cx} {n : Nat} {env : Env} {P : Prm} {A : Around} {ρ : List Addr} {μ μ' : Mu} {σ : St} {s : Shared} {h h' : Heap}

theorem law_run (ok : CxOk X) {T : Tab} (to : TabOk X T) (k : Nat) {sc : Scope} (hs : SameEnv (fnEnv sc) env) {body : List Stmt} {den : Prm → M Fl} (hden : ∀ (n : Nat) (P : Prm), PrmOk X n P → ExsR X (n + 1) (fnEnv sc) body (den P)) (ga : Ga (3 * k + 1) A) (R : Rel X ρ μ env σ s.heap) {σ' : St}
    (e : den (prm T k) σ = some (.ret (.dat (.bool true)), σ')) :
    wpAny (model X.prog X.w) A (execs body env) (fun f s' => f = .ret (.bool true) ∧ (∃ hp tk, s' = { s with heap := hp, toks := tk }) ∧ ∃ m, PyProof.Rows.Fr X.base env.locals s'.heap m) (fun _ _ => False) s := by
  refine wpAny_mono (hden _ _ (prm_ok ok to k) env hs A ρ μ σ s ga R _ _ e) (fun f s' z => ?_) fun _ _ z => z
  obtain ⟨μ1, st1, R1, y, rfl, hy⟩ := z
  have hy' : DR _ _ _ _ := hy
  simp only [DR] at hy'
  subst hy'
  exact ⟨rfl, st1.same, R1.fr⟩

/-- the frame of a law without cells -/
theorem start_rel {name : Str} {sc : Scope} {L fa : Addr} {cd : Value} {m : Str → Option Value} {loc : Str → Option V} (F : PyProof.Rows.Fr X.base L h m) (hL : X.base.get? L = none) (hk : sc.kind = .function)
    (hl : ∀ x v, loc x = some v → sc.names.lookup x = some .local ∧ ∃ val, m x = some val ∧ VR X.base (fun a => ∃ o, X.base.get? a = some o) [] v val) :
    Rel X [L] [] (PyProof.Rows.envOf name sc L fa cd) ⟨loc, []⟩ h := by
  have hLl : ∃ o, h.get? L = some o := by obtain ⟨o, _, _, q, _⟩ := F.ns; exact ⟨o, q⟩
  refine ⟨F.keep, fun a ha => ?_, fun a ha => ?_, fun a ha => ?_, fun a ha => ?_, by simp [foot], fun a _ => by simp [foot], fun a ha => ?_, F.above, ⟨m, fun _ => none, ⟨hk, rfl, rfl, F.ns, fun nm c e => ?_, fun nm c e => ?_, .nil⟩, fun x v e => ?_⟩, rfl, fun i j a h1 _ => ?_, fun i o e => ?_, fun i ds e => ?_⟩
  · simp at ha; subst ha; exact hL
  · simp [foot] at ha
  · simp at ha; subst ha; exact hLl
  · simp [foot] at ha
  · rcases List.mem_cons.mp ha with rfl | ha
    · exact .head _
    · cases ha
  · cases e
  · cases e
  · obtain ⟨h1, val, h2, h3⟩ := hl x v e
    refine ⟨val, ?_, h3.mono (fun _ _ e => e) fun a o q e => ⟨F.keep a o e, ?_, by simp [foot]⟩⟩
    · unfold valOf
      have : (PyProof.Rows.envOf name sc L fa cd).kindOf x = some .local := h1
      rw [this]; exact h2
    · simp
      rintro rfl
      rw [hL] at e; cases e
  · simp [root] at h1
  · simp at e
  · simp at e

end
end Mine
end

section
open PySem
set_option Elab.async false
set_option maxRecDepth 10000
namespace Mine

noncomputable def dictOf (K : W.Frag) (a : Addr) : Array DictEntry := match K.lookup a with
  | some ⟨_, _, .dict es _, _⟩ => es
  | _ => #[]
noncomputable def isDict (K : W.Frag) (a : Addr) : Bool := match K.lookup a with
  | some ⟨_, _, .dict _ _, _⟩ => true
  | _ => false

theorem mg_of {K : W.Frag} {h : Heap} {mg : Str → Option Value} {a : Addr} (hK : K.In h) (hg : h.Ns a mg) (hd : isDict K a = true) (x : Str) : mg x = nsFind (dictOf K a) x := by
  obtain ⟨o, es, ep, h1, h2, _, h4⟩ := hg
  unfold isDict at hd
  split at hd
  · rename_i cl dd es' n sl hl
    have := hK _ _ hl
    rw [this] at h1
    cases h1
    cases h2
    rw [← h4 x]
    unfold dictOf
    rw [hl]
  · cases hd

theorem len1 {xs : List Value} (h : xs.length = 1) : ∃ x, xs = [x] := by
  cases xs with
  | nil => cases h
  | cons x r => cases r with
    | nil => exact ⟨x, rfl⟩
    | cons y r => simp at h
theorem len2 {xs : List Value} (h : xs.length = 2) : ∃ x y, xs = [x, y] := by
  cases xs with
  | nil => cases h
  | cons x r =>
    obtain ⟨y, rfl⟩ := len1 (xs := r) (by simpa using h)
    exact ⟨x, y, rfl⟩
noncomputable def BindOk (X : Cx) (i : Info) : Prop := ∀ (s : Shared) xs, X.K.In s.heap → xs.length ≤ i.ps.length → i.ps.length ≤ xs.length + i.dflt.length → BindsTo s (fdOf X.K i.f) ⟨xs, []⟩ (i.ps.zip (fillV i xs))
theorem InfoOk.plain {X : Cx} {i : Info} (fn : fnChk X.K i.f i.ps = true) (den : ∀ (n : Nat) (P : Prm), PrmOk X n P → ExsR X (n + 1) (fnEnv (fdOf X.K i.f).scope) (bodyOf (fdOf X.K i.f)) (i.den P)) (cs : i.dflt.all okConst = true) (bind : BindOk X i) : InfoOk X i :=
  ⟨fn, den, fun {_ _ _ _ s _ xs} hK _ hv hl => by
    obtain ⟨h1, h2⟩ := fill_len cs hl
    rw [← hv.length] at h1 h2
    exact .of (fill_rel cs hv) (bind s xs hK h1 h2)⟩
theorem bind1 {X : Cx} {f : Addr} {p : Str} {D : Prm → M Fl} (hb : ∀ x, bindArgs (fdOf X.K f) ⟨[x], []⟩ = pure [(p, x)]) : BindOk X ⟨f, [p], [], D⟩ := by
  intro s xs _ h1 h2
  obtain ⟨x, rfl⟩ := len1 (xs := xs) (Nat.le_antisymm h1 h2)
  exact .of_eq (hb x)
theorem bind2 {X : Cx} {f : Addr} {p q : Str} {D : Prm → M Fl} (hb : ∀ x y, bindArgs (fdOf X.K f) ⟨[x, y], []⟩ = pure [(p, x), (q, y)]) : BindOk X ⟨f, [p, q], [], D⟩ := by
  intro s xs _ h1 h2
  obtain ⟨x, y, rfl⟩ := len2 (xs := xs) (Nat.le_antisymm h1 h2)
  exact .of_eq (hb x y)
/-- a last parameter with None for default -/
theorem bind2d {X : Cx} {f : Addr} {p q : Str} {D : Prm → M Fl} (h0 : ∀ (s : Shared) x y, X.K.In s.heap → BindsTo s (fdOf X.K f) ⟨[x, y], []⟩ [(p, x), (q, y)]) (h1 : ∀ (s : Shared) x, X.K.In s.heap → BindsTo s (fdOf X.K f) ⟨[x], []⟩ [(p, x), (q, .none)]) :
    BindOk X ⟨f, [p, q], [.none], D⟩ := by
  intro s xs hK g1 g2
  have g1' : xs.length ≤ 2 := g1
  have g2' : 2 ≤ xs.length + 1 := g2
  rcases (show xs.length = 2 ∨ xs.length = 1 by omega) with h | h
  · obtain ⟨x, y, rfl⟩ := len2 h; exact h0 s x y hK
  · obtain ⟨x, rfl⟩ := len1 h; exact h1 s x hK
/-- a pattern that lies written out -/
noncomputable def PatAt (K : W.Frag) (p : Addr) (code : Array Nat) : Prop := ∃ a b c cl dd cv n sl, K.lookup p = some ⟨.type "re.Pattern", none, .fields #[a, b, .int 0 0, .none, .none, .ref c, .int 0 0], #[]⟩ ∧ K.lookup c = some ⟨cl, dd, .seq cv n, sl⟩ ∧ (cv.map Builtin.Re.reRawOf).map (·.toNat) = code
theorem patOk_of {X : Cx} {nm : Str} {p : Addr} {code : Array Nat} (hK : X.K.In X.base) (hg : X.mg nm = some (.ref p)) (e : PatAt X.K p code) (hc : codeOk code) : PatOk X nm := by
  obtain ⟨a, b, c, cl, dd, cv, n, sl, h1, h2, h3⟩ := e
  exact ⟨p, c, a, b, cv, n, _, hg, hK _ _ h1, hK _ _ h2, rfl, by rw [h3]; exact hc⟩

end Mine
end

section
open PySem
set_option Elab.async false
set_option maxRecDepth 10000
namespace Mine

theorem bind_at {α β : Type} {m : M α} {f : α → M β} {σ σ' : St} {a : α} (h : m σ = some (a, σ')) : (m >>= f) σ = f a σ' := by
  show mbind m f σ = _
  unfold mbind; rw [h]
theorem name_at {x : Str} {v : V} {σ : St} (hx : (x == dbg) = false) (e : σ.loc x = some v) : nameS x σ = some (v, σ) := by
  unfold nameS
  rw [if_neg (by intro h; subst h; simp at hx)]
  unfold getLoc; rw [e]; rfl

theorem cut_same {n : Nat} {σ σ₁ : St} (h : cutM n σ = some σ₁) (hl : σ.heap.length = n) : σ₁.heap = σ.heap := by
  unfold cutM at h
  split at h
  · cases h
    simp only
    rw [← hl, List.take_length]
  · cases h

theorem callB_same {ps : List Str} {mb : M Fl} {vs : List V} {σ σ' : St} {f : Fl} (hl : ps.length = vs.length) (h : mb ⟨bindP ps vs, σ.heap⟩ = some (f, σ')) (hh : σ'.heap.length = σ.heap.length) : callB ps mb vs σ = some (retV f, ⟨σ.loc, σ'.heap⟩) := by
  unfold callB
  rw [if_pos hl, h]
  dsimp only
  split
  · rename_i σ₁ hc
    split at hc
    · rw [cut_same hc hh]
    · cases hc
  · rfl

theorem convP_at {self : V} {x : Str} {b : Bool} {σ : St} (hx : x.length ≤ big) : convP self [.dat (.str x)] [(sName, .dat (.bool b))] σ = some (.dat (.str x), σ) := by
  have e0 : convP self [.dat (.str x)] [(sName, .dat (.bool b))] = callB [sSelf, sValue, sName] convM [self, .dat (.str x), .dat (.bool b)] := by
    simp [convP]
  rw [e0]
  have := callB_same (ps := [sSelf, sValue, sName]) (mb := convM) (vs := [self, .dat (.str x), .dat (.bool b)]) (σ := σ) (f := .ret (.dat (.str x)))
    (σ' := ⟨fun y => if y = sRegex then none else bindP [sSelf, sValue, sName] [self, .dat (.str x), .dat (.bool b)] y, σ.heap⟩) rfl (by
      unfold convM
      have h1 : bindP [sSelf, sValue, sName] [self, .dat (.str x), .dat (.bool b)] sValue = some (.dat (.str x)) := by
        unfold bindP
        simp only [List.zip_cons_cons, List.lookup_cons]
        rw [show (sValue == sSelf) = false by decide, show (sValue == sValue) = true by decide]
      have h2 : bindP [sSelf, sValue, sName] [self, .dat (.str x), .dat (.bool b)] sName = some (.dat (.bool b)) := by
        unfold bindP
        simp only [List.zip_cons_cons, List.lookup_cons]
        rw [show (sName == sSelf) = false by decide, show (sName == sValue) = false by decide, show (sName == sName) = true by decide]
      simp only [h1, h2, if_pos hx]) rfl
  rw [this]
  rfl


end Mine
end

section
open PySem
set_option Elab.async false
namespace Mine
noncomputable def x___len__ : Str := Str.ofString "__len__"
noncomputable def x__convert_string_type : Str := Str.ofString "_convert_string_type"
noncomputable def x__headers : Str := Str.ofString "_headers"
noncomputable def x__law_ordered : Str := Str.ofString "_law_ordered"
noncomputable def x__name : Str := Str.ofString "_name"
noncomputable def x__params : Str := Str.ofString "_params"
noncomputable def x__value : Str := Str.ofString "_value"
noncomputable def x_add_header : Str := Str.ofString "add_header"
noncomputable def x_faults : Str := Str.ofString "faults"
noncomputable def x_figure : Str := Str.ofString "figure"
noncomputable def x_first : Str := Str.ofString "first"
noncomputable def x_half : Str := Str.ofString "half"
noncomputable def x_headers : Str := Str.ofString "headers"
noncomputable def x_items : Str := Str.ofString "items"
noncomputable def x_k : Str := Str.ofString "k"
noncomputable def x_left : Str := Str.ofString "left"
noncomputable def x_list : Str := Str.ofString "list"
noncomputable def x_merged : Str := Str.ofString "merged"
noncomputable def x_name : Str := Str.ofString "name"
noncomputable def x_number : Str := Str.ofString "number"
noncomputable def x_ordered : Str := Str.ofString "ordered"
noncomputable def x_pair : Str := Str.ofString "pair"
noncomputable def x_pairs : Str := Str.ofString "pairs"
noncomputable def x_parts : Str := Str.ofString "parts"
noncomputable def x_right : Str := Str.ofString "right"
noncomputable def x_script : Str := Str.ofString "script"
noncomputable def x_second : Str := Str.ofString "second"
noncomputable def x_self : Str := Str.ofString "self"
noncomputable def x_table : Str := Str.ofString "table"
noncomputable def x_v : Str := Str.ofString "v"
noncomputable def x_value : Str := Str.ofString "value"
end Mine
end

section
open PySem
set_option Elab.async false
set_option maxRecDepth 10000
namespace Mine

noncomputable def Run {α : Type} (m : M α) (σ : St) (a : α) (σ' : St) : Prop := m σ = some (a, σ')
noncomputable def Ok {α : Type} (m : M α) (σ : St) (Q : α → St → Prop) : Prop := ∃ a σ', m σ = some (a, σ') ∧ Q a σ'
/-- what is known of the names -/
noncomputable def lkp (K : List (Str × V)) (x : Str) : Option V := if x == dbg then none else K.lookup x
noncomputable def Kn (K : List (Str × V)) (l : Str → Option V) : Prop := ∀ x v, lkp K x = some v → l x = some v

theorem Run.ok {α : Type} {m : M α} {σ σ' : St} {a : α} {Q : α → St → Prop} (h : Run m σ a σ') (q : Q a σ') : Ok m σ Q := ⟨a, σ', h, q⟩
theorem Ok.mono {α : Type} {m : M α} {σ : St} {Q Q' : α → St → Prop} (h : Ok m σ Q) (q : ∀ a σ', Q a σ' → Q' a σ') : Ok m σ Q' := by
  obtain ⟨a, s, e, k⟩ := h; exact ⟨a, s, e, q _ _ k⟩
theorem ok_bind {α β : Type} {m : M α} {f : α → M β} {σ : St} {Q : β → St → Prop} (h : Ok m σ fun a σ' => Ok (f a) σ' Q) : Ok (m >>= f) σ Q := by
  obtain ⟨a, s, e, b, s', e', q⟩ := h
  exact ⟨b, s', by rw [bind_at e]; exact e', q⟩
theorem run_bind {α β : Type} {m : M α} {f : α → M β} {σ σ1 σ2 : St} {a : α} {b : β} (h : Run m σ a σ1) (k : Run (f a) σ1 b σ2) : Run (m >>= f) σ b σ2 := by
  unfold Run at *; rw [bind_at h]; exact k
theorem ok_run {α β : Type} {m : M α} {f : α → M β} {σ σ1 : St} {a : α} {Q : β → St → Prop} (h : Run m σ a σ1) (k : Ok (f a) σ1 Q) : Ok (m >>= f) σ Q := ok_bind ⟨a, σ1, h, k⟩

section
variable {Q : Prm} {l l1 l2 l3 : Str → Option V} {hp h1 h2 h3 : List AObj} {σ σ1 σ2 σ3 : St} {x y : Str} {v w : V} {R : Fl → St → Prop}

/-! names -/
theorem lkp_some {K : List (Str × V)} (h : lkp K x = some v) : (x == dbg) = false ∧ K.lookup x = some v := by
  unfold lkp at h
  cases q : x == dbg with
  | true => rw [q] at h; cases h
  | false => rw [q] at h; exact ⟨rfl, h⟩
theorem kn_nil : Kn [] l := fun x v h => by
  have := (lkp_some h).2; cases this
theorem kn_put {K : List (Str × V)} (hk : Kn K l) : Kn ((x, v) :: K) (upd l x v) := fun y w h => by
  obtain ⟨h1, h2⟩ := lkp_some h
  rw [List.lookup_cons] at h2
  unfold upd
  cases q : y == x with
  | true => rw [q] at h2; cases h2; rw [if_pos (beq_iff_eq.mp q)]
  | false =>
    rw [q] at h2
    rw [if_neg (fun e => by rw [beq_iff_eq.mpr e] at q; cases q)]
    exact hk y w (by unfold lkp; rw [h1]; exact h2)
theorem kn_cons {K L : List (Str × V)} (hk : Kn L l) (h : lkp L x = some v) (k : Kn K l) : Kn ((x, v) :: K) l := fun y w q => by
  obtain ⟨h1, h2⟩ := lkp_some q
  rw [List.lookup_cons] at h2
  cases e : y == x with
  | true => rw [e] at h2; cases h2; rw [beq_iff_eq.mp e]; exact hk _ _ h
  | false => rw [e] at h2; exact k y w (by unfold lkp; rw [h1]; exact h2)
noncomputable def cutL (n : Nat) (l : Str → Option V) : Str → Option V := fun x => (l x).filter (okV n)
theorem kn_cut {K : List (Str × V)} {n : Nat} (h : K.all (fun p => okV n p.2) = true) (hk : Kn K l) : Kn K (cutL n l) := fun y w q => by
  unfold cutL
  rw [hk y w q]
  have := List.all_eq_true.mp h _ (mem_of_lookup (lkp_some q).2)
  simp only at this
  simp [Option.filter, this]
theorem kn_par {ps : List Str} {vs : List V} : Kn (ps.zip vs) (bindP ps vs) := fun y w q => (lkp_some q).2

theorem r_name {K : List (Str × V)} (hk : Kn K l) (h : lkp K x = some v) : Run (nameS x) ⟨l, hp⟩ v ⟨l, hp⟩ := name_at (lkp_some h).1 (hk x v h)
theorem r_dat {d : PyData} : Run (datM d) σ (.dat d) σ := rfl
/-! expressions -/
theorem r_bin {op : Operator} {a b : M V} {u : V} (ha : Run a σ v σ1) (hb : Run b σ1 w σ2) (h : Run (binS op v w) σ2 u σ3) : Run (binM op a b) σ u σ3 := run_bind ha (run_bind hb h)
theorem b_dat {op : Operator} {d e r : PyData} (h : binD op d e = some r) : Run (binS op (.dat d) (.dat e)) σ (.dat r) σ := by
  show binS op (.dat d) (.dat e) σ = _
  unfold binS
  rw [bind_at (show readD (.dat d) σ = some (d, σ) from rfl), bind_at (show readD (.dat e) σ = some (e, σ) from rfl), h]
  rfl
theorem b_fdiv {i j : Int} (h : j ≠ 0 ∧ j.natAbs < 2 ^ 30) : Run (binS .FloorDiv (.dat (.int i)) (.dat (.int j))) σ (.dat (.int (i.fdiv j))) σ := b_dat (by show (fdivI i j).map PyData.int = _; unfold fdivI; rw [if_pos h]; rfl)
theorem b_mod {i j : Int} (h : j ≠ 0) : Run (binS .Mod (.dat (.int i)) (.dat (.int j))) σ (.dat (.int (i.fmod j))) σ := b_dat (by show (modI i j).map PyData.int = _; unfold modI; rw [if_pos h]; rfl)
theorem b_subI {i j : Int} : Run (binS .Sub (.dat (.int i)) (.dat (.int j))) σ (.dat (.int (i - j))) σ := b_dat rfl
noncomputable def Rd (v : V) (σ : St) (d : PyData) : Prop := readD v σ = some (d, σ)
theorem rd_dat {d : PyData} : Rd (.dat d) σ d := rfl
theorem rd_obj {i : Nat} {ds : List PyData} (h : hp[i]? = some (.lst ds)) : Rd (.obj i) ⟨l, hp⟩ (.list ds) := by
  unfold Rd; show (match hp[i]? with | some (.lst ds) => _ | some (.frz ds) => _ | _ => _) = _
  rw [h]
theorem r_ifx1 {t : M Bool} {a b : M V} (h : Run t σ true σ1) (k : Run a σ1 v σ2) : Run (ifxM t a b) σ v σ2 := run_bind h k
theorem r_ifx0 {t : M Bool} {a b : M V} (h : Run t σ false σ1) (k : Run b σ1 v σ2) : Run (ifxM t a b) σ v σ2 := run_bind h k
theorem q_nil : Run (seqS []) σ [] σ := rfl
theorem q_cons {m : M V} {ms : List (M V)} {vs : List V} (h : Run m σ v σ1) (k : Run (seqS ms) σ1 vs σ2) : Run (seqS (m :: ms)) σ (v :: vs) σ2 := run_bind h (run_bind k rfl)
theorem kw_nil : Run (kwS []) σ [] σ := rfl
theorem kw_cons {m : M V} {ms : List (Str × M V)} {vs : List (Str × V)} (h : Run m σ v σ1) (k : Run (kwS ms) σ1 vs σ2) : Run (kwS ((x, m) :: ms)) σ ((x, v) :: vs) σ2 := run_bind h (run_bind k rfl)

theorem ls_at {ms : List (M V)} {vs : List V} {ds : List PyData} (h : Run (seqS ms) σ vs σ1) (k : allDat vs = some ds) (hb : ds.length ≤ big) : Run (listS Q ms) σ ds σ1 := by
  refine run_bind h ?_
  rw [k]
  refine run_bind (show Run (mopt (some ds)) σ1 ds σ1 from rfl) ?_
  refine run_bind (show Run (mguard (decide (ds.length ≤ big))) σ1 () σ1 from ?_) rfl
  unfold Run mguard; rw [if_pos (decide_eq_true hb)]
theorem ad_nil : allDat [] = some [] := rfl
theorem ad_cons {d : PyData} {vs : List V} {ds : List PyData} (h : allDat vs = some ds) : allDat (.dat d :: vs) = some (d :: ds) := by
  show (allDat vs).map (d :: ·) = _; rw [h]; rfl
theorem leB {a b : Nat} (h : Nat.ble a b = true) : a ≤ b := Nat.le_of_ble_eq_true h
theorem r_lst {ms : List (M V)} {vs : List V} {ds : List PyData} (h : Run (seqS ms) σ vs σ1) (k : allDat vs = some ds) (hb : ds.length ≤ big) : Run (lstM Q ms) σ (.dat (.list ds)) σ1 := run_bind (ls_at h k hb) rfl
theorem r_tup {ms : List (M V)} {vs : List V} {ds : List PyData} (h : Run (seqS ms) σ vs σ1) (k : allDat vs = some ds) (hb : ds.length ≤ big) : Run (tupM Q ms) σ (.dat (.tuple ds)) σ1 := run_bind (ls_at h k hb) rfl
theorem r_new {ds : List PyData} : Run (newObj (.lst ds)) ⟨l, hp⟩ (.obj hp.length) ⟨l, hp ++ [.lst ds]⟩ := rfl
theorem r_ownLst {ms : List (M V)} {vs : List V} {ds : List PyData} (h : Run (seqS ms) σ vs ⟨l1, h1⟩) (k : allDat vs = some ds) (hb : ds.length ≤ big) : Run (ownLstM Q ms) σ (.obj h1.length) ⟨l1, h1 ++ [.lst ds]⟩ := run_bind (ls_at h k hb) r_new
theorem lo_rd {ds : List PyData} {d : PyData} (h : Rd v σ d) (k : itemsD d = some ds) (hb : ds.length ≤ big) : Run (listOfS v) σ ds σ := by
  have e : (do
    let d ← readD v
    let ds ← mopt (itemsD d)
    mguard (decide (ds.length ≤ big))
    mpure ds : M (List PyData)) σ = some (ds, σ) := by
    rw [bind_at h, k, bind_at (show mopt (some ds) σ = some (ds, σ) from rfl), bind_at (show mguard (decide (ds.length ≤ big)) σ = some ((), σ) by unfold mguard; rw [if_pos (decide_eq_true hb)])]
    rfl
  cases v with
  | rng a b => cases h
  | emp => cases h
  | dat d => exact e
  | obj i => exact e
theorem r_ownList {m : M V} {ds : List PyData} (h : Run m σ v ⟨l1, h1⟩) (k : Run (listOfS v) ⟨l1, h1⟩ ds ⟨l1, h1⟩) : Run (ownListM m) σ (.obj h1.length) ⟨l1, h1 ++ [.lst ds]⟩ := run_bind h (run_bind k r_new)

/-! comparisons -/
theorem r_cmp {op : CmpOp} {a b : M V} {u : V} (ha : Run a σ v σ1) (hb : Run b σ1 w σ2) (h : Run (cmpS Q op v w) σ2 u σ3) : Run (cmpM Q op a b) σ u σ3 := run_bind ha (run_bind hb h)
theorem c_rd {op : CmpOp} {d e : PyData} {r : Bool} (hv : Rd v σ d) (hw : Rd w σ e) (h : cmpD op d e = some r) : Run (cmpS Q op v w) σ (.dat (.bool r)) σ := by
  have hi : isInst w σ = false := by
    unfold isInst
    cases w with
    | dat _ => rfl
    | rng _ _ => rfl
    | emp => rfl
    | obj i =>
      have : (match σ.heap[i]? with | some (.lst ds) => some (PyData.list ds, σ) | some (.frz ds) => some (PyData.list ds, σ) | _ => none) = some (e, σ) := hw
      simp only
      split at this
      · rename_i q; rw [q]
      · rename_i q; rw [q]
      · cases this
  show cmpS Q op v w σ = _
  unfold cmpS
  rw [hi]
  simp only [Bool.false_eq_true, if_false]
  rw [bind_at hv, bind_at hw, h]; rfl
theorem cEqS {s t : Str} : cmpD .Eq (.str s) (.str t) = some (s == t) := by
  show (if min (PyData.depth (.str s)) (PyData.depth (.str t)) ≤ 50 then some (PyData.eqv (.str s) (.str t)) else none) = _
  rw [if_pos (by simp [PyData.depth])]; simp [PyData.eqv]
theorem cNeI {s t : Int} : cmpD .NotEq (.int s) (.int t) = some (!decide (s = t)) := by
  show (if min (PyData.depth (.int s)) (PyData.depth (.int t)) ≤ 50 then some (!PyData.eqv (.int s) (.int t)) else none) = _
  rw [if_pos (by simp [PyData.depth])]; simp [PyData.eqv]; rfl

/-! tests -/
theorem t_tru {m : M V} {d : PyData} {b : Bool} (h : Run m σ v σ1) (hr : Rd v σ1 d) (k : truthD d = some b) : Run (truT m) σ b σ1 := by
  refine run_bind h (run_bind hr ?_)
  rw [k]; rfl
theorem t_bool {m : M V} {b : Bool} (h : Run m σ (.dat (.bool b)) σ1) : Run (truT m) σ b σ1 := t_tru h rfl rfl
theorem t_cmp {op : CmpOp} {a b : M V} {c : Bool} (h : Run (cmpM Q op a b) σ (.dat (.bool c)) σ1) : Run (truT (cmpM Q op a b)) σ c σ1 := t_bool h
theorem t_not {t : M Bool} {b : Bool} (h : Run t σ b σ1) : Run (notT t) σ (!b) σ1 := run_bind h rfl
theorem t_and {t u : M Bool} {b c : Bool} (h : Run t σ b σ) (k : b = true → Run u σ c σ) : Run (allTS .And [t, u]) σ (b && c) σ := by
  refine run_bind h ?_
  cases b with
  | false => rfl
  | true => exact run_bind (k rfl) (by cases c <;> rfl)
theorem t_or {t u : M Bool} {b c : Bool} (h : Run t σ b σ) (k : b = false → Run u σ c σ) : Run (allTS .Or [t, u]) σ (b || c) σ := by
  refine run_bind h ?_
  cases b with
  | true => rfl
  | false => exact run_bind (k rfl) (by cases c <;> rfl)

/-! methods -/
theorem r_lm {F : List PyData → List V → Option (PyData × List PyData)} {o : M V} {args : List (M V)} {i : Nat} {vs : List V} {cs ds es : List PyData} {r : PyData} (ho : Run o σ (.obj i) ⟨l1, h1⟩) (hg : h1[i]? = some (.lst cs)) (ha : Run (seqS args) ⟨l1, h1⟩ vs ⟨l2, h2⟩) (hi : h2[i]? = some (.lst ds)) (hb : ds.length ≤ big) (h : F ds vs = some (r, es)) :
    Run (lmM F o args) σ (.dat r) ⟨l2, h2.set i (.lst es)⟩ := by
  refine run_bind ho (run_bind (a := ()) (σ1 := ⟨l1, h1⟩) ?_ (run_bind ha ?_))
  · unfold Run lstG isLst; simp only [hg]; rfl
  · unfold Run lstF; simp only [hi, if_pos hb, h]; rfl
theorem r_im {o : M V} {name : Str} {args : List (M V)} {kws : List (Str × M V)} {i : Nat} {q : Option Nat} {vs : List V} {ks : List (Str × V)} (ho : Run o σ (.obj i) ⟨l1, h1⟩) (hi : h1[i]? = some (.inst q)) (ha : Run (seqS args) ⟨l1, h1⟩ vs σ2) (hq : Run (kwS kws) σ2 ks σ2) (h : Run (Q.mt name (.obj i) vs ks) σ2 w σ3) :
    Run (imM Q o name args kws) σ w σ3 := by
  refine run_bind ho (run_bind (a := ()) (σ1 := ⟨l1, h1⟩) ?_ (run_bind ha (run_bind hq h)))
  unfold Run instG isInst; simp only [hi]; rfl
theorem ml_append {ds : List PyData} {d : PyData} : appF ds [.dat d] = some (.none, ds ++ [d]) := rfl
/-! calls -/
theorem r_call {f : Str} {ms : List (M V)} {vs : List V} (h : Run (seqS ms) σ vs σ1) (k : Run (Q.fn f vs) σ1 w σ2) : Run (callM Q f ms) σ w σ2 := run_bind h k
theorem r_blt {F : List V → M V} {ms : List (M V)} {vs : List V} (h : Run (seqS ms) σ vs σ1) (k : Run (F vs) σ1 w σ2) : Run (bltM F ms) σ w σ2 := run_bind h k
theorem r_mk {ms : List (M V)} {vs : List V} (h : Run (seqS ms) σ vs σ1) (k : Run (Q.make vs) σ1 w σ2) : Run (mkM Q ms) σ w σ2 := run_bind h k
theorem f_len {d : PyData} {n : Nat} (hi : isInst v σ = false) (hr : Rd v σ d) (h : lenD d = some n) (hn : n ≤ big) : Run (lenB Q [v]) σ (.dat (.int n)) σ := by
  show lenS Q v σ = _
  unfold lenS
  rw [hi]
  simp only [Bool.false_eq_true, if_false]
  rw [bind_at hr, h, bind_at (show mopt (some n) σ = some (n, σ) from rfl), bind_at (show mguard (decide (n ≤ big)) σ = some ((), σ) by unfold mguard; rw [if_pos (decide_eq_true hn)])]
  rfl
theorem f_lenI {n : Int} (hi : isInst v σ = true) (h : Run (Q.mt x___len__ v [] []) σ (.dat (.int n)) σ) (hn : 0 ≤ n ∧ n ≤ big) : Run (lenB Q [v]) σ (.dat (.int n)) σ := by
  show lenS Q v σ = _
  unfold lenS
  rw [hi]
  simp only [if_true]
  rw [bind_at (show Q.mt (Str.ofString "__len__") v [] [] σ = _ from h)]
  simp only [if_pos hn]; rfl
theorem f_str {i : Int} (h : i.natAbs < 10 ^ 100) : Run (strB [.dat (.int i)]) σ (.dat (.str (strI i))) σ := by
  show (if i.natAbs < 10 ^ 100 then mpure (V.dat (.str (strI i))) else mfail) σ = _
  rw [if_pos h]; rfl
/-! items, slices, attributes -/
theorem r_item {o i : M V} {u : V} (ho : Run o σ v σ1) (hi : Run i σ1 w σ2) (h : Run (itemS Q v w) σ2 u σ3) : Run (itemM Q o i) σ u σ3 := run_bind ho (run_bind hi h)
theorem i_rd {d e r : PyData} (hv : Rd v σ d) (hs : smallI e = true) (h : itemD d e = some r) : Run (itemS Q v (.dat e)) σ (.dat r) σ := by
  have hi : isInst v σ = false := by
    unfold isInst
    cases v with
    | dat _ => rfl
    | rng _ _ => rfl
    | emp => rfl
    | obj i =>
      have : (match σ.heap[i]? with | some (.lst ds) => some (PyData.list ds, σ) | some (.frz ds) => some (PyData.list ds, σ) | _ => none) = some (d, σ) := hv
      simp only
      split at this
      · rename_i q; rw [q]
      · rename_i q; rw [q]
      · cases this
  show itemS Q v (.dat e) σ = _
  unfold itemS
  rw [hi]
  simp only [Bool.false_eq_true, if_false]
  rw [bind_at hv, bind_at (show asDat (.dat e) σ = some (e, σ) from rfl), bind_at (show mguard (smallI e) σ = some ((), σ) by unfold mguard; rw [if_pos hs]), h]
  rfl
theorem op_none : Run (optS none) σ none σ := rfl
theorem op_some {m : M V} (h : Run m σ v σ1) : Run (optS (some m)) σ (some v) σ1 := run_bind h rfl
theorem r_slice {o : M V} {lo hi : Option (M V)} {a b : Option V} {x y : Option Int} {d r : PyData} (ho : Run o σ v σ1) (ha : Run (optS lo) σ1 a σ1) (hb : Run (optS hi) σ1 b σ1) (hd : Rd v σ1 d) (hx : boundS a = some x) (hy : boundS b = some y) (h : cutD x y d = some r) :
    Run (sliceM o lo hi) σ (.dat r) σ1 := by
  refine run_bind ho (run_bind ha (run_bind hb (run_bind hd ?_)))
  rw [hx, hy]
  refine run_bind (a := x) rfl (run_bind (a := y) rfl ?_)
  rw [h]; rfl
theorem r_ownSlice {o : M V} {lo hi : Option (M V)} {a b : Option V} {x y : Option Int} {d : PyData} {ds : List PyData} (ho : Run o σ v ⟨l1, h1⟩) (ha : Run (optS lo) ⟨l1, h1⟩ a ⟨l1, h1⟩) (hb : Run (optS hi) ⟨l1, h1⟩ b ⟨l1, h1⟩) (hd : Rd v ⟨l1, h1⟩ d) (hx : boundS a = some x) (hy : boundS b = some y) (h : cutD x y d = some (.list ds)) :
    Run (ownSliceM o lo hi) σ (.obj h1.length) ⟨l1, h1 ++ [.lst ds]⟩ := by
  refine run_bind ho (run_bind ha (run_bind hb (run_bind hd ?_)))
  rw [hx, hy]
  refine run_bind (a := x) rfl (run_bind (a := y) rfl ?_)
  rw [h]; rfl
theorem r_attr {o : M V} {i n : Nat} (ho : Run o σ (.obj i) ⟨l1, h1⟩) (h : h1[i]? = some (.inst (some n))) : Run (attrM o x__headers) σ (.obj n) ⟨l1, h1⟩ := by
  refine run_bind ho ?_
  unfold Run attrS; simp only [h]; rw [if_pos (by decide)]

/-! statements -/
noncomputable def thenQ (b : M Fl) (R : Fl → St → Prop) : Fl → St → Prop
  | .next, σ => Ok b σ R
  | f, σ => R f σ
theorem o_then {a b : M Fl} (h : Ok a σ (thenQ b R)) : Ok (thenM a b) σ R := by
  refine ok_bind (h.mono fun f s k => ?_)
  cases f with
  | next => exact k
  | _ => exact Run.ok (a := _) (σ' := s) rfl k
theorem o_assoc {a b c : M Fl} (h : Ok (thenM a (thenM b c)) σ R) : Ok (thenM (thenM a b) c) σ R := by
  obtain ⟨f, s, e, q⟩ := h
  refine ⟨f, s, ?_, q⟩
  rw [← e]
  show mbind (mbind a _) _ σ = mbind a _ σ
  unfold mbind
  cases a σ with
  | none => rfl
  | some p =>
    obtain ⟨g, s'⟩ := p
    cases g <;> rfl
theorem o_endthen {b : M Fl} (h : Ok b σ R) : Ok (thenM endM b) σ R := o_then ⟨_, _, rfl, h⟩
theorem o_end (h : R .next σ) : Ok endM σ R := ⟨_, _, rfl, h⟩
theorem o_ret {m : M V} {b : M Fl} (h : Run m σ v σ1) (k : R (.ret v) σ1) : Ok (thenM (retM m) b) σ R := o_then ⟨_, _, run_bind h rfl, k⟩
theorem o_expr {m : M V} {b : M Fl} (h : Run m σ v σ1) (k : Ok b σ1 R) : Ok (thenM (exprM m) b) σ R := o_then ⟨_, _, run_bind h rfl, k⟩
theorem o_asg {K : List (Str × V)} {m : M V} {b : M Fl} (h : Run m σ v ⟨l1, h1⟩) (hk : Kn K l1) (k : ∀ l, Kn ((x, v) :: K) l → Ok b ⟨l, h1⟩ R) : Ok (thenM (asgM x m) b) σ R :=
  o_then ⟨_, _, run_bind h (run_bind (show Run (setLoc x v) ⟨l1, h1⟩ () ⟨upd l1 x v, h1⟩ from rfl) rfl), k _ (kn_put hk)⟩
theorem o_asg2 {A B : V → M Unit} {m : M V} {b : M Fl} {d e : PyData} (h : Run m σ (.dat (.tuple [d, e])) σ1) (hA : Run (A (.dat d)) σ1 () σ2) (hB : Run (B (.dat e)) σ2 () σ3) (k : Ok b σ3 R) : Ok (thenM (asg2M A B m) b) σ R :=
  o_then ⟨_, _, run_bind h (run_bind (run_bind hA hB) rfl), k⟩
theorem o_asgNN {K : List (Str × V)} {m : M V} {b : M Fl} {d e : PyData} (h : Run m σ (.dat (.tuple [d, e])) ⟨l1, h1⟩) (hk : Kn K l1) (k : ∀ l, Kn ((y, .dat e) :: (x, .dat d) :: K) l → Ok b ⟨l, h1⟩ R) : Ok (thenM (asg2M (setLoc x) (setLoc y) m) b) σ R :=
  o_asg2 (σ2 := ⟨upd l1 x (.dat d), h1⟩) (σ3 := ⟨upd (upd l1 x (.dat d)) y (.dat e), h1⟩) h rfl rfl (k _ (kn_put (kn_put hk)))
theorem o_asgAttr {o m : M V} {b : M Fl} {i j : Nat} {ds : List PyData} (hm : Run m σ (.obj j) σ1) (ho : Run o σ1 (.obj i) ⟨l1, h1⟩) (hi : h1[i]? = some (.inst none)) (hj : h1[j]? = some (.lst ds)) (k : Ok b ⟨l1, h1.set i (.inst (some j))⟩ R) : Ok (thenM (asgAttrM o x__headers m) b) σ R :=
  o_then ⟨_, _, run_bind hm (run_bind (run_bind ho (show Run (setAttrS (.obj i) x__headers (.obj j)) ⟨l1, h1⟩ () ⟨l1, h1.set i (.inst (some j))⟩ by unfold Run setAttrS; simp only [hi, hj]; rw [if_pos (by decide)])) rfl), k⟩
theorem o_if {t : M Bool} {a b c : M Fl} {q : Bool} (h : Run t σ q σ1) (k1 : q = true → Ok (thenM a c) σ1 R) (k0 : q = false → Ok (thenM b c) σ1 R) : Ok (thenM (ifM t a b) c) σ R := by
  have e : Ok (thenM (bif q then a else b) c) σ1 R := by cases q; exact k0 rfl; exact k1 rfl
  obtain ⟨f, s, e, k⟩ := e
  refine ⟨f, s, ?_, k⟩
  rw [← e]
  show mbind (mbind t _) _ σ = mbind _ _ σ1
  unfold mbind
  rw [show t σ = some (q, σ1) from h]
theorem o_if1 {t : M Bool} {a b c : M Fl} (h : Run t σ true σ1) (k1 : Ok (thenM a c) σ1 R) : Ok (thenM (ifM t a b) c) σ R := o_if h (fun _ => k1) (fun e => by cases e)
theorem o_if0 {t : M Bool} {a b c : M Fl} (h : Run t σ false σ1) (k1 : Ok (thenM b c) σ1 R) : Ok (thenM (ifM t a b) c) σ R := o_if h (fun e => by cases e) (fun _ => k1)

/-! loops -/
noncomputable def cutS (n : Nat) (σ : St) : St := ⟨cutL n σ.loc, σ.heap.take n⟩
noncomputable def Cut (n : Nat) (R : Fl → St → Prop) (f : Fl) (σ : St) : Prop := okF n f = true ∧ (σ.heap.take n).all (okO n) = true ∧ R f (cutS n σ)
theorem o_scope {m : M Fl} (h : Ok m σ (Cut σ.heap.length R)) : Ok (scopeM m) σ R := by
  obtain ⟨f, s, e, h1, h2, h3⟩ := h
  refine ⟨f, cutS σ.heap.length s, ?_, h3⟩
  unfold scopeM
  rw [e]
  simp only [h1, if_true]
  unfold cutM
  rw [if_pos h2]; rfl
/-- what a turn of a loop leaves -/
noncomputable def turnQ (I : St → Prop) (R : Fl → St → Prop) : Fl → St → Prop
  | .brk, σ => R .next σ
  | .ret r, σ => R (.ret r) σ
  | _, σ => I σ
theorem o_forS {bind : V → M Unit} {body : M Fl} (I : List V → St → Prop) (hend : ∀ s vs, I vs s → vs = [] → R .next s) (hstep : ∀ v vs s, I (v :: vs) s → Ok (bind v >>= fun _ => body) s (Cut s.heap.length (turnQ (I vs) R))) : ∀ {vs : List V} {σ : St}, I vs σ → Ok (forS bind body vs) σ R
  | [], σ, h => ⟨_, _, rfl, hend _ _ h rfl⟩
  | v :: vs, σ, h => by
    obtain ⟨f, s, e, q⟩ := o_scope (hstep v vs σ h)
    have e' : scopeM (do bind v; body) σ = some (f, s) := e
    cases f with
    | brk => exact ⟨.next, s, by simp only [forS, e'], q⟩
    | ret r => exact ⟨.ret r, s, by simp only [forS, e'], q⟩
    | next =>
      obtain ⟨g, s', e2, q2⟩ := o_forS I hend hstep (vs := vs) q
      exact ⟨g, s', by simp only [forS, e', e2], q2⟩
    | cont =>
      obtain ⟨g, s', e2, q2⟩ := o_forS I hend hstep (vs := vs) q
      exact ⟨g, s', by simp only [forS, e', e2], q2⟩
theorem o_whileS {t : M Bool} {body : M Fl} (I : Nat → St → Prop) (hstep : ∀ k s, I k s → Ok t s fun b s' => if b then (∃ j, k = j + 1 ∧ Ok body s' (Cut s'.heap.length (turnQ (I j) R))) else R .next s') : ∀ {k n : Nat} {σ : St}, k < n → I k σ → Ok (whileS t body n) σ R
  | k, 0, _, h, _ => absurd h (by omega)
  | k, n + 1, σ, h, hI => by
    obtain ⟨b, s, e, q⟩ := hstep k σ hI
    cases b with
    | false => exact ⟨.next, s, by simp only [whileS, e], q⟩
    | true =>
      simp only [if_true] at q
      obtain ⟨j, rfl, q⟩ := q
      obtain ⟨f, s', e', q'⟩ := o_scope q
      cases f with
      | brk => exact ⟨.next, s', by simp only [whileS, e, e'], q'⟩
      | ret r => exact ⟨.ret r, s', by simp only [whileS, e, e'], q'⟩
      | next =>
        obtain ⟨g, s2, e2, q2⟩ := o_whileS I hstep (k := j) (n := n) (by omega) q'
        exact ⟨g, s2, by simp only [whileS, e, e', e2], q2⟩
      | cont =>
        obtain ⟨g, s2, e2, q2⟩ := o_whileS I hstep (k := j) (n := n) (by omega) q'
        exact ⟨g, s2, by simp only [whileS, e, e', e2], q2⟩
/-- a loop over data with one name; the turns are counted -/
theorem o_forK {α : Type} {body : M Fl} (xs : List α) (e : α → PyData) (I : Nat → (Str → Option V) → List AObj → Prop) (h0 : I 0 l hp)
    (hstep : ∀ (k : Nat) (a : α) (l : Str → Option V) (hp : List AObj), xs[k]? = some a → I k l hp → ∀ l' : Str → Option V, (∀ K, Kn K l → Kn ((x, .dat (e a)) :: K) l') → Ok body ⟨l', hp⟩ (Cut hp.length (turnQ (fun s => I (k + 1) s.loc s.heap) R)))
    (hend : ∀ l hp, I xs.length l hp → R .next ⟨l, hp⟩) : Ok (forS (setLoc x) body ((xs.map e).map .dat)) ⟨l, hp⟩ R := by
  refine o_forS (fun vs s => ∃ k, k ≤ xs.length ∧ vs = ((xs.drop k).map e).map V.dat ∧ I k s.loc s.heap) ?_ ?_ ⟨0, Nat.zero_le _, rfl, h0⟩
  · rintro ⟨l, hp⟩ vs ⟨k, hk, hv, hI⟩ rfl
    have : xs.drop k = [] := by simpa using hv.symm
    have : k = xs.length := Nat.le_antisymm hk (List.drop_eq_nil_iff.mp this)
    subst this
    exact hend l hp hI
  · rintro v vs ⟨l, hp⟩ ⟨k, hk, hv, hI⟩
    cases q : xs[k]? with
    | none =>
      rw [List.drop_eq_nil_of_le (List.getElem?_eq_none_iff.mp q)] at hv; cases hv
    | some a =>
      obtain ⟨hlt, rfl⟩ := List.getElem?_eq_some_iff.mp q
      rw [List.drop_eq_getElem_cons hlt, List.map_cons, List.map_cons, List.cons.injEq] at hv
      obtain ⟨rfl, rfl⟩ := hv
      refine ok_run (show Run (setLoc x (.dat (e xs[k]))) ⟨l, hp⟩ () ⟨upd l x (.dat (e xs[k])), hp⟩ from rfl) ?_
      refine (hstep k _ l hp q hI _ fun K hK => kn_put hK).mono fun f s h => ⟨h.1, h.2.1, ?_⟩
      have h3 := h.2.2
      cases f with
      | brk => exact h3
      | ret r => exact h3
      | next => exact ⟨k + 1, hlt, rfl, h3⟩
      | cont => exact ⟨k + 1, hlt, rfl, h3⟩
/-- the same with a pair of names -/
theorem o_forK2 {α : Type} {body : M Fl} (xs : List α) (e1 e2 : α → PyData) (I : Nat → (Str → Option V) → List AObj → Prop) (h0 : I 0 l hp)
    (hstep : ∀ (k : Nat) (a : α) (l : Str → Option V) (hp : List AObj), xs[k]? = some a → I k l hp → ∀ l' : Str → Option V, (∀ K, Kn K l → Kn ((y, .dat (e2 a)) :: (x, .dat (e1 a)) :: K) l') → Ok body ⟨l', hp⟩ (Cut hp.length (turnQ (fun s => I (k + 1) s.loc s.heap) R)))
    (hend : ∀ l hp, I xs.length l hp → R .next ⟨l, hp⟩) : Ok (forS (two (setLoc x) (setLoc y)) body ((xs.map fun a => .tuple [e1 a, e2 a]).map .dat)) ⟨l, hp⟩ R := by
  refine o_forS (fun vs s => ∃ k, k ≤ xs.length ∧ vs = ((xs.drop k).map fun a => PyData.tuple [e1 a, e2 a]).map V.dat ∧ I k s.loc s.heap) ?_ ?_ ⟨0, Nat.zero_le _, rfl, h0⟩
  · rintro ⟨l, hp⟩ vs ⟨k, hk, hv, hI⟩ rfl
    have : xs.drop k = [] := by simpa using hv.symm
    have : k = xs.length := Nat.le_antisymm hk (List.drop_eq_nil_iff.mp this)
    subst this
    exact hend l hp hI
  · rintro v vs ⟨l, hp⟩ ⟨k, hk, hv, hI⟩
    cases q : xs[k]? with
    | none =>
      rw [List.drop_eq_nil_of_le (List.getElem?_eq_none_iff.mp q)] at hv; cases hv
    | some a =>
      obtain ⟨hlt, rfl⟩ := List.getElem?_eq_some_iff.mp q
      rw [List.drop_eq_getElem_cons hlt, List.map_cons, List.map_cons, List.cons.injEq] at hv
      obtain ⟨rfl, rfl⟩ := hv
      refine ok_run (show Run (two (setLoc x) (setLoc y) (.dat (.tuple [e1 xs[k], e2 xs[k]]))) ⟨l, hp⟩ () ⟨upd (upd l x (.dat (e1 xs[k]))) y (.dat (e2 xs[k])), hp⟩ from rfl) ?_
      refine (hstep k _ l hp q hI _ fun K hK => kn_put (kn_put hK)).mono fun f s h => ⟨h.1, h.2.1, ?_⟩
      have h3 := h.2.2
      cases f with
      | brk => exact h3
      | ret r => exact h3
      | next => exact ⟨k + 1, hlt, rfl, h3⟩
      | cont => exact ⟨k + 1, hlt, rfl, h3⟩
/-- a while loop whose turns are counted down -/
theorem o_whileK {t : M Bool} {body : M Fl} (I : Nat → (Str → Option V) → List AObj → Prop) {k n : Nat} (hn : k < n) (h0 : I k l hp)
    (hstep : ∀ k l hp, I k l hp → Ok t ⟨l, hp⟩ fun b s => if b then (∃ j, k = j + 1 ∧ Ok body s (Cut s.heap.length (turnQ (fun s => I j s.loc s.heap) R))) else R .next s) : Ok (whileS t body n) ⟨l, hp⟩ R :=
  o_whileS (fun k s => I k s.loc s.heap) (fun k s h => hstep k s.loc s.heap h) hn h0
theorem o_for {bind : V → M Unit} {body : M Fl} {it : M V} {b : M Fl} (h : Run it σ v σ1) (k : Ok (forV bind body v) σ1 (thenQ b R)) : Ok (thenM (forM bind body it) b) σ R := o_then (ok_run h k)
theorem o_forDat {bind : V → M Unit} {body : M Fl} {d : PyData} {ds : List PyData} (h : itemsD d = some ds) (k : Ok (forS bind body (ds.map .dat)) σ R) : Ok (forV bind body (.dat d)) σ R := by
  show Ok (match itemsD d with | some ds => forS bind body (ds.map .dat) | none => mfail) σ R
  rw [h]; exact k
theorem o_forObj {bind : V → M Unit} {body : M Fl} {i : Nat} {ds : List PyData} (h : hp[i]? = some (.lst ds)) (k : Ok (forS bind body (ds.map .dat)) ⟨l, hp.set i (.frz ds)⟩ fun f s => R f ⟨s.loc, s.heap.set i (.lst ds)⟩) : Ok (forV bind body (.obj i)) ⟨l, hp⟩ R := by
  obtain ⟨f, s, e, q⟩ := k
  refine ⟨f, _, ?_, q⟩
  show frozenG i _ ⟨l, hp⟩ = _
  unfold frozenG
  simp only [h, e]
theorem o_while {t : M Bool} {body b : M Fl} {n : Nat} (k : Ok (whileS t body n) σ (thenQ b R)) : Ok (thenM (whileS t body n) b) σ R := o_then k
/-! comprehensions -/
/-! calls of defs -/
theorem callB_ok {ps : List Str} {mb : M Fl} {vs : List V} {S : V → St → Prop} (hl : ps.length = vs.length) (h : ∀ l', Kn (ps.zip vs) l' → Ok mb ⟨l', hp⟩ fun f s => s.heap.length = hp.length ∧ S (retV f) ⟨l, s.heap⟩) : Ok (callB ps mb vs) ⟨l, hp⟩ S := by
  obtain ⟨f, s, e, q, k⟩ := h _ kn_par
  exact ⟨_, _, callB_same (σ := ⟨l, hp⟩) hl e q, k⟩
end

end Mine
end

section
open PySem
set_option Elab.async false
set_option maxRecDepth 10000
namespace Mine

noncomputable def wf (hp : List AObj) : Bool := hp.all (okO hp.length)

theorem set_back {hp : List AObj} {l : Nat} {o x : AObj} (h : hp[l]? = some o) : (hp.set l x).set l o = hp := by
  rw [List.set_set]
  apply List.ext_getElem?
  intro j
  rw [List.getElem?_set]
  split
  · rename_i hj
    subst hj
    obtain ⟨hlt, e⟩ := List.getElem?_eq_some_iff.mp h
    rw [if_pos hlt, h]
  · rfl

theorem wf_set {hp : List AObj} {l : Nat} {o : AObj} (h : wf hp = true) (ho : okO hp.length o = true) : wf (hp.set l o) = true := by
  unfold wf at *
  rw [List.all_eq_true] at *
  intro x hx
  rw [List.length_set]
  rcases List.mem_or_eq_of_mem_set hx with hx | rfl
  · exact h x hx
  · exact ho

section
variable {Q : Prm} {l l1 l2 l3 : Str → Option V} {hp h1 h2 h3 : List AObj} {σ σ1 σ2 σ3 : St} {x y : Str} {v w : V} {R : Fl → St → Prop}

end

theorem cut_ok {hp : List AObj} {l : Str → Option V} {f : Fl} {R : Fl → St → Prop} (hw : wf hp = true) (hf : okF hp.length f = true) (h : R f ⟨cutL hp.length l, hp⟩) : Cut hp.length R f ⟨l, hp⟩ := by
  refine ⟨hf, ?_, ?_⟩
  · show (hp.take hp.length).all _ = true
    rw [List.take_length]; exact hw
  · show R f ⟨cutL hp.length l, hp.take hp.length⟩
    rw [List.take_length]; exact h

theorem cut_ok' {hp : List AObj} {l : Str → Option V} {f : Fl} {R : Fl → St → Prop} {n : Nat} (hn : hp.length = n) (hw : wf hp = true) (hf : okF n f = true) (h : R f ⟨cutL n l, hp⟩) : Cut n R f ⟨l, hp⟩ := by
  subst hn; exact cut_ok hw hf h

/-! heaps that end in one more list -/
theorem last_get {hp : List AObj} {o : AObj} : (hp ++ [o])[hp.length]? = some o := by simp
theorem last_set {hp : List AObj} {o o' : AObj} : (hp ++ [o]).set hp.length o' = hp ++ [o'] := by simp
theorem last_len {hp : List AObj} {o : AObj} : (hp ++ [o]).length = hp.length + 1 := by simp
theorem last_left {hp : List AObj} {o x : AObj} {i : Nat} (h : hp[i]? = some x) : (hp ++ [o])[i]? = some x := by
  rw [List.getElem?_append_left (List.getElem?_eq_some_iff.mp h).1]; exact h
theorem set_left {hp : List AObj} {o x y : AObj} {i : Nat} (h : hp[i]? = some x) : (hp ++ [o]).set i y = hp.set i y ++ [o] := List.set_append_left _ _ (List.getElem?_eq_some_iff.mp h).1
theorem wf_lst {hp : List AObj} {ds : List PyData} (hw : wf hp = true) : wf (hp ++ [.lst ds]) = true := by
  unfold wf at *
  rw [List.all_eq_true] at *
  intro o ho
  rw [List.length_append]
  rcases List.mem_append.mp ho with ho | ho
  · have := hw o ho
    cases o with
    | inst q =>
      cases q with
      | none => rfl
      | some l' => exact decide_eq_true (Nat.lt_add_right _ (of_decide_eq_true this))
    | _ => rfl
  · rw [List.mem_singleton.mp ho]; rfl
theorem okV_lt {i n : Nat} (h : i < n) : okV n (.obj i) = true := decide_eq_true h

/-! pairs -/
noncomputable def pr (a : Str × Str) : PyData := .tuple [.str a.1, .str a.2]
noncomputable def tinyS (s : Str) : Prop := s.length ≤ 1000
noncomputable def tiny (ps : List (Str × Str)) : Prop := ps.length ≤ 1000 ∧ ∀ p ∈ ps, tinyS p.1 ∧ tinyS p.2
structure Tb (hp : List AObj) (i n : Nat) (ps : List (Str × Str)) : Prop where
  i : hp[i]? = some (.inst (some n))
  n : hp[n]? = some (.lst (ps.map pr))
  wf : wf hp = true
  tiny : tiny ps

theorem tinyS.big {s : Str} (h : tinyS s) : s.length ≤ big := Nat.le_trans h (by decide)
theorem tiny.big {ps : List (Str × Str)} (h : tiny ps) : ps.length ≤ big := Nat.le_trans h.1 (by decide)
end Mine
end

section
open PySem
open Mine
local macro_rules | `(tactic| wtm_at $k:str) => do
  let one (w : String) : Lean.MacroM (Lean.TSyntax `tactic) := do
    match w.splitOn ":" with
    | [n, c] =>
      let t0 ← if n == "" then `(tactic| skip) else `(tactic| with_reducible apply $(Lean.mkIdent n.toName))
      c.toList.foldlM (fun (t : Lean.TSyntax `tactic) (ch : Char) =>
        if ch == 'e' || ch == 's' || ch == 'k' then `(tactic| ($t:tactic; (· wtm_at $(Lean.Syntax.mkStrLit (if ch == 'e' then "ev" else if ch == 's' then "sd" else "kn")))))
        else if ch == 'a' then `(tactic| ($t:tactic; (· with_reducible assumption)))
        else if ch == 'r' then `(tactic| ($t:tactic; (· exact rfl)))
        else if ch == 'o' then `(tactic| ($t:tactic; omega))
        else if ch == 'd' then `(tactic| ($t:tactic; decide))
        else if ch == '=' then `(tactic| (guard_target =~ _ = _; first | exact rfl | exact if_pos (by wtm_at "sd")))
        else if ch == 'n' then `(tactic| ($t:tactic; intro _))
        else `(tactic| ($t:tactic; intro $(Lean.mkIdent `l) $(Lean.mkIdent `hk)))) t0
    | _ => Lean.Macro.throwUnsupported
  let alts (s : String) : Lean.MacroM (Lean.TSyntax `tactic) := do
    let ts ← (s.splitOn " ").mapM one
    ts.foldrM (fun (t acc : Lean.TSyntax `tactic) => `(tactic| first | $t:tactic | $acc:tactic)) (← `(tactic| fail))
  match k.getString with
  | "ev" => `(tactic| repeat' wtm_at "ru")
  | "sd" => alts ":a :r leB:r :d :o"
  | "kn" => alts ":a kn_nil: kn_cons:ark"
  | "ru" => alts ":a r_dat: r_name: rd_dat: q_nil: kw_nil: r_pure: r_bin: r_cmp: r_item: r_str: r_im: r_lm: r_blt: r_call: q_cons: kw_cons: r_attr: r_lst: r_tup: r_ownLst: r_list1: r_ownList: r_un: r_slice: r_ownSlice: r_mk: r_setIt: r_join: r_and: t_cmp: t_not: t_and: t_or: t_tru: as_one: a_set: b_addI: b_subI: b_fdiv: b_mod: b_mul: b_addS: b_addL: b_dat: cEqS: cNeS: cEqI: cNeI: c_inst:s c_rd: i_inst:s i_rd: rd_obj:s rd_frz:s s_inst:s s_lst: f_len:r f_lenI:r f_intI: f_str: f_range: f_range2: lo_rng: lo_rd: op_none: op_some: u_neg: ml_append: ml_insert: ml_pop: ml_pop0: ml_rev: ad_nil: ad_cons: conv_at:a m_set:a m_del:a m_at:a m_get:a m_getd:a m_has:a m_len:a m_keys:a m_vals:a m_items:a m_itemsO:a m_all:a m_make0:a m_beh:a m_cnt:a m_end:a m_add:a := :n :s"
  | "st" => alts "o_assoc: o_endthen: o_asg:eai o_expr:e o_aug:areei o_ret:e o_asgNN:eai o_asg2:eee o_asgIt:ee o_asgSw:eai o_asgAll:eess o_asgAttr:eess o_del:eese o_end:"
  | _ => Lean.Macro.throwUnsupported

section
open PySem
set_option Elab.async false
set_option maxRecDepth 10000
set_option linter.unusedVariables false
namespace Mine
noncomputable def Dinit_b1 (Q : Prm) : M Fl := thenM (exprM (imM Q (nameS x_self) x__convert_string_type [nameS x_k] [(x_name, datM (.bool true))])) (thenM (exprM (imM Q (nameS x_self) x__convert_string_type [nameS x_v] [(x_name, datM (.bool false))])) (endM))
noncomputable def Dinit_r2 (Q : Prm) : M Fl := thenM (asgAttrM (nameS x_self) x__headers (nameS x_headers)) (thenM (ifM (truT (datM (.bool true))) (thenM (forM (two (setLoc x_k) (setLoc x_v)) (Dinit_b1 Q) (nameS x_headers)) (endM)) (endM)) (endM))
noncomputable def Dinit (Q : Prm) : M Fl := thenM (asgM x_headers (ifxM (truT (cmpM Q .IsNot (nameS x_headers) (datM .none))) (nameS x_headers) (ownLstM Q []))) (thenM (ifM (truT (typM .IsNot (nameS x_headers) x_list)) (thenM (mfail) (endM)) (endM)) (Dinit_r2 Q))
noncomputable def Dlen (Q : Prm) : M Fl := thenM (retM (bltM (lenB Q) [attrM (nameS x_self) x__headers])) (endM)
noncomputable def DitemsO (Q : Prm) : M Fl := thenM (retM (ownSliceM (attrM (nameS x_self) x__headers) none none)) (endM)
section
variable {Q : Prm} {l : Str → Option V} {hp : List AObj} {i n : Nat} {ps : List (Str × Str)} {a b : Str}

theorem conv_at {σ : St} {o : Nat} {x : Str} {c : Bool} (hQ : Q.mt sConv = convP) (hx : x.length ≤ big) : Run (Q.mt x__convert_string_type (.obj o) [.dat (.str x)] [(x_name, .dat (.bool c))]) σ (.dat (.str x)) σ := by
  show Q.mt sConv (.obj o) [.dat (.str x)] [(sName, .dat (.bool c))] σ = _
  rw [hQ]; exact convP_at hx

theorem body_len (t : Tb hp i n ps) (hk : Kn [(x_self, .obj i)] l) : Ok (Dlen Q) ⟨l, hp⟩ fun f s => f = .ret (.dat (.int ps.length)) ∧ s.heap = hp := by
  have h1 := t.i
  have h2 : hp[n]? = some (.lst (ps.map pr)) := t.n
  unfold Dlen
  have h3 : isInst (.obj n) ⟨l, hp⟩ = false := by unfold isInst; simp only [h2]
  have h4 : Run (lenB Q [.obj n]) ⟨l, hp⟩ (.dat (.int ps.length)) ⟨l, hp⟩ := f_len h3 (rd_obj h2) (by simp [lenD]) t.tiny.big
  wtm_at "st"
  exact ⟨rfl, rfl⟩

theorem body_itemsO (t : Tb hp i n ps) (hk : Kn [(x_self, .obj i)] l) : Ok (DitemsO Q) ⟨l, hp⟩ fun f s => f = .ret (.obj hp.length) ∧ s.heap = hp ++ [.lst (ps.map pr)] := by
  have h1 := t.i
  have h2 := t.n
  unfold DitemsO
  have h3 : cutD none none (.list (ps.map pr)) = some (.list (ps.map pr)) := by
    show (if _ then _ else _) = _
    rw [if_pos (by rw [List.length_map]; exact t.tiny.big)]
    show some (PyData.list (((ps.map pr).take (ps.map pr).length).drop 0)) = _
    rw [List.take_length]; rfl
  apply o_ret
  · wtm_at "ev"
  exact ⟨rfl, rfl⟩

end
end Mine
end

section
open PySem
set_option Elab.async false
set_option maxRecDepth 10000
set_option linter.unusedVariables false
namespace Mine

section
variable {Q : Prm} {l : Str → Option V} {hp : List AObj} {i n : Nat} {ps : List (Str × Str)} {a b : Str} {d : PyData}

/-! what the methods do on a table -/
noncomputable def MLen (Q : Prm) : Prop := ∀ {hp : List AObj} {i n : Nat} {ps : List (Str × Str)} {l : Str → Option V}, Tb hp i n ps → Run (Q.mt x___len__ (.obj i) [] []) ⟨l, hp⟩ (.dat (.int ps.length)) ⟨l, hp⟩
noncomputable def MItemsO (Q : Prm) : Prop := ∀ {hp : List AObj} {i n : Nat} {ps : List (Str × Str)} {l : Str → Option V}, Tb hp i n ps → Run (Q.mt x_items (.obj i) [] []) ⟨l, hp⟩ (.obj hp.length) ⟨l, hp ++ [.lst (ps.map pr)]⟩
noncomputable def MMake0 (Q : Prm) : Prop := ∀ {hp : List AObj} {l : Str → Option V}, Run (Q.make []) ⟨l, hp⟩ (.obj hp.length) ⟨l, hp ++ [.inst (some (hp.length + 1)), .lst (([] : List (Str × Str)).map pr)]⟩
noncomputable def MMake1 (Q : Prm) : Prop := ∀ {hp : List AObj} {n : Nat} {ps : List (Str × Str)} {l : Str → Option V}, hp[n]? = some (.lst (ps.map pr)) → wf hp = true → tiny ps → Run (Q.make [.obj n]) ⟨l, hp⟩ (.obj hp.length) ⟨l, hp ++ [.inst (some n)]⟩

theorem m_len (h : MLen Q) (t : Tb hp i n ps) : Run (Q.mt x___len__ (.obj i) [] []) ⟨l, hp⟩ (.dat (.int ps.length)) ⟨l, hp⟩ := h t
theorem m_itemsO (h : MItemsO Q) (t : Tb hp i n ps) : Run (Q.mt x_items (.obj i) [] []) ⟨l, hp⟩ (.obj hp.length) ⟨l, hp ++ [.lst (ps.map pr)]⟩ := h t
theorem m_make0 (h : MMake0 Q) : Run (Q.make []) ⟨l, hp⟩ (.obj hp.length) ⟨l, hp ++ [.inst (some (hp.length + 1)), .lst (([] : List (Str × Str)).map pr)]⟩ := h
theorem m_make1 (h : MMake1 Q) (hn : hp[n]? = some (.lst (ps.map pr))) (hw : wf hp = true) (ht : tiny ps) : Run (Q.make [.obj n]) ⟨l, hp⟩ (.obj hp.length) ⟨l, hp ++ [.inst (some n)]⟩ := h hn hw ht


theorem r_typL {m : M V} {σ : St} {j : Nat} {l1 : Str → Option V} {h1 : List AObj} {ds : List PyData} (h : Run m σ (.obj j) ⟨l1, h1⟩) (hj : h1[j]? = some (.lst ds)) : Run (typM .IsNot m x_list) σ (.dat (.bool false)) ⟨l1, h1⟩ := by
  have e : Run (typeN (.obj j)) ⟨l1, h1⟩ (Str.ofString "list") ⟨l1, h1⟩ := by unfold Run typeN; simp only [hj]
  exact run_bind h (run_bind e rfl)
theorem tr_debug {σ : St} : Run (truT (datM (.bool true))) σ true σ := rfl
theorem body_init0 (hi : hp[i]? = some (.inst none)) (hk : Kn [(x_self, .obj i), (x_headers, .dat .none)] l) : Ok (Dinit Q) ⟨l, hp⟩ fun f s => f = .next ∧ s.heap = (hp ++ [AObj.lst []]).set i (.inst (some hp.length)) := by
  have hlt : i < hp.length := (List.getElem?_eq_some_iff.mp hi).1
  unfold Dinit
  have h1 : (hp ++ [AObj.lst []])[hp.length]? = some (.lst []) := by simp
  have h2 : (hp ++ [AObj.lst []])[i]? = some (.inst none) := by rw [List.getElem?_append_left hlt]; exact hi
  refine o_asg (v := .obj hp.length) (l1 := l) (h1 := hp ++ [.lst []]) (r_ifx0 (σ1 := ⟨l, hp⟩) (by wtm_at "ev") (by wtm_at "ev")) hk fun l hk => ?_
  refine o_if0 (t_bool (r_typL (r_name hk rfl) h1)) ?_
  apply o_endthen
  unfold Dinit_r2
  wtm_at "st"
  have h3 : ((hp ++ [AObj.lst []]).set i (.inst (some hp.length)))[hp.length]? = some (.lst []) := by
    rw [List.getElem?_set_ne (Nat.ne_of_lt hlt)]; exact h1
  apply o_if1 tr_debug
  apply o_assoc
  apply o_for
  · wtm_at "ev"
  refine o_forObj h3 ?_
  refine ⟨_, _, rfl, ?_⟩
  show Ok (thenM endM endM) _ _
  refine o_endthen (o_end ⟨rfl, ?_⟩)
  exact set_back h3

theorem init_loop (hQ : Q.mt sConv = convP) {P : Fl → St → Prop} (hi : hp[i]? = some (.inst (some n))) (hw : wf hp = true) (hP : ∀ l, P .next ⟨l, hp⟩) (ps : List (Str × Str)) (ht : ∀ p ∈ ps, tinyS p.1 ∧ tinyS p.2) (hk : Kn [(x_self, .obj i)] l) : Ok (forS (two (setLoc x_k) (setLoc x_v)) (Dinit_b1 Q) ((ps.map pr).map .dat)) ⟨l, hp⟩ P := by
  have hlt : i < hp.length := (List.getElem?_eq_some_iff.mp hi).1
  refine o_forK2 (x := x_k) (y := x_v) ps (fun p => .str p.1) (fun p => .str p.2) (fun k l h => h = hp ∧ Kn [(x_self, .obj i)] l) ⟨rfl, hk⟩ ?_ (fun l h q => q.1 ▸ hP l)
  rintro k p l h' hp' ⟨rfl, hk⟩ l' hl
  have hk := hl _ hk
  have hp1 := (ht p (List.mem_of_getElem? hp')).1.big
  have hp2 := (ht p (List.mem_of_getElem? hp')).2.big
  unfold Dinit_b1
  wtm_at "st"
  wtm_at "st"
  refine o_end (cut_ok hw rfl ⟨rfl, kn_cut (by simp [okV, hlt]) ?_⟩)
  wtm_at "kn"

theorem body_init1 (hQ : Q.mt sConv = convP) (hi : hp[i]? = some (.inst none)) (hn : hp[n]? = some (.lst (ps.map pr))) (ht : tiny ps) (hw : wf hp = true) (hk : Kn [(x_self, .obj i), (x_headers, .obj n)] l) : Ok (Dinit Q) ⟨l, hp⟩ fun f s => f = .next ∧ s.heap = hp.set i (.inst (some n)) := by
  have hlt : i < hp.length := (List.getElem?_eq_some_iff.mp hi).1
  have hln : n < hp.length := (List.getElem?_eq_some_iff.mp hn).1
  have hne : i ≠ n := by
    rintro rfl
    have := hi.symm.trans hn
    cases this
  unfold Dinit
  refine o_asg (v := .obj n) (l1 := l) (h1 := hp) (r_ifx1 (σ1 := ⟨l, hp⟩) (t_bool (r_cmp (v := .obj n) (by wtm_at "ev") (by wtm_at "ev") (c_rd (rd_obj hn) rd_dat rfl))) (by wtm_at "ev")) hk fun l hk => ?_
  refine o_if0 (t_bool (r_typL (r_name hk rfl) hn)) ?_
  apply o_endthen
  unfold Dinit_r2
  wtm_at "st"
  have h3 : (hp.set i (.inst (some n)))[n]? = some (.lst (ps.map pr)) := by
    rw [List.getElem?_set_ne hne]; exact hn
  have h4 : (hp.set i (.inst (some n)))[i]? = some (.inst (some n)) := by rw [List.getElem?_set_self hlt]
  apply o_if1 tr_debug
  apply o_assoc
  apply o_for
  · wtm_at "ev"
  refine o_forObj h3 (init_loop hQ (i := i) (n := n) ?_ ?_ ?_ ps ht.2 (by wtm_at "kn"))
  · rw [List.getElem?_set_ne (Ne.symm hne)]; exact h4
  · exact wf_set (wf_set hw (by simp [okO, hln])) rfl
  · intro l
    show Ok (thenM endM endM) _ _
    refine o_endthen (o_end ⟨rfl, ?_⟩)
    exact set_back h3
end
end Mine
end

section
open PySem
set_option Elab.async false
set_option maxRecDepth 10000
set_option linter.unusedVariables false
namespace Mine

theorem run_of_ok {α : Type} {m : M α} {σ σ' : St} {v : α} (h : Ok m σ fun a s => a = v ∧ s = σ') : Run m σ v σ' := by
  obtain ⟨a, s, e, rfl, rfl⟩ := h; exact e

noncomputable def IsDen (T : Tab) (name : Str) (ps : List Str) (dflt : List Const) (D : Prm → M Fl) : Prop := ∃ f, T.mt name = some ⟨f, ps, dflt, D⟩
noncomputable def IsDenF (T : Tab) (name : Str) (ps : List Str) (D : Prm → M Fl) : Prop := ∃ f, T.fn name = some ⟨f, ps, [], D⟩

section
variable {hp : List AObj} {i n : Nat} {ps : List (Str × Str)} {a b : Str} {l : Str → Option V}
variable {T : Tab} {k : Nat}

theorem callB_grow {ps : List Str} {mb : M Fl} {vs : List V} {f : Fl} {s : St} (hl : ps.length = vs.length) (h : mb ⟨bindP ps vs, hp⟩ = some (f, s)) (hc : (s.heap.take hp.length).all (okO hp.length) = false) : callB ps mb vs ⟨l, hp⟩ = some (retV f, ⟨l, s.heap⟩) := by
  unfold callB
  rw [if_pos hl]
  simp only [h]
  have : (if okV hp.length (retV f) = true then cutM hp.length s else none) = none := by
    split
    · unfold cutM; rw [hc]; rfl
    · rfl
  rw [this]
theorem prm_conv : (prm T (k + 1)).mt sConv = convP := by
  funext self vs ks
  show (if sConv = sConv then convP self vs ks else match T.mt sConv with | some i => if ks.isEmpty then runI (prm T k) i (self :: vs) else mfail | none => mfail) = _
  rw [if_pos rfl]
theorem mt_run {name : Str} {j : Info} {self : V} {vs : List V} (hn : (name == sConv) = false) (hT : T.mt name = some j) : (prm T (k + 1)).mt name self vs [] = runI (prm T k) j (self :: vs) := by
  show (if name = sConv then convP self vs [] else match T.mt name with | some i => if ([] : List (Str × V)).isEmpty then runI (prm T k) i (self :: vs) else mfail | none => mfail) = _
  rw [if_neg (by intro e; subst e; simp at hn), hT]; rfl
theorem fn_run {name : Str} {j : Info} {vs : List V} (hT : T.fn name = some j) : (prm T (k + 1)).fn name vs = runI (prm T k) j vs := by
  show (match T.fn name with | some i => runI (prm T k) i vs | none => mfail) = _
  rw [hT]

theorem mt_at {name : Str} {ps : List Str} {dflt : List Const} {D : Prm → M Fl} {self : V} {vs ws : List V} {r : V} {hp' : List AObj} (hn : (name == sConv) = false) (hd : IsDen T name ps dflt D) (hf : ∀ f, fill ⟨f, ps, dflt, D⟩ (self :: vs) = ws) (hl : ps.length = ws.length) (hlen : hp'.length = hp.length)
    (h : ∀ l', Kn (ps.zip ws) l' → Ok (D (prm T k)) ⟨l', hp⟩ fun f s => retV f = r ∧ s.heap = hp') : Run ((prm T (k + 1)).mt name self vs []) ⟨l, hp⟩ r ⟨l, hp'⟩ := by
  obtain ⟨f, hT⟩ := hd
  rw [mt_run hn hT]
  unfold runI
  rw [hf]
  refine run_of_ok (callB_ok hl fun l' hk => (h l' hk).mono fun f s q => ⟨by rw [q.2]; exact hlen, q.1, by rw [q.2]⟩)
theorem fq {m : M Fl} {σ : St} {f : Fl} {h : List AObj} {r : V} (q : Ok m σ fun g s => g = f ∧ s.heap = h) (e : retV f = r) : Ok m σ fun g s => retV g = r ∧ s.heap = h := q.mono fun g s z => ⟨by rw [z.1]; exact e, z.2⟩

theorem tb_len (d : IsDen T x___len__ [x_self] [] Dlen) : MLen (prm T (k + 1)) := fun {hp i n ps l} t => mt_at (ws := [.obj i]) (by decide) d (fun _ => rfl) rfl rfl fun l' hk => fq (body_len t hk) rfl
theorem callB_new {ps : List Str} {mb : M Fl} {vs : List V} {f : Fl} {s : St} (hl : ps.length = vs.length) (h : mb ⟨bindP ps vs, hp⟩ = some (f, s)) (hv : okV hp.length (retV f) = false) : callB ps mb vs ⟨l, hp⟩ = some (retV f, ⟨l, s.heap⟩) := by
  unfold callB
  rw [if_pos hl]
  simp only [h]
  rw [if_neg (by rw [hv]; decide)]
theorem callB_cut {ps : List Str} {mb : M Fl} {vs : List V} {f : Fl} {s : St} {hp' : List AObj} (hl : ps.length = vs.length) (e : mb ⟨bindP ps vs, hp⟩ = some (f, s)) (hv : okV hp.length (retV f) = true) (ht : s.heap.take hp.length = hp') (hw : hp'.all (okO hp.length) = true) : callB ps mb vs ⟨l, hp⟩ = some (retV f, ⟨l, hp'⟩) := by
  unfold callB
  rw [if_pos hl]
  simp only [e]
  rw [if_pos hv]
  unfold cutM
  rw [ht, if_pos hw]
theorem tb_itemsO (d : IsDen T x_items [x_self] [] DitemsO) : MItemsO (prm T (k + 1)) := fun {hp i n ps l} t => by
  obtain ⟨f, hT⟩ := d
  show _ = _
  rw [mt_run (by decide) hT]
  unfold runI
  obtain ⟨g, s, e, rfl, hh⟩ := body_itemsO (Q := prm T k) t (kn_par (ps := [x_self]) (vs := [.obj i]))
  have hf : fill ⟨f, [x_self], [], DitemsO⟩ [V.obj i] = [.obj i] := rfl
  rw [hf, callB_new rfl e (decide_eq_false (Nat.lt_irrefl _)), hh]
  rfl
/-- a def that leaves nothing behind -/
theorem fn_cut {name : Str} {ps : List Str} {D : Prm → M Fl} {vs : List V} {r : V} {hp' : List AObj} (hd : IsDenF T name ps D) (hl : ps.length = vs.length)
    (h : ∀ l', Kn (ps.zip vs) l' → Ok (D (prm T k)) ⟨l', hp⟩ fun f s => retV f = r ∧ okV hp.length r = true ∧ s.heap.take hp.length = hp' ∧ hp'.all (okO hp.length) = true) : Run ((prm T (k + 1)).fn name vs) ⟨l, hp⟩ r ⟨l, hp'⟩ := by
  obtain ⟨f, hT⟩ := hd
  show _ = _
  rw [fn_run hT]
  unfold runI
  have hf : fill ⟨f, ps, [], D⟩ vs = vs := by unfold fill; simp [kwD]
  rw [hf]
  obtain ⟨g, s, e, h1, h2, h3, h4⟩ := h _ kn_par
  rw [callB_cut (l := l) hl e (by rw [h1]; exact h2) h3 h4, h1]
theorem tb_make0 {f : Addr} (hT : T.init = ⟨f, [x_self, x_headers], [.none], Dinit⟩) : MMake0 (prm T (k + 1)) := fun {hp l} => by
  show Run (makeM (fun self ws => runI (prm T k) T.init (self :: ws)) []) _ _ _
  unfold makeM
  refine run_bind (show Run (newObj (.inst none)) ⟨l, hp⟩ (.obj hp.length) ⟨l, hp ++ [.inst none]⟩ from rfl) (run_bind (a := V.dat PyData.none) (σ1 := ⟨l, hp ++ [AObj.inst (some (hp.length + 1)), AObj.lst (([] : List (Str × Str)).map pr)]⟩) ?_ rfl)
  rw [hT]
  unfold runI
  simp only
  obtain ⟨g, s, e, rfl, hh⟩ := body_init0 (Q := (prm T k)) (hp := hp ++ [.inst none]) (i := hp.length) (by simp) (kn_par (ps := [x_self, x_headers]) (vs := [.obj hp.length, .dat .none]))
  have hfill : fill ⟨f, [x_self, x_headers], [.none], Dinit⟩ [.obj hp.length] = [.obj hp.length, .dat .none] := rfl
  rw [hfill]
  have hs : s.heap = hp ++ [.inst (some (hp.length + 1)), .lst []] := by
    rw [hh]
    simp
  have := callB_grow (l := l) (ps := [x_self, x_headers]) (vs := [.obj hp.length, .dat .none]) rfl e (by
    rw [hs, List.all_eq_false]
    refine ⟨.inst (some (hp.length + 1)), ?_, by simp [okO]⟩
    rw [List.length_append, show hp.length + [AObj.inst none].length = hp.length + 1 from rfl, List.take_length_add_append]
    simp)
  rw [hs] at this
  exact this
theorem wf_app {hp : List AObj} (hw : wf hp = true) : wf (hp ++ [.inst none]) = true := by
  unfold wf at *
  rw [List.all_eq_true] at *
  intro o ho
  rw [List.length_append]
  rcases List.mem_append.mp ho with ho | ho
  · have := hw o ho
    cases o with
    | inst q =>
      cases q with
      | none => rfl
      | some l' => exact decide_eq_true (Nat.lt_add_right _ (of_decide_eq_true this))
    | _ => rfl
  · rw [List.mem_singleton.mp ho]; rfl
theorem tb_make1 {f : Addr} (hT : T.init = ⟨f, [x_self, x_headers], [.none], Dinit⟩) : MMake1 (prm T (k + 2)) := fun {hp n ps l} hn hw ht => by
  have hln : n < hp.length := (List.getElem?_eq_some_iff.mp hn).1
  show Run (makeM (fun self ws => runI (prm T (k + 1)) T.init (self :: ws)) [.obj n]) _ _ _
  unfold makeM
  refine run_bind (show Run (newObj (.inst none)) ⟨l, hp⟩ (.obj hp.length) ⟨l, hp ++ [.inst none]⟩ from rfl) (run_bind (a := V.dat PyData.none) (σ1 := ⟨l, hp ++ [AObj.inst (some n)]⟩) ?_ rfl)
  rw [hT]
  unfold runI
  simp only
  have hfill : fill ⟨f, [x_self, x_headers], [.none], Dinit⟩ [.obj hp.length, .obj n] = [.obj hp.length, .obj n] := rfl
  rw [hfill]
  refine run_of_ok (callB_ok rfl fun l' hk => (body_init1 (Q := prm T (k + 1)) (hp := hp ++ [.inst none]) (i := hp.length) (n := n) (prm_conv (T := T) (k := k)) (by simp) (by rw [List.getElem?_append_left hln]; exact hn) ht (wf_app hw) hk).mono fun f s q => ?_)
  obtain ⟨rfl, hq⟩ := q
  rw [hq]
  exact ⟨by simp, rfl, by simp⟩
end
end Mine
end

section
open PySem
set_option Elab.async false
set_option maxRecDepth 10000
set_option linter.unusedVariables false
namespace Mine

/-! data -/
section
variable {α : Type} [DecidableEq α] {e : α → PyData}
theorem eqvAll_map (h : ∀ a b, PyData.eqv (e a) (e b) = decide (a = b)) : ∀ xs ys : List α, PyData.eqvAll (xs.map e) (ys.map e) = decide (xs = ys)
  | [], [] => by simp [PyData.eqvAll]
  | [], _ :: _ => by simp [PyData.eqvAll]
  | _ :: _, [] => by simp [PyData.eqvAll]
  | x :: xs, y :: ys => by
    simp only [List.map_cons, PyData.eqvAll, h, eqvAll_map h xs ys, List.cons.injEq]
    rw [Bool.decide_and]
theorem depthAll_map {n : Nat} (h : ∀ a, PyData.depth (e a) ≤ n) : ∀ xs : List α, PyData.depthAll (xs.map e) ≤ n
  | [] => by simp [PyData.depthAll]
  | x :: xs => by
    simp only [List.map_cons, PyData.depthAll]
    have := h x
    have := depthAll_map h xs
    omega
theorem cEqL (h : ∀ a b, PyData.eqv (e a) (e b) = decide (a = b)) (hd : ∀ a, PyData.depth (e a) ≤ 10) {xs ys : List α} : cmpD .Eq (.list (xs.map e)) (.list (ys.map e)) = some (decide (xs = ys)) := by
  show (if min (PyData.depth (.list (xs.map e))) (PyData.depth (.list (ys.map e))) ≤ 50 then some (PyData.eqv (.list (xs.map e)) (.list (ys.map e))) else none) = _
  have := depthAll_map hd xs
  have := depthAll_map hd ys
  rw [if_pos (by simp only [PyData.depth]; omega)]
  simp only [PyData.eqv, eqvAll_map h]
end
theorem eqv_pr (x y : Str × Str) : PyData.eqv (pr x) (pr y) = decide (x = y) := by
  obtain ⟨a, b⟩ := x
  obtain ⟨c, d⟩ := y
  simp only [pr, PyData.eqv, PyData.eqvAll, Bool.and_true]
  rw [Bool.eq_iff_iff]
  simp [Prod.mk.injEq]
theorem depth_pr (x : Str × Str) : PyData.depth (pr x) ≤ 10 := by simp [pr, PyData.depth, PyData.depthAll]
theorem cEqPr {ps qs : List (Str × Str)} : cmpD .Eq (.list (ps.map pr)) (.list (qs.map pr)) = some (decide (ps = qs)) := cEqL eqv_pr depth_pr
theorem idx_nat {k n : Nat} (h : k < n) : seqIndex? (k : Int) n = some k := by
  unfold seqIndex?
  simp only [show ¬ ((k : Int) < 0) by omega, if_false]
  rw [if_pos (by simp; omega)]; simp
theorem item_map {α : Type} {e : α → PyData} {xs : List α} {k : Nat} {a : α} (h : xs[k]? = some a) : itemD (.list (xs.map e)) (.int k) = some (e a) := by
  have hk : k < xs.length := (List.getElem?_eq_some_iff.mp h).1
  show (seqIndex? _ _).bind _ = _
  rw [idx_nat (by rw [List.length_map]; exact hk)]
  simp [h]
/-- one sign -/
noncomputable def ch (c : Nat) : Str := ⟨#[c]⟩
theorem ch_inj {a b : Nat} : ch a = ch b ↔ a = b := by
  unfold ch; simp
theorem ch_tiny (c : Nat) : tinyS (ch c) := by unfold tinyS ch Str.length; simp
theorem item_str {s : Str} {k : Nat} {c : Nat} (h : s.cps.toList[k]? = some c) : itemD (.str s) (.int k) = some (.str (ch c)) := by
  have hk : k < s.cps.toList.length := (List.getElem?_eq_some_iff.mp h).1
  show ((seqIndex? _ _).bind _).map _ = _
  rw [idx_nat (n := s.length) (by unfold Str.length; simpa using hk)]
  have : s.cps[k]? = some c := by rw [← h]; simp
  simp only [Option.bind_some, this, Option.map_some]; rfl
theorem item_strI {s : Str} {k : Int} {c : Nat} (h0 : 0 ≤ k) (h : s.cps.toList[k.toNat]? = some c) : itemD (.str s) (.int k) = some (.str (ch c)) := by
  obtain ⟨n, rfl⟩ := Int.eq_ofNat_of_zero_le h0
  exact item_str h
theorem fmod_range {n m : Int} (h : 0 < m) : 0 ≤ n.fmod m ∧ n.fmod m < m := ⟨Int.fmod_nonneg_of_pos _ h, Int.fmod_lt_of_pos _ h⟩
theorem strI_tiny64 : ∀ k : Nat, k < 128 → tinyS (strI k) := by
  unfold tinyS
  decide +kernel

end Mine
end

section
open PySem
set_option Elab.async false
set_option maxRecDepth 10000
set_option linter.unusedVariables false
namespace Mine
theorem small_int {k : Nat} (h : k ≤ 1000) : smallI (.int (k : Int)) = true := by
  show decide _ = true
  exact decide_eq_true ⟨by omega, by omega⟩
theorem small100 {k : Nat} (h : k ≤ 1000) : ((k : Int)).natAbs < 10 ^ 100 := Nat.lt_of_lt_of_le (show ((k : Int)).natAbs < 10000 by omega) (by decide)
theorem boundN {k : Nat} (h : k ≤ 1000) : boundS (some (.dat (.int (k : Int)))) = some (some (k : Int)) := if_pos ⟨by omega, by omega⟩
end Mine
end

section
open PySem PySem.W PyProof.Rows
set_option Elab.async false
set_option maxRecDepth 10000
namespace Mine

theorem mem_of_look {α : Type} {l : List (Str × α)} {x : Str} {a : α} (h : l.lookup x = some a) : (x, a) ∈ l := by
  induction l with
  | nil => cases h
  | cons p l ih =>
    obtain ⟨y, b⟩ := p
    rw [List.lookup_cons] at h
    split at h
    · rename_i hxy
      cases h
      rw [beq_iff_eq.mp hxy]; exact .head _
    · exact .tail _ (ih h)

theorem ints_DR {h : Heap} {ok : Addr → Prop} : ∀ {vs : List Value} {is : List Int}, IntsAre vs is → DRs h ok (is.map .int) vs
  | _, _, .nil => by simp [DRs]
  | _, _, .cons n t hI => by
    simp only [List.map_cons, DRs]
    exact ⟨_, _, rfl, by simp only [DR]; exact ⟨t, rfl⟩, ints_DR hI⟩

noncomputable def scr (is : List Int) : Str → Option V := fun x => if x = x_script then some (.dat (.list (is.map .int))) else none

theorem kn_scr {is : List Int} : Kn [(x_script, .dat (.list (is.map .int)))] (scr is) := fun x v h => by
  obtain ⟨_, h2⟩ := lkp_some h
  rw [List.lookup_cons] at h2
  unfold scr
  cases q : x == x_script with
  | true => rw [q] at h2; cases h2; rw [if_pos (beq_iff_eq.mp q)]
  | false => rw [q] at h2; cases h2

theorem start_of {X : Cx} {name : Str} {sc : Scope} {L fa a : Addr} {cd : Value} {h : Heap} {is : List Int} {vs : List Value} (F : Fr X.base L h fun x => List.lookup x [(Str.ofString "script", Value.ref a)].reverse) (hL : X.base.get? L = none) (hk : sc.kind = .function)
    (hsc : sc.names.lookup (Str.ofString "script") = some .local) (hl : X.base.IsList a vs.toArray) (hI : IntsAre vs is) :
    Rel X [L] [] (envOf name sc L fa cd) ⟨scr is, []⟩ h := by
  refine start_rel F hL hk fun x v e => ?_
  unfold scr at e
  split at e
  · rename_i hx
    subst hx
    cases e
    refine ⟨hsc, .ref a, rfl, ?_⟩
    obtain ⟨o, h1, h2, n, h3⟩ := hl
    simp only [VR, DR]
    exact ⟨a, o, vs.toArray, n, rfl, ⟨o, h1⟩, h1, h2, h3, by simpa using ints_DR hI⟩
  · cases e

theorem link_of {X : Cx} {s₁ : Shared} {name : Str} {fa a : Addr} {cd : Value} {h₁ : Heap} {is : List Int} {vs : List Value} {sc : Scope} {body : List Stmt} {c : ClaimW} {cl : Str → Option Addr} {mean : ExcName → Option Value} {args : List WData} {tk : Nat} {E : Value → Shared → Prop}
    {T : Tab} {den : Prm → M Fl} (hb : X.base = s₁.heap) (ok : CxOk X) (to : TabOk X T) (F : Fr s₁.heap s₁.heap.objs.size h₁ fun x => List.lookup x [(Str.ofString "script", Value.ref a)].reverse)
    (hl : s₁.heap.IsList a vs.toArray) (hI : IntsAre vs is) (hg : s₁.gens = #[]) (hn : ∀ cls, c.raises args cls = false) (hp : c.post args (.bool true) args = true)
    (hk : sc.kind = .function) (hsc : sc.names.lookup (Str.ofString "script") = some .local) (hcl : ((cellsFrom 0 sc.names []).map (·.1)) = []) (hden : ∀ (n : Nat) (P : Prm), PrmOk X n P → ExsR X (n + 1) (fnEnv sc) body (den P))
    (hpure : Ok (den (prm T 20)) ⟨scr is, []⟩ fun f _ => f = .ret (.dat (.bool true))) :
    wpAny (model X.prog X.w) (callerA.deeper (envOf name sc s₁.heap.objs.size fa cd)) (execs body (envOf name sc s₁.heap.objs.size fa cd)) (fun f s' => GoodW c cl mean args s₁ (.ok (.ret (match f with | .ret v => v | _ => .none))) s') E
      { heap := h₁, gens := s₁.gens, drawn := s₁.drawn, toks := tk, os := s₁.os } := by
  obtain ⟨f, σ', e, rfl⟩ := hpure
  obtain ⟨prog, w, base, C, K, mg, mb⟩ := X
  have hb' : base = s₁.heap := hb
  subst hb'
  have R := start_of (X := ⟨prog, w, s₁.heap, C, K, mg, mb⟩) (name := name) (fa := fa) (cd := cd) F (fresh_size _) hk hsc hl hI
  have hs : SameEnv (fnEnv sc) (envOf name sc s₁.heap.objs.size fa cd) := ⟨rfl, isSome_keys hcl, rfl⟩
  refine wpAny_mono (law_run (s := { heap := h₁, gens := s₁.gens, drawn := s₁.drawn, toks := tk, os := s₁.os }) ok to 20 hs hden ⟨rfl, ?_, ?_⟩ R e) (fun f s' z => ?_) fun _ _ z => z.elim
  · show 302 + 4 * (3 * 20 + 1) ≤ 900; decide
  · show 7 + 40 * (3 * 20 + 1) ≤ 9000; decide
  · obtain ⟨rfl, ⟨hp', tk', rfl⟩, m, F'⟩ := z
    exact goodW_bool F' hg hn hp rfl

end Mine
end

section
open PySem PySem.W PyProof.Rows
set_option Elab.async false
set_option maxRecDepth 10000
namespace Mine

section
variable {X : Cx} {h : Heap}
end
end Mine
end

section
open PySem
set_option Elab.async false
set_option maxRecDepth 10000
set_option linter.unusedVariables false
namespace Mine

section
variable {X : Cx} {n : Nat} {env : Env} {P : Prm} {A : Around} {ρ : List Addr} {μ : Mu} {σ : St} {s : Shared}

theorem root_foot (R : Rel X ρ μ env σ s.heap) {i : Nat} {a : Addr} {ds : List PyData} (hi : σ.heap[i]? = some (.lst ds)) (hr : root μ i = some a) : a ∈ foot μ := by
  obtain ⟨p, h2, h3⟩ := R.objs i _ hi
  obtain ⟨vs, nn, h4, _⟩ := h3
  rw [root_some h2] at hr
  cases hr
  exact foot_get h2 (by rw [h4]; exact .head _)

/-- a list object turned in place, and an answer that is data -/
theorem post_turn (R : Rel X ρ μ env σ s.heap) {i : Nat} {a : Addr} {ws : Array Value} {m : Nat} {ds es : List PyData} {d : PyData} {x : Value} (hi : σ.heap[i]? = some (.lst ds)) (hr : root μ i = some a) (hL : s.heap.get? a = some { cls := .type "list", data := .seq ws m })
    (f : Array Value → Array Value) (hd : DRs s.heap (okOf ρ μ) es (f ws).toList) (hq : DR s.heap (okOf ρ μ) d x) : Post X ρ μ env s VRr (.dat d) ⟨σ.loc, σ.heap.set i (.lst es)⟩ x { s with heap := s.heap.update a (Obj.mapSeq f) } := by
  have hs : Heap.SameBut a s.heap (s.heap.update a (Obj.mapSeq f)) := Heap.SameBut.update ..
  have ha := root_foot R hi hr
  refine post_setList (tk := s.toks) R hi hr hs (PySem.IsL.update hL f) hd (DR.mono (fun c o ok e => ⟨ext_sameBut hs c o (notMem1 fun q => ok.2 (q ▸ ha)) e, ok⟩) hq)

noncomputable def popF (ds : List PyData) : List V → Option (PyData × List PyData)
  | [] => (ds.getLast?).map fun d => (d, ds.dropLast)
  | _ => none
theorem pop_get : LGok X (Str.ofString "pop") "list.pop" := fun hL h => getMethod_builtin ⟨_, hL, rfl⟩ F.plainAttrs_list PySem.F.slot_list_pop PySem.F.type_list_pop (fun b e => by cases e; exact ⟨_, hL, rfl⟩) h
theorem erase_toList (ws : Array Value) (k : Nat) : (ws.eraseIdxIfInBounds k).toList = ws.toList.eraseIdx k := by
  unfold Array.eraseIdxIfInBounds
  split
  · rw [Array.toList_eraseIdx]
  · rename_i h
    rw [List.eraseIdx_of_length_le (by rw [Array.length_toList]; omega)]
theorem DRs.erase {h : Heap} {ok : Addr → Prop} {ds : List PyData} {vs : List Value} (k : Nat) (e : DRs h ok ds vs) : DRs h ok (ds.eraseIdx k) (vs.eraseIdx k) := by
  rw [List.eraseIdx_eq_take_drop_succ, List.eraseIdx_eq_take_drop_succ]
  exact (e.take k).append (e.drop (k + 1))
noncomputable def popKF (ds : List PyData) : List V → Option (PyData × List PyData)
  | [.dat (.int k)] => if 0 ≤ k then (ds[k.toNat]?).map fun d => (d, ds.eraseIdx k.toNat) else none
  | _ => none
theorem popK_ok : LMok X "list.pop" popKF := fun {env A ρ μ σ s i a ws m xs vs ds es d} R ha hi hr hL hds ln hb e => by
  match vs, e, ha with
  | [.dat (.int k)], e, ha =>
    simp only [popKF] at e
    by_cases hk : 0 ≤ k
    · rw [if_pos hk] at e
      obtain ⟨d', h1, h2⟩ := Option.map_eq_some_iff.mp e
      cases h2
      have hlt : k.toNat < ds.length := (List.getElem?_eq_some_iff.mp h1).1
      obtain ⟨y, hy, hd⟩ := hds.get h1
      rw [Array.getElem?_toList] at hy
      obtain ⟨z, r, rfl, g1, g2⟩ := ha
      rw [show r = [] from g2]
      have g1' : DR _ _ _ _ := g1
      simp only [DR] at g1'
      obtain ⟨u, rfl⟩ := g1'
      have hb' : ds.length ≤ 1000000 := hb
      have hfit : Builtin.List.listFitsIndex k = true := by
        unfold Builtin.List.listFitsIndex
        rw [Bool.and_eq_true, decide_eq_true_eq, decide_eq_true_eq]
        exact ⟨by omega, by omega⟩
      have hsz : ws.size ≤ sizeLine := by rw [ln]; exact Nat.le_trans hb big_le
      have hidx : seqIndex? k ws.size = some k.toNat := by
        have := idx_nat (k := k.toNat) (n := ws.size) (by rw [ln]; exact hlt)
        rwa [Int.toNat_of_nonneg hk] at this
      refine call_meets PySem.F.slot_list_pop ⟨_, hL, rfl⟩ PySem.F.entry_list_pop (PySem.F.args_list_pop_2 _ _) (PySem.MeetsSeq.list_pop_at a ws m k u _ y hfit hidx hy hsz) ⟨hL, ?_⟩
      refine post_turn R hi hr hL _ ?_ hd
      rw [erase_toList]
      exact hds.erase _
    · rw [if_neg hk] at e; cases e

end
/-! what they do -/
end Mine
end

section
open PySem
set_option Elab.async false
set_option maxRecDepth 10000
set_option linter.unusedVariables false
namespace Mine

/-! a walk over the items of an empty dict; a text that joins one text -/
noncomputable def empForM (m : M V) : M Fl := do
  let v ← m
  match v with
  | .emp => mpure .next
  | _ => mfail
noncomputable def join1M (m : M V) : M V := do
  let v ← m
  let d ← readD v
  match d with
  | .list [.str y] => if y.length ≤ big then mpure (.dat (.str y)) else mfail
  | _ => mfail

section
variable {X : Cx} {n : Nat} {env : Env} {P : Prm} {A : Around} {ρ : List Addr} {μ : Mu} {σ : St} {s : Shared}

theorem Ex_ForEmp {tgt o : Expr} {body : List Stmt} {pos ap cp : Pos} {mo : M V} (ho : Ev X n env o mo) (hm : methOk o [] [] ap cp = true) (hset : ∀ x, foldedSetIterable (.Call (.Attribute o (Str.ofString "items") ap) [] [] cp) env x = pure x) :
    Ex X n env (.For tgt (.Call (.Attribute o (Str.ofString "items") ap) [] [] cp) body [] pos) (empForM mo) := by
  intro A ρ μ σ s ga R f σ' e
  refine mbind_elim e fun v σ1 e1 q => ?_
  match v, q, e1 with
  | .emp, q, e1 =>
    cases q
    refine wpAny_For (Meth_eval ho (.nil (n := n)) hm ga R e1 fun μ1 s1 x st1 R1 v1 pl => ?_) hset
    obtain ⟨a, k, rfl, h0, hok, hD⟩ := v1
    refine getMethod_builtin ⟨_, hD, rfl⟩ F.plainAttrs_dict PySem.F.slot_dict_items PySem.F.type_dict_items (fun b e => by cases e; exact ⟨_, hD, rfl⟩) ?_
    refine Calls.callWith_builtin (star_any (es := []) rfl) ?_
    refine wpAny_mono (W_args (es := []) (ks := []) (.nil (n := n)) rfl .nil ga R1 rfl rfl) (fun ar s2 z => ?_) fun _ _ z => z
    obtain ⟨μ2, st2, R2, v2, k2⟩ := z
    rw [show ar.pos = [] from v2, show ar.kw = [] from k2]
    have hD2 : s2.heap.get? a = some { cls := .type "dict", data := .dict #[] k } := st2.keep a _ hD hok.2 fun hm => hok.1 (R1.own a (wrt_own hm))
    have hsys : (a == sysModules) = false := by
      rw [beq_eq_false_iff_ne]; exact fun e => by rw [e] at h0; exact absurd h0 (by decide)
    have hAt : ∀ h' : Heap, h'.get? a = some { cls := .type "dict", data := .dict #[] k } → h'.DictAt (strKind X.prog X.w) a [] k := fun h' h => ⟨_, #[], h, ⟨rfl, rfl, rfl⟩, rfl, fun e he => absurd he (by simp), .nil, .nil⟩
    refine call_meetsIn PySem.F.slot_dict_items ⟨_, hD2, rfl⟩ PySem.F.entry_dict_items (PySem.F.args_dict_items_1 _) (meets_dict_items (strKind X.prog X.w) a hsys) ⟨⟨[], ⟨_, #[], k, hD2, ⟨rfl, rfl, rfl⟩, rfl, fun e he => absurd he (by simp), .nil, .nil⟩⟩, ?_⟩
    have k3 : ∀ b o, s2.heap.get? b = some o → (s2.heap.push { cls := .type "dict_items", data := .fields #[.ref a] }).get? b = some o := fun _ _ e => Heap.get?_push_of_some _ e
    generalize hH : s2.heap.push { cls := .type "dict_items", data := .fields #[.ref a] } = H3 at k3
    have hV : H3.IsItemsView s2.heap.objs.size a := by rw [← hH]; exact ⟨_, Heap.get?_push_size _ rfl, rfl, rfl⟩
    refine wpAny_pyIter_items (s := { s2 with heap := H3 }) hV (hAt _ (k3 _ _ hD2)) ?_
    have k4 : ∀ b o, s2.heap.get? b = some o → (H3.push { cls := .type "dict_itemiterator", data := .fields #[.none, .bool false, .ref a, .int 0 0, .int ([] : List (Str × Value)).length 0, .int k 0, .none, .none] }).get? b = some o := fun b o e => Heap.get?_push_of_some _ (k3 b o e)
    refine codeAny_forLoop_any (fun _ s' => s' = { s2 with heap := H3.push { cls := .type "dict_itemiterator", data := .fields #[.none, .bool false, .ref a, .int 0 0, .int ([] : List (Str × Value)).length 0, .int k 0, .none, .none] } }) ?_ 0 rfl
    rintro _ s' rfl
    refine wpAny_pyNext_items_end (knd := strKind X.prog X.w) (kvs := []) (i := 0) ga.handled (Heap.get?_push_size _ rfl) (hAt _ (k4 _ _ hD2)) rfl fun h' hx => ?_
    refine wpAny_execs_nil ?_
    have hI : ∀ b o, s2.heap.get? b = some o → b ≠ H3.objs.size := fun b o e => Nat.ne_of_lt (Heap.lt_size (k3 b o e))
    have k5 : ∀ b o, s2.heap.get? b = some o → h'.get? b = some o := fun b o e => hx b o (hI b o e) (k4 b o e)
    exact ⟨μ2, (st1.trans st2).trans (.grow (tk := s2.toks) k5), R2.ext k5, rfl⟩

theorem Ev_Join {o e : Expr} {ap pos : Pos} {sep : Str} {me : M V} (ho : Ev X n env o (mpure (.dat (.str sep)))) (hsep : sep.length ≤ 100) (he : Ev X n env e me) (hst : noStar e = true) (hm : methOk o [e] [] ap pos = true) :
    Ev X n env (.Call (.Attribute o (Str.ofString "join") ap) [e] [] pos) (join1M me) := by
  intro A ρ μ σ s ga R v σ' q
  refine mbind_elim q fun w σ1 e1 q1 => ?_
  refine mbind_elim q1 fun d σ2 e2 q2 => ?_
  have h2 := readD_state e2; subst h2
  refine Meth_eval (mo := mpure (.dat (.str sep))) ho (.nil (n := n)) hm ga R rfl fun μ1 s1 x st1 R1 v1 pl => ?_
  have v1' : DR _ _ _ _ := v1
  simp only [DR] at v1'
  obtain ⟨ha, t, rfl⟩ := v1'
  refine GM.join ?_
  have hst' : [e].all noStar = true := by rw [List.all_cons, hst]; rfl
  refine Calls.callWith_builtin (star_any hst') ?_
  refine wpAny_mono (W_args (es := [e]) (ms := [me]) (ks := []) (vs := [w]) (kv := []) (.cons he .nil) hst' (.nil (n := n)) ga R1 (by show (me >>= fun v => _) σ = _; rw [bind_at e1]; rfl) rfl) (fun ar s2 z => ?_) fun _ _ z => z
  obtain ⟨μ2, st2, R2, ⟨y, r, hy, hvy, hr⟩, k2⟩ := z
  rw [show ar.kw = [] from k2, hy, show r = [] from hr]
  match d, q2, e2 with
  | .list [.str z], q2, e2 =>
    simp only at q2
    by_cases hb : z.length ≤ big
    · rw [if_pos hb] at q2
      cases q2
      obtain ⟨a, vs, rfl, hL, hds⟩ := list_of_LR (readD_ok R2 hvy e2).2
      obtain ⟨u, r', hvs, hz, hr'⟩ := hds
      rw [show r' = [] from hr'] at hvs
      simp only [DR] at hz
      obtain ⟨hza, tz, rfl⟩ := hz
      have hvs' : vs = (strValues [(z, tz)]).toArray := Array.toList_inj.mp hvs
      rw [hvs'] at hL
      have hlen : Builtin.Str.tooLong (([(z, tz)].map (·.1)).toArray.foldl (· + ·.length + sep.length) 0) = false := by
        unfold Builtin.Str.tooLong
        have h1 : big + 1000 ≤ sizeLine := by decide +kernel
        refine decide_eq_false (Nat.not_lt.mpr ?_)
        show 0 + z.length + sep.length ≤ sizeLine
        omega
      refine call_meets PySem.F.slot_str_join (typeIs_str _ _ _) PySem.F.entry_str_join (PySem.F.args_str_join_2 _ _) (meets_str_join_list sep t a [(z, tz)] hlen) ⟨hL, ?_⟩
      exact ⟨μ2, st1.trans st2, R2, VR_str hza⟩
    · rw [if_neg hb] at q2; cases q2
end
section
variable {X : Cx} {n : Nat} {se : Env} {e o : Expr} {m : M V} {pos p q : Pos}
theorem X_forEmp {t : Expr} {ts : List Stmt} (h : EvR X n se o m) (hm : methOk o [] [] p q = true) (hs' : noSet (.Call (.Attribute o (Str.ofString "items") p) [] [] q) = true) : ExR X n se (.For t (.Call (.Attribute o (Str.ofString "items") p) [] [] q) ts [] pos) (empForM m) := fun v hs => Ex_ForEmp (h v hs) hm (folded_no hs')
theorem D_join {k : Nat} {sep : Str} {cp : Pos} (ha : asc sep = true) (hl : sep.length ≤ 100) (h : EvR X n se e m) (hst : noStar e = true) (hm : methOk (.Constant (.str sep) k cp) [e] [] p pos = true) : EvR X n se (.Call (.Attribute (.Constant (.str sep) k cp) (Str.ofString "join") p) [e] [] pos) (join1M m) := fun v hs => Ev_Join (D_str ha v hs) hl (h v hs) hst hm
end
theorem o_forEmp {σ σ1 : St} {R : Fl → St → Prop} {m : M V} {b : M Fl} (h : Run m σ .emp σ1) (k : Ok b σ1 R) : Ok (thenM (empForM m) b) σ R := o_then (ok_run h ⟨_, _, rfl, k⟩)
theorem r_join {σ σ1 : St} {m : M V} {v : V} {y : Str} (h : Run m σ v σ1) (hr : Rd v σ1 (.list [.str y])) (hb : y.length ≤ big) : Run (join1M m) σ (.dat (.str y)) σ1 := by
  refine run_bind h (run_bind hr ?_)
  show (if y.length ≤ big then mpure (V.dat (.str y)) else mfail) σ1 = _
  rw [if_pos hb]; rfl

/-! a def that takes keywords and is given none -/
theorem InfoOk.kw {X : Cx} {f : Addr} {p q r k : Str} {D : Prm → M Fl} (ok : CxOk X) (fn : fnChk X.K f [p, q, r, k] = true) (den : ∀ (n : Nat) (P : Prm), PrmOk X n P → ExsR X (n + 1) (fnEnv (fdOf X.K f).scope) (bodyOf (fdOf X.K f)) (D P)) (hf : 1 < f)
    (hb : ∀ x y z, bindArgs (fdOf X.K f) ⟨[x, y, z], []⟩ = alloc { cls := .type "dict", data := .dict #[] } >>= fun d => pure [(p, x), (q, y), (r, z), (k, .ref d)]) : InfoOk X ⟨f, [p, q, r, k], [.str k], D⟩ :=
  ⟨fn, den, fun {env ρ μ σ s vs xs} hK R hv hl => by
    have hlen : vs.length = 3 := by
      unfold fill at hl
      by_cases h4 : vs.length = 4
      · rw [if_pos (show (kwD [Const.str k] && vs.length == [p, q, r, k].length) = true by rw [h4]; rfl)] at hl
        cases hl
      · have h4' : (vs.length == 4) = false := beq_eq_false_iff_ne.mpr h4
        rw [if_neg (show ¬ (kwD [Const.str k] && vs.length == [p, q, r, k].length) = true by rw [show [p, q, r, k].length = 4 from rfl, h4', Bool.and_false]; exact Bool.false_ne_true)] at hl
        rw [List.length_append, List.length_map, List.length_drop] at hl
        have hl : 4 = vs.length + (1 - (1 - (4 - vs.length))) := hl
        omega
    obtain ⟨v1, v2, v3, rfl⟩ : ∃ a b c, vs = [a, b, c] := by
      match vs, hlen with
      | [a, b, c], _ => exact ⟨a, b, c, rfl⟩
    obtain ⟨x, r1, rfl, g1, y, r2, rfl, g2, z, r3, rfl, g3, g4⟩ := hv
    rw [show r3 = [] from g4]
    intro A E Q hQ
    obtain ⟨o, ho, _⟩ := (fnOk_of ok fn).at_
    have hsz : 1 < s.heap.objs.size := Nat.lt_trans hf (Heap.lt_size (R.base f o ho))
    rw [hb]
    refine wpAny_bind (wpAny_alloc (wpAny_pure ?_))
    have k1 : ∀ b o, s.heap.get? b = some o → (s.heap.push { cls := .type "dict", data := .dict #[] }).get? b = some o := fun _ _ e => Heap.get?_push_of_some _ e
    have mono : ∀ {v : V} {x : Value}, VR s.heap (okOf ρ μ) μ v x → VR (s.heap.push { cls := .type "dict", data := .dict #[] }) (okOf ρ μ) μ v x := fun h => h.mono (fun _ _ e => e) fun a o ok e => ⟨k1 a o e, ok⟩
    exact hQ _ s.toks [x, y, z, .ref s.heap.objs.size] k1 ⟨x, _, rfl, mono g1, y, _, rfl, mono g2, z, _, rfl, mono g3, _, _, rfl, ⟨_, _, rfl, hsz, R.okNew (fresh_size _), Heap.get?_push_size _ rfl⟩, rfl⟩⟩
end Mine
end

section
open PySem
set_option Elab.async false
set_option maxRecDepth 10000
set_option linter.unusedVariables false
namespace Mine
noncomputable def Dadd_r1 (Q : Prm) : M Fl := thenM (exprM (lmM appF (attrM (nameS x_self) x__headers) [tupM Q [imM Q (nameS x_self) x__convert_string_type [nameS x__name] [(x_name, datM (.bool true))], join1M (nameS x_parts)]])) (endM)
noncomputable def Dadd_r2 (Q : Prm) : M Fl := thenM (empForM (nameS x__params)) (Dadd_r1 Q)
noncomputable def Dadd (Q : Prm) : M Fl := thenM (asgM x_parts (ownLstM Q [])) (thenM (ifM (truT (cmpM Q .IsNot (nameS x__value) (datM .none))) (thenM (asgM x__value (imM Q (nameS x_self) x__convert_string_type [nameS x__value] [(x_name, datM (.bool false))])) (thenM (exprM (lmM appF (nameS x_parts) [nameS x__value])) (endM))) (endM)) (Dadd_r2 Q))
section
variable {Q : Prm} {l : Str → Option V} {hp : List AObj} {i n : Nat} {ps : List (Str × Str)} {a b : Str}
theorem body_add (hQ : Q.mt sConv = convP) (t : Tb hp i n ps) (ha : tinyS a) (hb : tinyS b) (hk : Kn [(x_self, .obj i), (x__name, .dat (.str a)), (x__value, .dat (.str b)), (x__params, .emp)] l) :
    Ok (Dadd Q) ⟨l, hp⟩ fun f s => f = .next ∧ s.heap = hp.set n (.lst ((ps ++ [(a, b)]).map pr)) ++ [.lst [.str b]] := by
  have h1 := last_left (o := .lst []) t.i
  have h2 := last_left (o := .lst [.str b]) t.i
  have h3 := last_left (o := .lst [.str b]) t.n
  have h4 := ha.big
  have h5 := hb.big
  have h6 := last_get (hp := hp) (o := .lst [])
  have h7 := last_get (hp := hp) (o := .lst [.str b])
  have h8 : (ps.map pr).length ≤ big := by rw [List.length_map]; exact t.tiny.big
  unfold Dadd
  wtm_at "st"
  refine o_if1 (σ1 := ⟨l, hp ++ [.lst []]⟩) (by wtm_at "ev") ?_
  wtm_at "st"
  wtm_at "st"
  wtm_at "st"
  wtm_at "st"
  wtm_at "st"
  rw [last_set, List.nil_append]
  unfold Dadd_r2
  refine o_forEmp (σ1 := ⟨l, hp ++ [.lst [.str b]]⟩) (by wtm_at "ev") ?_
  unfold Dadd_r1
  wtm_at "st"
  refine o_end ⟨rfl, ?_⟩
  show (hp ++ [AObj.lst [.str b]]).set n _ = _
  rw [set_left t.n, List.map_append]; rfl

noncomputable def MAdd (Q : Prm) : Prop := ∀ {hp : List AObj} {i n : Nat} {ps : List (Str × Str)} {a b : Str} {l : Str → Option V}, Tb hp i n ps → tinyS a → tinyS b → Run (Q.mt x_add_header (.obj i) [.dat (.str a), .dat (.str b)] []) ⟨l, hp⟩ (.dat .none) ⟨l, hp.set n (.lst ((ps ++ [(a, b)]).map pr))⟩
theorem m_add (h : MAdd Q) (t : Tb hp i n ps) (ha : tinyS a) (hb : tinyS b) : Run (Q.mt x_add_header (.obj i) [.dat (.str a), .dat (.str b)] []) ⟨l, hp⟩ (.dat .none) ⟨l, hp.set n (.lst ((ps ++ [(a, b)]).map pr))⟩ := h t ha hb
end
section
variable {T : Tab} {k : Nat}
theorem tb_add (d : IsDen T x_add_header [x_self, x__name, x__value, x__params] [.str x__params] Dadd) : MAdd (prm T (k + 2)) := fun {hp i n ps a b l} t ha hb => by
  obtain ⟨f, hT⟩ := d
  show _ = _
  rw [mt_run (by decide) hT]
  unfold runI
  obtain ⟨g, s, e, rfl, hh⟩ := body_add (Q := prm T (k + 1)) (prm_conv (k := k)) t ha hb (kn_par (ps := [x_self, x__name, x__value, x__params]) (vs := [.obj i, .dat (.str a), .dat (.str b), .emp]))
  have hf : fill ⟨f, [x_self, x__name, x__value, x__params], [.str x__params], Dadd⟩ [V.obj i, .dat (.str a), .dat (.str b)] = [.obj i, .dat (.str a), .dat (.str b), .emp] := rfl
  rw [hf]
  have hw : wf (hp.set n (.lst ((ps ++ [(a, b)]).map pr))) = true := wf_set t.wf rfl
  unfold wf at hw
  rw [List.length_set] at hw
  have ht : s.heap.take hp.length = hp.set n (.lst ((ps ++ [(a, b)]).map pr)) := by rw [hh, List.take_left' (by rw [List.length_set])]
  exact callB_cut (l := l) rfl e rfl ht hw
end
end Mine
end

section
open PySem PySem.W PyProof.Rows
set_option Elab.async false
set_option maxRecDepth 100000
set_option maxHeartbeats 8000000
namespace Mine
open_top hd for PySem.Challenge.rw_dn0264_05
end Mine
end

section
open PySem
set_option Elab.async false
set_option maxRecDepth 10000
set_option linter.unusedVariables false
namespace Mine
noncomputable def law05_ordered_r1 (Q : Prm) : M Fl := thenM (exprM (imM Q (nameS x_merged) x_add_header [nameS x_name, nameS x_value] [])) (endM)
noncomputable def law05_ordered_t2 (Q : Prm) : M Bool := allTS .Or [truT (nameS x_left), truT (nameS x_right)]
noncomputable def law05_ordered_b3 (Q : Prm) : M Fl := thenM (ifM (allTS .Or [notT (truT (nameS x_right)), allTS .And [truT (nameS x_left), truT (cmpM Q .LtE (itemM Q (itemM Q (nameS x_left) (datM (.int 0))) (datM (.int 1))) (itemM Q (itemM Q (nameS x_right) (datM (.int 0))) (datM (.int 1))))]]) (thenM (asg2M (setLoc x_name) (setLoc x_value) (lmM popKF (nameS x_left) [datM (.int 0)])) (endM)) (thenM (asg2M (setLoc x_name) (setLoc x_value) (lmM popKF (nameS x_right) [datM (.int 0)])) (endM))) (law05_ordered_r1 Q)
noncomputable def law05_ordered_r4 (Q : Prm) : M Fl := thenM (retM (nameS x_merged)) (endM)
noncomputable def law05_ordered_r5 (Q : Prm) : M Fl := thenM (ifM (allTS .Or [truT (cmpM Q .NotEq (bltM (lenB Q) [nameS x_first]) (nameS x_half)), truT (cmpM Q .NotEq (bltM (lenB Q) [nameS x_second]) (binM .Sub (bltM (lenB Q) [nameS x_pairs]) (nameS x_half)))]) (thenM (exprM (lmM appF (nameS x_faults) [nameS x_half])) (endM)) (endM)) (law05_ordered_r4 Q)
noncomputable def law05_ordered_r6 (Q : Prm) : M Fl := thenM (asgM x_half (binM .FloorDiv (bltM (lenB Q) [nameS x_pairs]) (datM (.int 2)))) (thenM (asgM x_first (callM Q x__law_ordered [mkM Q [ownSliceM (nameS x_pairs) none (some (nameS x_half))], nameS x_faults])) (thenM (asgM x_second (callM Q x__law_ordered [mkM Q [ownSliceM (nameS x_pairs) (some (nameS x_half)) none], nameS x_faults])) (thenM (asgM x_left (imM Q (nameS x_first) x_items [] [])) (thenM (asgM x_right (imM Q (nameS x_second) x_items [] [])) (thenM (asgM x_merged (mkM Q [])) (thenM (whileS (law05_ordered_t2 Q) (law05_ordered_b3 Q) Q.fuel) (law05_ordered_r5 Q)))))))
noncomputable def law05_ordered (Q : Prm) : M Fl := thenM (asgM x_pairs (imM Q (nameS x_table) x_items [] [])) (thenM (ifM (truT (cmpM Q .Lt (bltM (lenB Q) [nameS x_pairs]) (datM (.int 2)))) (thenM (retM (nameS x_table)) (endM)) (endM)) (law05_ordered_r6 Q))
noncomputable def law05_b1 (Q : Prm) : M Fl := thenM (exprM (lmM appF (nameS x_pairs) [tupM Q [itemM Q (datM (.str (Str.ofString "abAB"))) (binM .Mod (binM .FloorDiv (nameS x_number) (datM (.int 10))) (datM (.int 4))), bltM strB [binM .Mod (nameS x_number) (datM (.int 10))]]])) (endM)
noncomputable def law05_b2 (Q : Prm) : M Fl := thenM (ifM (truT (cmpM Q .Eq (itemM Q (nameS x_pair) (datM (.int 1))) (nameS x_figure))) (thenM (exprM (lmM appF (nameS x_right) [nameS x_pair])) (endM)) (endM)) (endM)
noncomputable def law05_b3 (Q : Prm) : M Fl := thenM (forM (setLoc x_pair) (law05_b2 Q) (nameS x_pairs)) (endM)
noncomputable def law05_r4 (Q : Prm) : M Fl := thenM (retM (boolS .And [cmpM Q .Eq (imM Q (nameS x_ordered) x_items [] []) (nameS x_right), cmpM Q .Eq (imM Q (nameS x_table) x_items [] []) (nameS x_pairs), cmpM Q .Eq (nameS x_faults) (lstM Q [])])) (endM)
noncomputable def law05_r5 (Q : Prm) : M Fl := thenM (asgM x_table (mkM Q [ownListM (nameS x_pairs)])) (thenM (asgM x_faults (ownLstM Q [])) (thenM (asgM x_ordered (callM Q x__law_ordered [nameS x_table, nameS x_faults])) (thenM (asgM x_right (ownLstM Q [])) (thenM (forM (setLoc x_figure) (law05_b3 Q) (datM (.str (Str.ofString "0123456789")))) (law05_r4 Q)))))
noncomputable def law05 (Q : Prm) : M Fl := thenM (asgM x_pairs (ownLstM Q [])) (thenM (forM (setLoc x_number) (law05_b1 Q) (sliceM (nameS x_script) none (some (datM (.int 32))))) (law05_r5 Q))
end Mine
end

section
open PySem
set_option Elab.async false
set_option maxRecDepth 100000
set_option linter.unusedVariables false
namespace Mine.L05

noncomputable abbrev KK (p : Params) : W.Frag := hd.heap_39 p
section
variable (p : Params)
theorem k1 : W.findIn (KK p) (.ref 184) "__getattribute__" = some (some (.builtin "object.__getattribute__")) := by kernel_rfl
theorem k2 : W.findIn (KK p) (.ref 184) "__getattr__" = some none := by kernel_rfl
theorem k3 : W.noSeq (KK p) 184 = true := by kernel_rfl
theorem k4 : W.findIn (KK p) (.ref 184) "__setattr__" = some (some (.builtin "object.__setattr__")) := by kernel_rfl
theorem k5 : W.plainOver (KK p) 184 = true := by kernel_rfl
theorem k6 : W.findIn (KK p) (.ref 184) hdrKey = some none := by kernel_rfl
theorem k7 : (W.clsIn (KK p) 184).any (·.hasDict) = true := by kernel_rfl
theorem k8 : W.keepIn (KK p) (.ref 184) = true := by kernel_rfl
theorem k9 : W.makesIn (KK p) 184 = true := by kernel_rfl
theorem g0 : isDict (KK p) mainGlobals = true := by kernel_rfl
theorem g4 : bltNames.all (fun x => (nsFind (dictOf (KK p) mainGlobals) x).isNone) = true := by kernel_rfl
theorem gn (x : Str) (v : Value) (h : (nsFind (dictOf (KK p) mainGlobals) x == some v) = true) : nsFind (dictOf (KK p) mainGlobals) x = some v := by simpa using h
end

section
variable (p : Params)
theorem f_init : fnChk (KK p) 76 [x_self, x_headers] = true := by kernel_rfl
theorem df_init : (fdOf (KK p) 76).defaults = .ref 69 := by kernel_rfl
theorem dl_init : (KK p).lookup 69 = some { cls := .type "tuple", data := .seq #[.none] 0 } := by kernel_rfl
theorem b_init {s : Shared} (hK : (KK p).In s.heap) (x y : Value) : BindsTo s (fdOf (KK p) 76) ⟨[x, y], []⟩ [(x_self, x), (x_headers, y)] := BindsTo.of_defaults (df_init p) (hK _ _ (dl_init p)) rfl (by unfold bindArgs; rfl) (by kernel_rfl)
theorem c_init {s : Shared} (hK : (KK p).In s.heap) (x : Value) : BindsTo s (fdOf (KK p) 76) ⟨[x], []⟩ [(x_self, x), (x_headers, .none)] := BindsTo.of_defaults (df_init p) (hK _ _ (dl_init p)) rfl (by unfold bindArgs; rfl) (by kernel_rfl)
theorem f_len : fnChk (KK p) 90 [x_self] = true := by kernel_rfl
theorem b_len (x : Value) : bindArgs (fdOf (KK p) 90) ⟨[x], []⟩ = pure [(x_self, x)] := by kernel_rfl
theorem f_items : fnChk (KK p) 148 [x_self] = true := by kernel_rfl
theorem b_items (x : Value) : bindArgs (fdOf (KK p) 148) ⟨[x], []⟩ = pure [(x_self, x)] := by kernel_rfl
theorem f_add_header : fnChk (KK p) 181 [x_self, x__name, x__value, x__params] = true := by kernel_rfl
theorem b_add_header (x y z : Value) : bindArgs (fdOf (KK p) 181) ⟨[x, y, z], []⟩ = alloc { cls := .type "dict", data := .dict #[] } >>= fun d => pure [(x_self, x), (x__name, y), (x__value, z), (x__params, .ref d)] := by kernel_rfl
theorem f_convert_string_type : fnChk (KK p) 83 [x_self, x_value, x_name] = true := by kernel_rfl
theorem b_convert_string_type (x y z : Value) : bindArgs (fdOf (KK p) 83) ⟨[x, y], [(sName, z)]⟩ = pure [(sSelf, x), (sValue, y), (sName, z)] := by kernel_rfl
end
section
variable {X : Cx} {n : Nat} {P : Prm} (p : Params) (ok : CxOk X) (pok : PrmOk X n P)
include ok pok
theorem d_init : ExsR X (n + 1) (fnEnv (fdOf (KK p) 76).scope) (bodyOf (fdOf (KK p) 76)) (Dinit P) := by
  conv => arg 4; whnf
  exact S_cons (X_asg (D_ifx (T_cmp ok pok (D_name) (D_none) rfl) (D_name) (O_lst (L_nil) rfl)) (by kernel_rfl) rfl) (S_cons (X_if (T_typ ok (D_name) (by kernel_rfl)) (S_cons (X_fail) (S_nil)) (S_nil)) (S_cons (X_asgAttr ok (D_name) (D_name) rfl) (S_cons (X_if (T_plain (D_bool) rfl) (S_cons (X_for (D_name) (A_two (A_name (by kernel_rfl)) (A_name (by kernel_rfl)) rfl) (S_cons (X_expr (D_im ok pok (D_name) (L_cons (D_name) (L_nil)) (K_cons (D_bool) (K_nil)) rfl) rfl) (S_cons (X_expr (D_im ok pok (D_name) (L_cons (D_name) (L_nil)) (K_cons (D_bool) (K_nil)) rfl) rfl) (S_nil))) rfl) (S_nil)) (S_nil)) (S_nil))))
theorem d_len : ExsR X (n + 1) (fnEnv (fdOf (KK p) 90).scope) (bodyOf (fdOf (KK p) 90)) (Dlen P) := by
  conv => arg 4; whnf
  exact S_cons (X_ret (D_len ok pok (L_cons (D_attr ok) (L_nil)) rfl (by kernel_rfl))) (S_nil)
theorem d_items : ExsR X (n + 1) (fnEnv (fdOf (KK p) 148).scope) (bodyOf (fdOf (KK p) 148)) (DitemsO P) := by
  conv => arg 4; whnf
  exact S_cons (X_ret (O_slice (D_attr ok) (OP_none) (OP_none))) (S_nil)
theorem d_add_header : ExsR X (n + 1) (fnEnv (fdOf (KK p) 181).scope) (bodyOf (fdOf (KK p) 181)) (Dadd P) := by
  conv => arg 4; whnf
  exact S_cons (X_asg (O_lst (L_nil) rfl) (by kernel_rfl) rfl) (S_cons (X_if (T_cmp ok pok (D_name) (D_none) rfl) (S_cons (X_asg (D_im ok pok (D_name) (L_cons (D_name) (L_nil)) (K_cons (D_bool) (K_nil)) rfl) (by kernel_rfl) rfl) (S_cons (X_expr (D_lm append_get append_ok (D_name) (L_cons (D_name) (L_nil)) rfl) rfl) (S_nil))) (S_nil)) (S_cons (X_forEmp (D_name) rfl rfl) (S_cons (X_expr (D_lm append_get append_ok (D_attr ok) (L_cons (D_tup (L_cons (D_im ok pok (D_name) (L_cons (D_name) (L_nil)) (K_cons (D_bool) (K_nil)) rfl) (L_cons (D_join (by kernel_rfl) (by decide) (D_name) rfl rfl) (L_nil))) rfl) (L_nil)) rfl) rfl) (S_nil))))
set_option maxHeartbeats 4000000 in
theorem d_fn_law_ordered : ExsR X (n + 1) (fnEnv (fdOf (KK p) 195).scope) (bodyOf (fdOf (KK p) 195)) (law05_ordered P) := by
  conv => arg 4; whnf
  exact S_cons (X_asg (D_im ok pok (D_name) (L_nil) (K_nil) rfl) (by kernel_rfl) rfl) (S_cons (X_if (T_cmp ok pok (D_len ok pok (L_cons (D_name) (L_nil)) rfl (by kernel_rfl)) (D_int) rfl) (S_cons (X_ret (D_name)) (S_nil)) (S_nil)) (S_cons (X_asg (D_bin (D_len ok pok (L_cons (D_name) (L_nil)) rfl (by kernel_rfl)) (D_int)) (by kernel_rfl) rfl) (S_cons (X_asg (D_call ok pok (L_cons (D_mk ok pok (L_cons (O_slice (D_name) (OP_none) (OP_some (D_name))) (L_nil)) rfl (by kernel_rfl)) (L_cons (D_name) (L_nil))) rfl (by kernel_rfl)) (by kernel_rfl) rfl) (S_cons (X_asg (D_call ok pok (L_cons (D_mk ok pok (L_cons (O_slice (D_name) (OP_some (D_name)) (OP_none)) (L_nil)) rfl (by kernel_rfl)) (L_cons (D_name) (L_nil))) rfl (by kernel_rfl)) (by kernel_rfl) rfl) (S_cons (X_asg (D_im ok pok (D_name) (L_nil) (K_nil) rfl) (by kernel_rfl) rfl) (S_cons (X_asg (D_im ok pok (D_name) (L_nil) (K_nil) rfl) (by kernel_rfl) rfl) (S_cons (X_asg (D_mk ok pok (L_nil) rfl (by kernel_rfl)) (by kernel_rfl) rfl) (S_cons (X_while (T_bool (TL_cons (T_plain (D_name) rfl) (TL_cons (T_plain (D_name) rfl) (TL_nil)))) (S_cons (X_if (T_bool (TL_cons (T_not (T_plain (D_name) rfl)) (TL_cons (T_bool (TL_cons (T_plain (D_name) rfl) (TL_cons (T_cmp ok pok (D_item ok pok (D_item ok pok (D_name) (D_int) rfl) (D_int) rfl) (D_item ok pok (D_item ok pok (D_name) (D_int) rfl) (D_int) rfl) rfl) (TL_nil)))) (TL_nil)))) (S_cons (X_asg2 (D_lm pop_get popK_ok (D_name) (L_cons (D_int) (L_nil)) rfl) (A_name (by kernel_rfl)) (A_name (by kernel_rfl)) rfl rfl rfl) (S_nil)) (S_cons (X_asg2 (D_lm pop_get popK_ok (D_name) (L_cons (D_int) (L_nil)) rfl) (A_name (by kernel_rfl)) (A_name (by kernel_rfl)) rfl rfl rfl) (S_nil))) (S_cons (X_expr (D_im ok pok (D_name) (L_cons (D_name) (L_cons (D_name) (L_nil))) (K_nil) rfl) rfl) (S_nil)))) (S_cons (X_if (T_bool (TL_cons (T_cmp ok pok (D_len ok pok (L_cons (D_name) (L_nil)) rfl (by kernel_rfl)) (D_name) rfl) (TL_cons (T_cmp ok pok (D_len ok pok (L_cons (D_name) (L_nil)) rfl (by kernel_rfl)) (D_bin (D_len ok pok (L_cons (D_name) (L_nil)) rfl (by kernel_rfl)) (D_name)) rfl) (TL_nil)))) (S_cons (X_expr (D_lm append_get append_ok (D_name) (L_cons (D_name) (L_nil)) rfl) rfl) (S_nil)) (S_nil)) (S_cons (X_ret (D_name)) (S_nil)))))))))))
set_option maxHeartbeats 4000000 in
theorem d_fnlaw : ExsR X (n + 1) (fnEnv (fdOf (KK p) 202).scope) (bodyOf (fdOf (KK p) 202)) (law05 P) := by
  conv => arg 4; whnf
  exact S_cons (X_asg (O_lst (L_nil) rfl) (by kernel_rfl) rfl) (S_cons (X_for (D_slice (D_name) (OP_none) (OP_some (D_int))) (A_name (by kernel_rfl)) (S_cons (X_expr (D_lm append_get append_ok (D_name) (L_cons (D_tup (L_cons (D_item ok pok (D_str (by kernel_rfl)) (D_bin (D_bin (D_name) (D_int)) (D_int)) rfl) (L_cons (D_strB ok (L_cons (D_bin (D_name) (D_int)) (L_nil)) rfl (by kernel_rfl)) (L_nil))) rfl) (L_nil)) rfl) rfl) (S_nil)) rfl) (S_cons (X_asg (D_mk ok pok (L_cons (O_list ok (D_name) rfl (by kernel_rfl)) (L_nil)) rfl (by kernel_rfl)) (by kernel_rfl) rfl) (S_cons (X_asg (O_lst (L_nil) rfl) (by kernel_rfl) rfl) (S_cons (X_asg (D_call ok pok (L_cons (D_name) (L_cons (D_name) (L_nil))) rfl (by kernel_rfl)) (by kernel_rfl) rfl) (S_cons (X_asg (O_lst (L_nil) rfl) (by kernel_rfl) rfl) (S_cons (X_for (D_str (by kernel_rfl)) (A_name (by kernel_rfl)) (S_cons (X_for (D_name) (A_name (by kernel_rfl)) (S_cons (X_if (T_cmp ok pok (D_item ok pok (D_name) (D_int) rfl) (D_name) rfl) (S_cons (X_expr (D_lm append_get append_ok (D_name) (L_cons (D_name) (L_nil)) rfl) rfl) (S_nil)) (S_nil)) (S_nil)) rfl) (S_nil)) rfl) (S_cons (X_ret (D_boolop (L_cons (D_cmp ok pok (D_im ok pok (D_name) (L_nil) (K_nil) rfl) (D_name) rfl) (L_cons (D_cmp ok pok (D_im ok pok (D_name) (L_nil) (K_nil) rfl) (D_name) rfl) (L_cons (D_cmp ok pok (D_name) (D_lst (L_nil) rfl) rfl) (L_nil)))))) (S_nil))))))))
end
section
variable (p : Params)
theorem f_fn_law_ordered : fnChk (KK p) 195 [x_table, x_faults] = true := by kernel_rfl
theorem b_fn_law_ordered (x y : Value) : bindArgs (fdOf (KK p) 195) ⟨[x, y], []⟩ = pure [(x_table, x), (x_faults, y)] := by kernel_rfl
end

noncomputable def mkX (prog : Program) (w : World) (base : Heap) (mg mb : Str → Option Value) : Cx := ⟨prog, w, base, 184, KK w.params, mg, mb⟩

noncomputable def mtL : List (Str × Info) := [(x___len__, ⟨90, [x_self], [], Dlen⟩), (x_items, ⟨148, [x_self], [], DitemsO⟩), (x_add_header, ⟨181, [x_self, x__name, x__value, x__params], [.str x__params], Dadd⟩)]
noncomputable def fnL : List (Str × Info) := [(x__law_ordered, ⟨195, [x_table, x_faults], [], law05_ordered⟩)]
noncomputable def T : Tab := ⟨fun x => List.lookup x mtL, fun x => List.lookup x fnL, ⟨76, [x_self, x_headers], [.none], Dinit⟩, 1000⟩

variable {prog : Program} {w : World} {base : Heap} {mg mb : Str → Option Value}
theorem cxok (hK : (KK w.params).In base) (hg : base.Ns mainGlobals mg) (hb : base.Ns builtinsNs mb) (hbt : ∀ x : Str, x ≠ "__name__" → mb x = bootBuiltins x) (hn : base.NoLimit) : CxOk (mkX prog w base mg mb) where
  kin := hK
  g := hg
  b := hb
  blt := hbt
  nolimit := hn
  ga := k1 _
  noga := k2 _
  noSeq := k3 _
  noG := fun x hx => by
    show mg x = none
    rw [mg_of hK hg (g0 _)]
    exact Option.isNone_iff_eq_none.mp (List.all_eq_true.mp (g4 w.params) x hx)
  sa := k4 _
  po := k5 _
  hd := k6 _
  hasD := k7 _
  keep := k8 _
theorem p1 (p : Params) : PatAt (KK p) 48 code1 := ⟨_, _, _, _, _, _, _, _, rfl, rfl, by kernel_rfl⟩
theorem p2 (p : Params) : PatAt (KK p) 53 code2 := ⟨_, _, _, _, _, _, _, _, rfl, rfl, by kernel_rfl⟩
theorem m1 (p : Params) : (match W.findIn (KK p) (.ref 184) sConv with | some (some (.ref f)) => if W.isFn (KK p) (.ref f) && W.fnIn (KK p) f then some f else none | _ => none) = some 83 := by kernel_rfl
theorem i1 (p : Params) : W.findIn (KK p) (.ref 184) "__init__" = some (some (.ref 76)) := by kernel_rfl
theorem i2 (p : Params) : W.typeIn (KK p) (.ref 76) = some (.type "function") := by kernel_rfl
theorem c1 (p : Params) : (fnEnv (fdOf (KK p) 83).scope).kindOf sRegex = some .local := by kernel_rfl
theorem c2 (p : Params) (q : Pos) : typOk (fnEnv (fdOf (KK p) 83).scope) (.Name sValue q) (Str.ofString "str") = true := by kernel_rfl
theorem c3 (p : Params) : gKind (fnEnv (fdOf (KK p) 83).scope) (Str.ofString "_name_disallowed_re") = true := by kernel_rfl
theorem c4 (p : Params) : gKind (fnEnv (fdOf (KK p) 83).scope) (Str.ofString "_value_disallowed_re") = true := by kernel_rfl
theorem mth_of (name : Str) (f : Addr) (h : ((match W.findIn (KK w.params) (.ref 184) name with | some (some (.ref f)) => if W.isFn (KK w.params) (.ref f) && W.fnIn (KK w.params) f then some f else none | _ => none) == some f) = true) : mth (mkX prog w base mg mb) name = some f := beq_iff_eq.mp h

theorem mt_ok (ok : CxOk (mkX prog w base mg mb)) : ∀ q ∈ mtL, InfoOk (mkX prog w base mg mb) q.2 ∧ mth (mkX prog w base mg mb) q.1 = some q.2.f := by
  unfold mtL
  refine List.forall_mem_cons.mpr ⟨⟨.plain (f_len _) (fun n P pok => d_len _ ok pok) rfl (bind1 (b_len _)), mth_of _ _ (by kernel_rfl)⟩, ?_⟩
  refine List.forall_mem_cons.mpr ⟨⟨.plain (f_items _) (fun n P pok => d_items _ ok pok) rfl (bind1 (b_items _)), mth_of _ _ (by kernel_rfl)⟩, ?_⟩
  refine List.forall_mem_cons.mpr ⟨⟨.kw ok (f_add_header _) (fun n P pok => d_add_header _ ok pok) (by decide) (b_add_header _), mth_of _ _ (by kernel_rfl)⟩, ?_⟩
  exact fun q h => by cases h
theorem fn_ok (hK : (KK w.params).In base) (hg : base.Ns mainGlobals mg) (ok : CxOk (mkX prog w base mg mb)) : ∀ q ∈ fnL, InfoOk (mkX prog w base mg mb) q.2 ∧ mg q.1 = some (.ref q.2.f) := by
  unfold fnL
  refine List.forall_mem_cons.mpr ⟨⟨.plain (f_fn_law_ordered _) (fun n P pok => d_fn_law_ordered _ ok pok) rfl (bind2 (b_fn_law_ordered _)), by rw [mg_of hK hg (g0 _)]; exact gn _ _ _ (by kernel_rfl)⟩, ?_⟩
  exact fun q h => by cases h

set_option maxHeartbeats 4000000 in
theorem tabok (hK : (KK w.params).In base) (hg : base.Ns mainGlobals mg) (ok : CxOk (mkX prog w base mg mb)) : TabOk (mkX prog w base mg mb) T where
  mt := fun name i h => mt_ok ok _ (mem_of_look h)
  fn := fun name i h => fn_ok hK hg ok _ (mem_of_look h)
  init := .plain (f_init _) (fun n P pok => d_init _ ok pok) rfl (bind2d (fun s x y hK => b_init _ hK x y) (fun s x hK => c_init _ hK x))
  initF := i1 _
  initT := i2 _
  makes := k9 _
  head := by
    show mg _ = _
    rw [mg_of hK hg (g0 _)]; exact gn _ _ _ (by kernel_rfl)
  conv := by
    refine ⟨83, m1 w.params, f_convert_string_type w.params, fun k env' hs => ?_, fun s x y z => ?_⟩
    rotate_left
    · show BindsTo s (fdOf (KK w.params) 83) ⟨[x, y], [(sName, z)]⟩ [(sSelf, x), (sValue, y), (sName, z)]
      exact BindsTo.of_eq (b_convert_string_type w.params x y z)
    have q1 : PatOk (mkX prog w base mg mb) (Str.ofString "_name_disallowed_re") := patOk_of hK (by show mg _ = _; rw [mg_of hK hg (g0 _)]; exact gn _ _ _ (by kernel_rfl)) (p1 _) code1_ok
    have q2 : PatOk (mkX prog w base mg mb) (Str.ofString "_value_disallowed_re") := patOk_of hK (by show mg _ = _; rw [mg_of hK hg (g0 _)]; exact gn _ _ _ (by kernel_rfl)) (p2 _) code2_ok
    exact Exs_conv ok q1 q2 (by rw [← hs.kindOf]; exact c1 _) (by rw [← hs.typOk]; exact c2 _ _) (by rw [← hs.gKind]; exact c3 _) (by rw [← hs.gKind]; exact c4 _) rfl

theorem h_itemsO : MItemsO (prm T 20) := tb_itemsO (k := 19) ⟨_, rfl⟩
theorem h_len : MLen (prm T 20) := tb_len (k := 19) ⟨_, rfl⟩
theorem h_add : MAdd (prm T 20) := tb_add (k := 18) ⟨_, rfl⟩
theorem h_make0 : MMake0 (prm T 20) := tb_make0 (k := 19) rfl
theorem h_make1 : MMake1 (prm T 20) := tb_make1 (k := 18) rfl
end Mine.L05
end

section
open PySem
set_option Elab.async false
set_option maxRecDepth 10000
set_option linter.unusedVariables false
namespace Mine

noncomputable abbrev E5 := Nat × Nat
noncomputable def le5 (a b : E5) : Bool := decide (a.2 ≤ b.2)
/-- two rows laid together, the left one of equals first -/
noncomputable def mg : List E5 → List E5 → List E5
  | [], ys => ys
  | x :: xs, ys => go x xs (mg xs) ys
where
  go (x : E5) (xs : List E5) (rest : List E5 → List E5) : List E5 → List E5
    | [] => x :: xs
    | y :: ys => if le5 x y then x :: rest (y :: ys) else y :: go x xs rest ys
theorem mg_nil (ys : List E5) : mg [] ys = ys := rfl
theorem mg_nilr (xs : List E5) : mg xs [] = xs := by cases xs <;> rfl
theorem mg_cons (x : E5) (xs : List E5) (y : E5) (ys : List E5) : mg (x :: xs) (y :: ys) = if le5 x y then x :: mg xs (y :: ys) else y :: mg (x :: xs) ys := rfl

noncomputable def Srt (L : List E5) : Prop := L.Pairwise fun a b => a.2 ≤ b.2
noncomputable def fil (f : Nat) (L : List E5) : List E5 := L.filter fun q => decide (q.2 = f)
theorem fil_app (f : Nat) (A B : List E5) : fil f (A ++ B) = fil f A ++ fil f B := List.filter_append ..
theorem fil_hit {f : Nat} {a : E5} {L : List E5} (h : a.2 = f) : fil f (a :: L) = a :: fil f L := List.filter_cons_of_pos (decide_eq_true h)
theorem fil_miss {f : Nat} {a : E5} {L : List E5} (h : a.2 ≠ f) : fil f (a :: L) = fil f L := List.filter_cons_of_neg (by simpa using h)
theorem fil_none {f : Nat} {L : List E5} (h : ∀ q ∈ L, q.2 ≠ f) : fil f L = [] := List.filter_eq_nil_iff.mpr fun q hq => by simpa using h q hq
theorem mg_mem {q : E5} : ∀ {A B : List E5}, q ∈ mg A B → q ∈ A ∨ q ∈ B
  | [], B, h => .inr h
  | x :: A, [], h => by rw [mg_nilr] at h; exact .inl h
  | x :: A, y :: B, h => by
    rw [mg_cons] at h
    split at h
    · rcases List.mem_cons.mp h with h | h
      · exact .inl (h ▸ .head _)
      · exact (mg_mem h).elim (fun h => .inl (.tail _ h)) .inr
    · rcases List.mem_cons.mp h with h | h
      · exact .inr (h ▸ .head _)
      · exact (mg_mem (A := x :: A) h).elim .inl fun h => .inr (.tail _ h)
theorem mg_srt : ∀ {A B : List E5}, Srt A → Srt B → Srt (mg A B)
  | [], B, _, hB => hB
  | x :: A, [], hA, _ => by rw [mg_nilr]; exact hA
  | x :: A, y :: B, hA, hB => by
    obtain ⟨a1, a2⟩ := List.pairwise_cons.mp hA
    obtain ⟨b1, b2⟩ := List.pairwise_cons.mp hB
    rw [mg_cons]
    by_cases h : le5 x y = true
    · rw [if_pos h]
      have h := of_decide_eq_true h
      refine List.pairwise_cons.mpr ⟨fun q hq => ?_, mg_srt a2 hB⟩
      rcases mg_mem hq with hq | hq
      · exact a1 q hq
      · rcases List.mem_cons.mp hq with hq | hq
        · rw [hq]; exact h
        · exact Nat.le_trans h (b1 q hq)
    · rw [if_neg h]
      have h : ¬ x.2 ≤ y.2 := fun q => h (decide_eq_true q)
      refine List.pairwise_cons.mpr ⟨fun q hq => ?_, mg_srt hA b2⟩
      rcases mg_mem hq with hq | hq
      · rcases List.mem_cons.mp hq with hq | hq
        · rw [hq]; omega
        · exact Nat.le_trans (by omega) (a1 q hq)
      · exact b1 q hq
theorem mg_fil (f : Nat) : ∀ {A B : List E5}, Srt A → fil f (mg A B) = fil f A ++ fil f B
  | [], B, _ => rfl
  | x :: A, [], _ => by rw [mg_nilr]; show _ = _ ++ []; rw [List.append_nil]
  | x :: A, y :: B, hA => by
    obtain ⟨a1, a2⟩ := List.pairwise_cons.mp hA
    rw [mg_cons]
    by_cases h : le5 x y = true
    · rw [if_pos h]
      by_cases hx : x.2 = f
      · rw [fil_hit hx, fil_hit hx, mg_fil f a2, List.cons_append]
      · rw [fil_miss hx, fil_miss hx, mg_fil f a2]
    · rw [if_neg h]
      have h : ¬ x.2 ≤ y.2 := fun q => h (decide_eq_true q)
      by_cases hy : y.2 = f
      · have hn : fil f (x :: A) = [] := fil_none fun q hq => by
          rcases List.mem_cons.mp hq with hq | hq
          · rw [hq]; omega
          · have := a1 q hq; omega
        rw [fil_hit hy, fil_hit hy, mg_fil f hA, hn, List.nil_append, List.nil_append]
      · rw [fil_miss hy, fil_miss hy, mg_fil f hA]

/-- put in order by halves -/
noncomputable def ms : Nat → List E5 → List E5
  | 0, L => L
  | d + 1, L => if L.length < 2 then L else mg (ms d (L.take (L.length / 2))) (ms d (L.drop (L.length / 2)))
theorem ms_fil (f : Nat) : ∀ (d : Nat) (L : List E5), L.length ≤ 2 ^ d → Srt (ms d L) ∧ fil f (ms d L) = fil f L
  | 0, L, h => by
    have : L = [] ∨ ∃ a, L = [a] := by
      cases L with
      | nil => exact .inl rfl
      | cons a L =>
        cases L with
        | nil => exact .inr ⟨a, rfl⟩
        | cons b L => simp at h
    rcases this with h | ⟨a, h⟩
    · rw [h]; exact ⟨.nil, rfl⟩
    · rw [h]; exact ⟨List.pairwise_singleton _ _, rfl⟩
  | d + 1, L, h => by
    rw [ms]
    by_cases h2 : L.length < 2
    · rw [if_pos h2]
      cases L with
      | nil => exact ⟨.nil, rfl⟩
      | cons a L =>
        cases L with
        | nil => exact ⟨List.pairwise_singleton _ _, rfl⟩
        | cons b L => exact absurd h2 (by simp)
    · rw [if_neg h2]
      rw [Nat.pow_succ] at h
      obtain ⟨s1, f1⟩ := ms_fil f d (L.take (L.length / 2)) (by rw [List.length_take]; omega)
      obtain ⟨s2, f2⟩ := ms_fil f d (L.drop (L.length / 2)) (by rw [List.length_drop]; omega)
      exact ⟨mg_srt s1 s2, by rw [mg_fil f s1, f1, f2, ← fil_app, List.take_append_drop]⟩
theorem mg_len : ∀ (A B : List E5), (mg A B).length = A.length + B.length
  | [], B => by rw [mg_nil, List.length_nil, Nat.zero_add]
  | x :: A, [] => by rw [mg_nilr]; rfl
  | x :: A, y :: B => by
    rw [mg_cons]
    split
    · rw [List.length_cons, mg_len A (y :: B), List.length_cons, List.length_cons]; omega
    · rw [List.length_cons, mg_len (x :: A) B, List.length_cons, List.length_cons]; omega
theorem ms_len : ∀ (d : Nat) (L : List E5), (ms d L).length = L.length
  | 0, L => rfl
  | d + 1, L => by
    rw [ms]
    split
    · rfl
    · rw [mg_len, ms_len d, ms_len d, List.length_take, List.length_drop]; omega
theorem ms_mem : ∀ (d : Nat) (L : List E5) (q : E5), q ∈ ms d L → q ∈ L
  | 0, L, q, h => h
  | d + 1, L, q, h => by
    rw [ms] at h
    split at h
    · exact h
    · rcases mg_mem h with h | h
      · exact List.mem_of_mem_take (ms_mem d _ q h)
      · exact List.mem_of_mem_drop (ms_mem d _ q h)

theorem srt_uniq : ∀ {A B : List E5}, Srt A → Srt B → (∀ f, fil f A = fil f B) → A = B
  | [], [], _, _, _ => rfl
  | [], b :: B, _, _, h => by have := h b.2; rw [fil_hit rfl] at this; cases this
  | a :: A, [], _, _, h => by have := h a.2; rw [fil_hit rfl] at this; cases this
  | a :: A, b :: B, hA, hB, h => by
    obtain ⟨a1, a2⟩ := List.pairwise_cons.mp hA
    obtain ⟨b1, b2⟩ := List.pairwise_cons.mp hB
    have k1 : a.2 ≤ b.2 := by
      have : b ∈ fil b.2 (a :: A) := by rw [h b.2, fil_hit rfl]; exact .head _
      rcases List.mem_cons.mp (List.mem_filter.mp this).1 with e | e
      · rw [e]; exact Nat.le_refl _
      · exact a1 b e
    have k2 : b.2 ≤ a.2 := by
      have : a ∈ fil a.2 (b :: B) := by rw [← h a.2, fil_hit rfl]; exact .head _
      rcases List.mem_cons.mp (List.mem_filter.mp this).1 with e | e
      · rw [e]; exact Nat.le_refl _
      · exact b1 a e
    have k : a.2 = b.2 := Nat.le_antisymm k1 k2
    have hh := h a.2
    rw [fil_hit rfl, fil_hit k.symm] at hh
    obtain ⟨e1, e2⟩ := List.cons.inj hh
    rw [e1, srt_uniq a2 b2 fun f => ?_]
    by_cases hf : a.2 = f
    · rw [← hf]; exact e2
    · have := h f
      rw [fil_miss hf, fil_miss (fun e => hf (k.trans e))] at this
      exact this
/-- the rows by figures -/
noncomputable def byF (n : Nat) (L : List E5) : List E5 := (List.range n).flatMap fun f => fil f L
theorem byF_succ (n : Nat) (L : List E5) : byF (n + 1) L = byF n L ++ fil n L := by
  unfold byF; rw [List.range_succ, List.flatMap_append]; simp
theorem byF_mem {n : Nat} {L : List E5} {q : E5} (h : q ∈ byF n L) : q.2 < n ∧ q ∈ L := by
  unfold byF at h
  obtain ⟨f, h1, h2⟩ := List.mem_flatMap.mp h
  obtain ⟨h3, h4⟩ := List.mem_filter.mp h2
  have h4 := of_decide_eq_true h4
  exact ⟨by rw [h4]; exact List.mem_range.mp h1, h3⟩
theorem byF_srt (L : List E5) : ∀ n, Srt (byF n L)
  | 0 => .nil
  | n + 1 => by
    rw [byF_succ]
    refine List.pairwise_append.mpr ⟨byF_srt L n, ?_, fun a ha b hb => ?_⟩
    · refine List.Pairwise.imp_of_mem (R := fun _ _ => True) (fun {a b} ha hb _ => ?_) (List.pairwise_of_forall fun _ _ => trivial)
      have h1 := of_decide_eq_true (List.mem_filter.mp ha).2
      have h2 := of_decide_eq_true (List.mem_filter.mp hb).2
      omega
    · have h1 := (byF_mem ha).1
      have h2 := of_decide_eq_true (List.mem_filter.mp hb).2
      omega
theorem fil_fil (f g : Nat) (L : List E5) : fil f (fil g L) = if f = g then fil g L else [] := by
  by_cases h : f = g
  · rw [if_pos h, h]
    exact List.filter_eq_self.mpr fun q hq => (List.mem_filter.mp hq).2
  · rw [if_neg h]
    exact fil_none fun q hq e => h (e.symm.trans (of_decide_eq_true (List.mem_filter.mp hq).2))
theorem byF_fil (f : Nat) (L : List E5) : ∀ n, fil f (byF n L) = if f < n then fil f L else []
  | 0 => by rw [if_neg (Nat.not_lt_zero _)]; rfl
  | n + 1 => by
    rw [byF_succ, fil_app, byF_fil f L n, fil_fil]
    by_cases h : f < n
    · rw [if_pos h, if_neg (by omega), if_pos (by omega), List.append_nil]
    · by_cases h2 : f = n
      · rw [if_neg h, if_pos h2, if_pos (by omega), h2]; rfl
      · rw [if_neg h, if_neg h2, if_neg (by omega)]; rfl
theorem ms_byF {d : Nat} {L : List E5} (hd : L.length ≤ 2 ^ d) (h : ∀ q ∈ L, q.2 < 10) : ms d L = byF 10 L := by
  refine srt_uniq (ms_fil 0 d L hd).1 (byF_srt L 10) fun f => ?_
  rw [(ms_fil f d L hd).2, byF_fil]
  by_cases hf : f < 10
  · rw [if_pos hf]
  · rw [if_neg hf]
    exact fil_none fun q hq e => hf (e ▸ h q hq)
end Mine
end

section
open PySem
set_option Elab.async false
set_option maxRecDepth 10000
set_option linter.unusedVariables false
namespace Mine

noncomputable def ent5 (q : E5) : Str × Str := (ch q.1, strI (q.2 : Int))
noncomputable def pr5 (q : E5) : PyData := .tuple [.str (ch q.1), .str (strI (q.2 : Int))]
theorem map5 (L : List E5) : (L.map ent5).map pr = L.map pr5 := by rw [List.map_map]; rfl
theorem le_fig : ∀ a, a < 10 → ∀ b, b < 10 → leD (.str (strI ((a : Nat) : Int))) (.str (strI ((b : Nat) : Int))) = some (decide (a ≤ b)) := by decide +kernel
noncomputable def ok5 (L : List E5) : Prop := L.length ≤ 32 ∧ ∀ q ∈ L, q.2 < 10
theorem ok5.tiny {L : List E5} (h : ok5 L) : tiny (L.map ent5) := by
  refine ⟨by rw [List.length_map]; exact Nat.le_trans h.1 (by decide), fun p hp => ?_⟩
  obtain ⟨q, hq, rfl⟩ := List.mem_map.mp hp
  exact ⟨ch_tiny _, strI_tiny64 q.2 (Nat.lt_trans (h.2 q hq) (by decide))⟩
theorem ok5.sub {L M : List E5} (h : ok5 L) (hl : M.length ≤ L.length) (hm : ∀ q ∈ M, q ∈ L) : ok5 M := ⟨Nat.le_trans hl h.1, fun q hq => h.2 q (hm q hq)⟩

/-! heaps that grow -/
theorem app_get {h xs : List AObj} {k : Nat} : (h ++ xs)[h.length + k]? = xs[k]? := by
  rw [List.getElem?_append_right (Nat.le_add_right _ _), Nat.add_sub_cancel_left]
theorem app_get0 {h xs : List AObj} : (h ++ xs)[h.length]? = xs[0]? := app_get (k := 0)
theorem app_set {h xs : List AObj} {k : Nat} {o : AObj} : (h ++ xs).set (h.length + k) o = h ++ xs.set k o := by
  rw [List.set_append_right _ _ (Nat.le_add_right _ _), Nat.add_sub_cancel_left]
theorem app_set0 {h xs : List AObj} {o : AObj} : (h ++ xs).set h.length o = h ++ xs.set 0 o := app_set (k := 0)
theorem app_left {h xs : List AObj} {i : Nat} {o : AObj} (e : h[i]? = some o) : (h ++ xs)[i]? = some o := by
  rw [List.getElem?_append_left (List.getElem?_eq_some_iff.mp e).1]; exact e
theorem okO_mono {n m : Nat} {o : AObj} (h : okO n o = true) (hl : n ≤ m) : okO m o = true := by
  cases o with
  | inst q =>
    cases q with
    | none => rfl
    | some l' => exact decide_eq_true (Nat.lt_of_lt_of_le (of_decide_eq_true h) hl)
  | _ => rfl
theorem wf_app2 {h xs : List AObj} (hw : wf h = true) (hx : xs.all (okO (h ++ xs).length) = true) : wf (h ++ xs) = true := by
  unfold wf
  rw [List.all_append, Bool.and_eq_true]
  refine ⟨?_, hx⟩
  rw [List.all_eq_true]
  exact fun o ho => okO_mono (List.all_eq_true.mp hw o ho) (by rw [List.length_append]; exact Nat.le_add_right _ _)
theorem Tb.app {h xs : List AObj} {i n : Nat} {ps : List (Str × Str)} (t : Tb h i n ps) (hw : Mine.wf (h ++ xs) = true) : Tb (h ++ xs) i n ps := ⟨app_left t.i, app_left t.n, hw, t.tiny⟩

section
variable {Q : Prm} {l : Str → Option V} {hp : List AObj} {R : Fl → St → Prop}

/-- while two rows are laid together -/
noncomputable def Hm (h : List AObj) (A B M : List E5) : List AObj := h ++ [.lst (A.map pr5), .lst (B.map pr5), .inst (some (h.length + 3)), .lst ((M.map ent5).map pr)]
theorem Hm_len {h : List AObj} {A B M : List E5} : (Hm h A B M).length = h.length + 4 := by unfold Hm; rw [List.length_append]; rfl
theorem Hm_wf {h : List AObj} {A B M : List E5} (hw : wf h = true) : wf (Hm h A B M) = true := wf_app2 hw (by
  rw [List.length_append]
  show (true && (true && (decide (h.length + 3 < h.length + 4) && (true && true)))) = true
  rw [decide_eq_true (Nat.lt_succ_self _)]; rfl)
theorem Hm0 {h : List AObj} {A B M : List E5} : (Hm h A B M)[h.length]? = some (.lst (A.map pr5)) := app_get0
theorem Hm1 {h : List AObj} {A B M : List E5} : (Hm h A B M)[h.length + 1]? = some (.lst (B.map pr5)) := app_get
theorem Hm2 {h : List AObj} {A B M : List E5} : (Hm h A B M)[h.length + 2]? = some (.inst (some (h.length + 3))) := app_get
theorem Hm3 {h : List AObj} {A B M : List E5} : (Hm h A B M)[h.length + 3]? = some (.lst ((M.map ent5).map pr)) := app_get
theorem Hm_tb {h : List AObj} {A B M : List E5} (hw : wf h = true) (hM : tiny (M.map ent5)) : Tb (Hm h A B M) (h.length + 2) (h.length + 3) (M.map ent5) := ⟨Hm2, Hm3, Hm_wf hw, hM⟩

noncomputable abbrev KO (N m1 m2 p0 fi : Nat) (half : Int) : List (Str × V) := [(x_left, .obj N), (x_right, .obj (N + 1)), (x_merged, .obj (N + 2)), (x_first, .obj m1), (x_second, .obj m2), (x_half, .dat (.int half)), (x_pairs, .obj p0), (x_faults, .obj fi)]
theorem okKO {N m1 m2 p0 fi : Nat} {half : Int} (h1 : m1 < N) (h2 : m2 < N) (h3 : p0 < N) (h4 : fi < N) : (KO N m1 m2 p0 fi half).all (fun p => okV (N + 4) p.2) = true := by
  show (decide (N < N + 4) && (decide (N + 1 < N + 4) && (decide (N + 2 < N + 4) && (decide (m1 < N + 4) && (decide (m2 < N + 4) && (true && (decide (p0 < N + 4) && (decide (fi < N + 4) && true)))))))) = true
  rw [decide_eq_true (show N < N + 4 by omega), decide_eq_true (show N + 1 < N + 4 by omega), decide_eq_true (show N + 2 < N + 4 by omega), decide_eq_true (show m1 < N + 4 by omega), decide_eq_true (show m2 < N + 4 by omega), decide_eq_true (show p0 < N + 4 by omega), decide_eq_true (show fi < N + 4 by omega)]
  rfl

/-- the taken pair is laid down -/
theorem r1_ok (hadd : MAdd Q) {h : List AObj} {A B M : List E5} {q : E5} {m1 m2 p0 fi : Nat} {half : Int} {v : V} (hw : wf h = true) (hM : tiny (M.map ent5)) (hq : q.2 < 10)
    (hk : Kn ((x_value, .dat (.str (strI (q.2 : Int)))) :: (x_name, .dat (.str (ch q.1))) :: KO h.length m1 m2 p0 fi half) l)
    (hR : ∀ l, Kn (KO h.length m1 m2 p0 fi half) l → R .next ⟨l, Hm h A B (M ++ [q])⟩) : Ok (law05_ordered_r1 Q) ⟨l, Hm h A B M⟩ R := by
  have t := Hm_tb (A := A) (B := B) hw hM
  have h2 := Hm2 (h := h) (A := A) (B := B) (M := M)
  have c1 := ch_tiny q.1
  have c2 : tinyS (strI (q.2 : Int)) := strI_tiny64 q.2 (Nat.lt_trans hq (by decide))
  unfold law05_ordered_r1
  wtm_at "st"
  refine o_end ?_
  have e : (Hm h A B M).set (h.length + 3) (.lst ((M.map ent5 ++ [(ch q.1, strI (q.2 : Int))]).map pr)) = Hm h A B (M ++ [q]) := by
    unfold Hm; rw [app_set, List.map_append (l₁ := M)]; rfl
  rw [e]
  exact hR l (by wtm_at "kn")

theorem pr5_0 {q : E5} {L : List E5} : itemD (.list ((q :: L).map pr5)) (.int 0) = some (pr5 q) := item_map (k := 0) rfl
theorem truth5 {L : List E5} (h : L.length ≤ 32) : truthD (.list (L.map pr5)) = some (L.length != 0) := by
  show (if (L.map pr5).length ≤ big then some ((L.map pr5).length != 0) else none) = _
  rw [List.length_map, if_pos (Nat.le_trans h (by decide))]
theorem b3_ok (hadd : MAdd Q) {h : List AObj} {A B M : List E5} {m1 m2 p0 fi : Nat} {half : Int} (hw : wf h = true) (hM : tiny (M.map ent5)) (hA : ok5 A) (hB : ok5 B) (hne : A.length + B.length ≠ 0) (hk : Kn (KO h.length m1 m2 p0 fi half) l)
    (hR : ∀ l A' B' q, A'.length + B'.length + 1 = A.length + B.length → ok5 A' → ok5 B' → mg A B = q :: mg A' B' → Kn (KO h.length m1 m2 p0 fi half) l → R .next ⟨l, Hm h A' B' (M ++ [q])⟩) : Ok (law05_ordered_b3 Q) ⟨l, Hm h A B M⟩ R := by
  have g0 := Hm0 (h := h) (A := A) (B := B) (M := M)
  have g1 := Hm1 (h := h) (A := A) (B := B) (M := M)
  have ta := truth5 hA.1
  have tb := truth5 hB.1
  have hbA : (A.map pr5).length ≤ big := by rw [List.length_map]; exact Nat.le_trans hA.1 (by decide)
  have hbB : (B.map pr5).length ≤ big := by rw [List.length_map]; exact Nat.le_trans hB.1 (by decide)
  -- from the left
  have left : ∀ (x : E5) (A' : List E5), A = x :: A' → mg A B = x :: mg A' B → Ok (thenM (thenM (asg2M (setLoc x_name) (setLoc x_value) (lmM popKF (nameS x_left) [datM (.int 0)])) (endM)) (law05_ordered_r1 Q)) ⟨l, Hm h A B M⟩ R := by
    rintro x A' rfl hm
    have hp : popKF ((x :: A').map pr5) [.dat (.int 0)] = some (.tuple [.str (ch x.1), .str (strI (x.2 : Int))], A'.map pr5) := rfl
    wtm_at "st"
    wtm_at "st"
    wtm_at "st"
    have e : (Hm h (x :: A') B M).set h.length (.lst (A'.map pr5)) = Hm h A' B M := by unfold Hm; rw [app_set0]; rfl
    rw [e]
    exact r1_ok hadd (v := .dat .none) hw hM (hA.2 x (.head _)) hk fun l hk => hR l A' B x (by rw [List.length_cons]; omega) (hA.sub (Nat.le_succ _) fun q hq => .tail _ hq) hB hm hk
  have right : ∀ (y : E5) (B' : List E5), B = y :: B' → mg A B = y :: mg A B' → Ok (thenM (thenM (asg2M (setLoc x_name) (setLoc x_value) (lmM popKF (nameS x_right) [datM (.int 0)])) (endM)) (law05_ordered_r1 Q)) ⟨l, Hm h A B M⟩ R := by
    rintro y B' rfl hm
    have hp : popKF ((y :: B').map pr5) [.dat (.int 0)] = some (.tuple [.str (ch y.1), .str (strI (y.2 : Int))], B'.map pr5) := rfl
    wtm_at "st"
    wtm_at "st"
    wtm_at "st"
    have e : (Hm h A (y :: B') M).set (h.length + 1) (.lst (B'.map pr5)) = Hm h A B' M := by unfold Hm; rw [app_set]; rfl
    rw [e]
    exact r1_ok hadd (v := .dat .none) hw hM (hB.2 y (.head _)) hk fun l hk => hR l A B' y (by rw [List.length_cons]; omega) hA (hB.sub (Nat.le_succ _) fun q hq => .tail _ hq) hm hk
  unfold law05_ordered_b3
  cases B with
  | nil =>
    cases A with
    | nil => exact absurd rfl hne
    | cons x A' =>
      refine o_if1 (σ1 := ⟨l, Hm h (x :: A') [] M⟩) (t_or (b := !(([] : List E5).length != 0)) (c := true) (by wtm_at "ev") (fun h => nomatch h)) ?_
      exact left x A' rfl (by rw [mg_nilr, mg_nilr])
  | cons y B' =>
    cases A with
    | nil =>
      refine o_if0 (σ1 := ⟨l, Hm h [] (y :: B') M⟩) (t_or (b := !((y :: B').length != 0)) (c := (([] : List E5).length != 0) && true) (by wtm_at "ev") (fun _ => t_and (b := ([] : List E5).length != 0) (by wtm_at "ev") (fun h => nomatch h))) ?_
      exact right y B' rfl rfl
    | cons x A' =>
      have i0 := pr5_0 (q := x) (L := A')
      have i1 := pr5_0 (q := y) (L := B')
      have i2 : itemD (pr5 x) (.int 1) = some (.str (strI (x.2 : Int))) := rfl
      have i3 : itemD (pr5 y) (.int 1) = some (.str (strI (y.2 : Int))) := rfl
      have c1 : cmpD .LtE (.str (strI (x.2 : Int))) (.str (strI (y.2 : Int))) = some (le5 x y) := le_fig x.2 (hA.2 x (.head _)) y.2 (hB.2 y (.head _))
      have hm := mg_cons x A' y B'
      refine o_if (q := !((y :: B').length != 0) || (((x :: A').length != 0) && le5 x y)) (σ1 := ⟨l, Hm h (x :: A') (y :: B') M⟩) (t_or (by wtm_at "ev") (fun _ => t_and (by wtm_at "ev") (fun _ => by wtm_at "ev"))) ?_ ?_
      · intro hq
        have hq : le5 x y = true := hq
        exact left x A' rfl (by rw [hm, if_pos hq])
      · intro hq
        have hq : le5 x y = false := hq
        exact right y B' rfl (by rw [hm, hq]; rfl)

theorem f_lenL {i : Nat} {ds : List PyData} (h : hp[i]? = some (.lst ds)) (hb : ds.length ≤ big) : Run (lenB Q [.obj i]) ⟨l, hp⟩ (.dat (.int (ds.length : Nat))) ⟨l, hp⟩ := f_len (by unfold isInst; simp only [h]) (rd_obj h) rfl hb
theorem f_lenT {i n : Nat} {ps : List (Str × Str)} (hlen : MLen Q) (t : Tb hp i n ps) : Run (lenB Q [.obj i]) ⟨l, hp⟩ (.dat (.int (ps.length : Nat))) ⟨l, hp⟩ := f_lenI (by unfold isInst; simp only [t.i]) (m_len hlen t) ⟨by omega, by have := t.tiny.1; unfold big; omega⟩

noncomputable def MOrd (Q : Prm) (d : Nat) : Prop := ∀ {hp : List AObj} {i n fi : Nat} {L : List E5} {l : Str → Option V}, ok5 L → L.length ≤ 2 ^ d → Tb hp i n (L.map ent5) → hp[fi]? = some (.lst []) →
  ∃ m k ext, Run (Q.fn x__law_ordered [.obj i, .obj fi]) ⟨l, hp⟩ (.obj m) ⟨l, hp ++ ext⟩ ∧ Tb (hp ++ ext) m k ((ms d L).map ent5)

theorem ord_small (hit : MItemsO Q) {i n fi : Nat} {L : List E5} (hL : L.length < 2) (t : Tb hp i n (L.map ent5)) (hk : Kn [(x_table, .obj i), (x_faults, .obj fi)] l) : Ok (law05_ordered Q) ⟨l, hp⟩ fun f s => f = .ret (.obj i) ∧ s.heap.take hp.length = hp := by
  have h1 := t.i
  have g := last_get (hp := hp) (o := .lst ((L.map ent5).map pr))
  have hl := fun l => f_lenL (Q := Q) (l := l) g (by rw [List.length_map]; exact t.tiny.big)
  unfold law05_ordered
  wtm_at "st"
  have hl := hl l
  have c1 : cmpD .Lt (.int ((((L.map ent5).map pr).length : Nat) : Int)) (.int 2) = some true := by
    show some (decide _) = _
    rw [decide_eq_true (by rw [List.length_map, List.length_map]; omega)]
  refine o_if1 (σ1 := ⟨l, hp ++ [.lst ((L.map ent5).map pr)]⟩) (by wtm_at "ev") ?_
  wtm_at "st"
  wtm_at "st"
  exact ⟨rfl, List.take_left⟩

theorem cut_hi {xs : List PyData} {b : Nat} (hx : xs.length ≤ 1000) (hb : b ≤ xs.length) : cutD none (some (b : Int)) (.list xs) = some (.list (xs.take b)) := by
  show (if xs.length ≤ big then some (PyData.list ((xs.take (clampI (b : Int) xs.length)).drop 0)) else none) = _
  rw [if_pos (Nat.le_trans hx (by decide))]
  have : clampI (b : Int) xs.length = b := by
    show (if ((b : Int)) < 0 then _ else min ((b : Int)).toNat xs.length) = _
    rw [if_neg (by omega), Int.toNat_natCast]; omega
  rw [this]; rfl
theorem cut_lo {xs : List PyData} {b : Nat} (hx : xs.length ≤ 1000) (hb : b ≤ xs.length) : cutD (some (b : Int)) none (.list xs) = some (.list (xs.drop b)) := by
  show (if xs.length ≤ big then some (PyData.list ((xs.take xs.length).drop (clampI (b : Int) xs.length))) else none) = _
  rw [if_pos (Nat.le_trans hx (by decide)), List.take_length]
  have : clampI (b : Int) xs.length = b := by
    show (if ((b : Int)) < 0 then _ else min ((b : Int)).toNat xs.length) = _
    rw [if_neg (by omega), Int.toNat_natCast]; omega
  rw [this]

/-- a table of a part of the pairs -/
theorem mk_part (hmk1 : MMake1 Q) {h : List AObj} {e : M V} {A : List E5} (hw : wf h = true) (hA : ok5 A) (he : Run e ⟨l, h⟩ (.obj h.length) ⟨l, h ++ [.lst ((A.map ent5).map pr)]⟩) :
    Run (mkM Q [e]) ⟨l, h⟩ (.obj (h.length + 1)) ⟨l, h ++ [.lst ((A.map ent5).map pr), .inst (some h.length)]⟩ ∧ Tb (h ++ [.lst ((A.map ent5).map pr), .inst (some h.length)]) (h.length + 1) h.length (A.map ent5) := by
  have hm := m_make1 (l := l) hmk1 (hp := h ++ [.lst ((A.map ent5).map pr)]) (n := h.length) (ps := A.map ent5) last_get (wf_lst hw) hA.tiny
  rw [last_len, List.append_assoc] at hm
  have hw2 : wf (h ++ [.lst ((A.map ent5).map pr), .inst (some h.length)]) = true := wf_app2 hw (by
    rw [List.length_append]
    show (true && (decide (h.length < h.length + 2) && true)) = true
    rw [decide_eq_true (by omega)]; rfl)
  exact ⟨r_mk (q_cons he q_nil) hm, ⟨app_get, app_get0, hw2, hA.tiny⟩⟩

theorem ord_big (hit : MItemsO Q) (hlen : MLen Q) (hadd : MAdd Q) (hmk0 : MMake0 Q) (hmk1 : MMake1 Q) (hf : Q.fuel = 1000) {d : Nat} (ih : MOrd Q d) {i n fi : Nat} {L : List E5} (hL : ok5 L) (h2 : ¬ L.length < 2) (hd : L.length ≤ 2 ^ (d + 1)) (t : Tb hp i n (L.map ent5)) (hfi : hp[fi]? = some (.lst []))
    (hk : Kn [(x_table, .obj i), (x_faults, .obj fi)] l) : Ok (law05_ordered Q) ⟨l, hp⟩ fun f s => ∃ m k ext, f = .ret (.obj m) ∧ hp.length ≤ m ∧ s.heap = hp ++ ext ∧ Tb (hp ++ ext) m k ((ms (d + 1) L).map ent5) := by
  have h1 := t.i
  have hL32 := hL.1
  rw [Nat.pow_succ] at hd
  -- the parts
  generalize hH : L.length / 2 = half
  have hh : half ≤ L.length := by omega
  generalize hA : L.take half = A
  generalize hB : L.drop half = B
  have hAl : A.length = half := by rw [← hA, List.length_take]; omega
  have hBl : B.length = L.length - half := by rw [← hB, List.length_drop]
  have okA : ok5 A := hL.sub (by omega) fun q hq => List.mem_of_mem_take (hA ▸ hq)
  have okB : ok5 B := hL.sub (by omega) fun q hq => List.mem_of_mem_drop (hB ▸ hq)
  have hms : ms (d + 1) L = mg (ms d A) (ms d B) := by rw [ms, if_neg h2, hH, hA, hB]
  have okA' : ok5 (ms d A) := okA.sub (by rw [ms_len]; exact Nat.le_refl _) fun q hq => ms_mem d A q hq
  have okB' : ok5 (ms d B) := okB.sub (by rw [ms_len]; exact Nat.le_refl _) fun q hq => ms_mem d B q hq
  have lps : ((L.map ent5).map pr).length = L.length := by rw [List.length_map, List.length_map]
  have bps : ((L.map ent5).map pr).length ≤ big := by rw [lps]; exact Nat.le_trans hL32 (by decide)
  have u1 : cutD none (some (half : Int)) (.list ((L.map ent5).map pr)) = some (.list ((A.map ent5).map pr)) := by
    rw [cut_hi (by rw [lps]; omega) (by rw [lps]; exact hh), ← List.map_take, ← List.map_take, hA]
  have u2 : cutD (some (half : Int)) none (.list ((L.map ent5).map pr)) = some (.list ((B.map ent5).map pr)) := by
    rw [cut_lo (by rw [lps]; omega) (by rw [lps]; exact hh), ← List.map_drop, ← List.map_drop, hB]
  have bh := boundN (k := half) (by omega)
  unfold law05_ordered
  wtm_at "st"
  generalize hh1 : hp ++ [AObj.lst ((L.map ent5).map pr)] = g1
  have w1 : wf g1 = true := by rw [← hh1]; exact wf_lst t.wf
  have p1 : g1[hp.length]? = some (.lst ((L.map ent5).map pr)) := by rw [← hh1]; exact last_get
  have f1 : g1[fi]? = some (.lst []) := by rw [← hh1]; exact app_left hfi
  have n1 : g1.length = hp.length + 1 := by rw [← hh1]; exact last_len
  have lp := f_lenL (Q := Q) (l := l) p1 bps
  have c1 : cmpD .Lt (.int ((((L.map ent5).map pr).length : Nat) : Int)) (.int 2) = some false := by
    show some (decide _) = _
    rw [decide_eq_false (by rw [lps]; omega)]
  refine o_if0 (σ1 := ⟨l, g1⟩) (by wtm_at "ev") ?_
  wtm_at "st"
  unfold law05_ordered_r6
  wtm_at "st"
  rw [lps, show ((L.length : Int)).fdiv 2 = (half : Int) by rw [Int.fdiv_eq_ediv_of_nonneg _ (by decide), ← hH]; rfl] at hk
  -- the first half
  obtain ⟨mkA, tA⟩ := mk_part (l := l) hmk1 (h := g1) (e := ownSliceM (nameS x_pairs) none (some (nameS x_half))) w1 okA (by wtm_at "ev")
  generalize hh2 : g1 ++ [AObj.lst ((A.map ent5).map pr), AObj.inst (some g1.length)] = g2 at mkA tA
  have f2 : g2[fi]? = some (.lst []) := by rw [← hh2]; exact app_left f1
  obtain ⟨m1, k1, e1, run1, t1⟩ := ih (l := l) okA (by omega) tA f2
  wtm_at "st"
  generalize hh3 : g2 ++ e1 = g3 at run1 t1
  have f3 : g3[fi]? = some (.lst []) := by rw [← hh3]; exact app_left f2
  have p3 : g3[hp.length]? = some (.lst ((L.map ent5).map pr)) := by rw [← hh3, ← hh2]; exact app_left (app_left p1)
  -- the second half
  obtain ⟨mkB, tB⟩ := mk_part (l := l) hmk1 (h := g3) (e := ownSliceM (nameS x_pairs) (some (nameS x_half)) none) t1.wf okB (by wtm_at "ev")
  generalize hh4 : g3 ++ [AObj.lst ((B.map ent5).map pr), AObj.inst (some g3.length)] = g4 at mkB tB
  have f4 : g4[fi]? = some (.lst []) := by rw [← hh4]; exact app_left f3
  obtain ⟨m2, k2, e2, run2, t2⟩ := ih (l := l) okB (by omega) tB f4
  wtm_at "st"
  generalize hh5 : g4 ++ e2 = g5 at run2 t2
  have t1' : Tb g5 m1 k1 ((ms d A).map ent5) := by
    have w5 := t2.wf
    rw [← hh5, ← hh4, List.append_assoc] at w5 ⊢
    exact t1.app w5
  have p5 : g5[hp.length]? = some (.lst ((L.map ent5).map pr)) := by rw [← hh5, ← hh4]; exact app_left (app_left p3)
  have f5 : g5[fi]? = some (.lst []) := by rw [← hh5]; exact app_left f4
  have ex5 : ∃ ext, g5 = hp ++ ext := ⟨_, by rw [← hh5, ← hh4, ← hh3, ← hh2, ← hh1]; simp only [List.append_assoc]; rfl⟩
  obtain ⟨ext, hext⟩ := ex5
  have i1 := t1'.i
  wtm_at "st"
  have t2' : Tb (g5 ++ [.lst (((ms d A).map ent5).map pr)]) m2 k2 ((ms d B).map ent5) := t2.app (wf_lst t2.wf)
  have i2 := t2'.i
  wtm_at "st"
  wtm_at "st"
  have eH : g5 ++ [AObj.lst (((ms d A).map ent5).map pr)] ++ [AObj.lst (((ms d B).map ent5).map pr)] ++ [AObj.inst (some ((g5 ++ [AObj.lst (((ms d A).map ent5).map pr)] ++ [AObj.lst (((ms d B).map ent5).map pr)]).length + 1)), AObj.lst (([] : List (Str × Str)).map pr)] = Hm g5 (ms d A) (ms d B) [] := by
    unfold Hm; rw [last_len, last_len, List.append_assoc, List.append_assoc, map5, map5]; rfl
  rw [eH]
  rw [last_len, last_len] at hk
  have lt1 : m1 < g5.length := (List.getElem?_eq_some_iff.mp t1'.i).1
  have lt2 : m2 < g5.length := (List.getElem?_eq_some_iff.mp t2.i).1
  have lt3 : hp.length < g5.length := (List.getElem?_eq_some_iff.mp p5).1
  have lt4 : fi < g5.length := (List.getElem?_eq_some_iff.mp f5).1
  have hko := okKO (half := (half : Int)) lt1 lt2 lt3 lt4
  have hk' : Kn (KO g5.length m1 m2 hp.length fi (half : Int)) l := by
    show Kn [_, (x_right, .obj (g5.length + 1)), (x_merged, .obj (g5.length + 1 + 1)), _, _, _, _, _] l
    wtm_at "kn"
  clear hk
  -- they are laid together
  apply o_while
  refine o_whileK (fun k l h => ∃ A' B' M, h = Hm g5 A' B' M ∧ A'.length + B'.length = k ∧ ok5 A' ∧ ok5 B' ∧ M ++ mg A' B' = mg (ms d A) (ms d B) ∧ Kn (KO g5.length m1 m2 hp.length fi (half : Int)) l) (k := (ms d A).length + (ms d B).length) (by rw [hf, ms_len, ms_len]; omega) ⟨_, _, [], rfl, rfl, okA', okB', rfl, hk'⟩ ?_
  rintro k l h ⟨A', B', M, rfl, hkk, oA, oB, hmg, hk⟩
  have g0 := Hm0 (h := g5) (A := A') (B := B') (M := M)
  have g1' := Hm1 (h := g5) (A := A') (B := B') (M := M)
  have ta := truth5 oA.1
  have tb := truth5 oB.1
  have okm : ∀ q ∈ mg (ms d A) (ms d B), q.2 < 10 := fun q hq => (mg_mem hq).elim (okA'.2 q) (okB'.2 q)
  have lenm : (mg (ms d A) (ms d B)).length = L.length := by rw [mg_len, ms_len, ms_len, hAl, hBl]; omega
  have hM : tiny (M.map ent5) := by
    refine ok5.tiny ⟨?_, fun q hq => okm q (by rw [← hmg]; exact List.mem_append_left _ hq)⟩
    have := congrArg List.length hmg
    rw [List.length_append, lenm] at this
    omega
  unfold law05_ordered_t2
  refine Run.ok (a := (A'.length != 0) || (B'.length != 0)) (σ' := ⟨l, Hm g5 A' B' M⟩) (t_or (by wtm_at "ev") (fun _ => by wtm_at "ev")) ?_
  by_cases hne : A'.length + B'.length = 0
  · have ea : A' = [] := List.length_eq_zero_iff.mp (by omega)
    have eb : B' = [] := List.length_eq_zero_iff.mp (by omega)
    subst ea eb
    rw [if_neg (by decide)]
    rw [mg_nil, List.append_nil] at hmg
    show Ok (law05_ordered_r5 Q) _ _
    have w5 := t2.wf
    have tt1 : Tb (Hm g5 [] [] M) m1 k1 ((ms d A).map ent5) := t1'.app (Hm_wf w5)
    have tt2 : Tb (Hm g5 [] [] M) m2 k2 ((ms d B).map ent5) := t2.app (Hm_wf w5)
    have pp : (Hm g5 [] [] M)[hp.length]? = some (.lst ((L.map ent5).map pr)) := app_left p5
    have l1 := f_lenT (l := l) hlen tt1
    have l2 := f_lenT (l := l) hlen tt2
    have l3 := f_lenL (Q := Q) (l := l) pp bps
    have c2 : cmpD .NotEq (.int ((((ms d A).map ent5).length : Nat) : Int)) (.int (half : Int)) = some false := by
      rw [cNeI, decide_eq_true]; · rfl
      rw [List.length_map, ms_len, hAl]
    have c3 : cmpD .NotEq (.int ((((ms d B).map ent5).length : Nat) : Int)) (.int (((((L.map ent5).map pr).length : Nat) : Int) - (half : Int))) = some false := by
      rw [cNeI, decide_eq_true]; · rfl
      rw [List.length_map, ms_len, hBl, lps]; omega
    unfold law05_ordered_r5
    refine o_if0 (σ1 := ⟨l, Hm g5 [] [] M⟩) (t_or (b := false) (c := false) (by wtm_at "ev") (fun _ => by wtm_at "ev")) ?_
    wtm_at "st"
    unfold law05_ordered_r4
    wtm_at "st"
    refine ⟨g5.length + 2, g5.length + 3, ext ++ [.lst [], .lst [], .inst (some (g5.length + 3)), .lst ((M.map ent5).map pr)], rfl, by omega, ?_, ?_⟩
    · show Hm g5 [] [] M = _
      unfold Hm; rw [← List.append_assoc, ← hext]; rfl
    · rw [← List.append_assoc, ← hext, hms, ← hmg]
      exact Hm_tb (A := []) (B := []) w5 hM
  · have hb : ((A'.length != 0) || (B'.length != 0)) = true := by
      rw [Bool.or_eq_true, bne_iff_ne, bne_iff_ne]; omega
    rw [if_pos hb]
    obtain ⟨j, hj⟩ : ∃ j, k = j + 1 := ⟨k - 1, by omega⟩
    refine ⟨j, hj, ?_⟩
    refine b3_ok hadd t2.wf hM oA oB hne hk fun l A2 B2 q h1 o1 o2 hmq hk => cut_ok' (by rw [Hm_len, Hm_len]) (Hm_wf t2.wf) rfl ?_
    refine ⟨A2, B2, M ++ [q], rfl, by omega, o1, o2, ?_, kn_cut (by rw [Hm_len]; exact hko) hk⟩
    rw [← hmg, hmq, List.append_assoc]; rfl


/-! the law -/
theorem r_andG {σ σ1 σ2 : St} {a b : M V} {ms : List (M V)} {v : V} (h : Run a σ (.dat (.bool true)) σ1) (k : Run (boolS .And (b :: ms)) σ1 v σ2) : Run (boolS .And (a :: b :: ms)) σ v σ2 := run_bind h (run_bind (a := true) (σ1 := σ1) rfl k)
noncomputable def g5 (n : Int) : E5 := ((match ((n.fdiv 10).fmod 4).toNat with | 0 => 97 | 1 => 98 | 2 => 65 | _ => 66), (n.fmod 10).toNat)
theorem abAB (n : Int) : itemD (.str (Str.ofString "abAB")) (.int ((n.fdiv 10).fmod 4)) = some (.str (ch (g5 n).1)) ∧ smallI (.int ((n.fdiv 10).fmod 4)) = true := by
  obtain ⟨h0, h1⟩ := fmod_range (n := n.fdiv 10) (m := 4) (by decide)
  have f : ∀ k, k < 4 → (Str.ofString "abAB").cps.toList[k]? = some (match k with | 0 => 97 | 1 => 98 | 2 => 65 | _ => 66) := by decide
  refine ⟨item_strI h0 (f _ (by omega)), ?_⟩
  show decide _ = true
  exact decide_eq_true ⟨by omega, by omega⟩
theorem fig5 (n : Int) : n.fmod 10 = (((g5 n).2 : Nat) : Int) ∧ (g5 n).2 < 10 := by
  obtain ⟨h0, h1⟩ := fmod_range (n := n) (m := 10) (by decide)
  show _ = (((n.fmod 10).toNat : Nat) : Int) ∧ (n.fmod 10).toNat < 10
  omega
theorem figs : ∀ f, f < 10 → strI ((f : Nat) : Int) = ch (48 + f) := by decide +kernel
theorem figs_all : itemsD (.str (Str.ofString "0123456789")) = some ((List.range 10).map fun f : Nat => .str (strI (f : Int))) := by
  have e : (List.range 10).map (fun f : Nat => PyData.str (strI (f : Int))) = (List.range 10).map fun f => .str (ch (48 + f)) := List.map_congr_left fun f hf => by rw [figs f (List.mem_range.mp hf)]
  rw [e]; rfl
theorem eq_fig {a b : Nat} (ha : a < 10) (hb : b < 10) : cmpD .Eq (.str (strI (a : Int))) (.str (strI (b : Int))) = some (decide (a = b)) := by
  rw [cEqS, figs a ha, figs b hb]
  congr 1
  rw [Bool.eq_iff_iff, beq_iff_eq, ch_inj, decide_eq_true_eq]
  omega

noncomputable abbrev KL (m N : Nat) : List (Str × V) := [(x_pairs, .obj 0), (x_table, .obj 2), (x_faults, .obj 3), (x_ordered, .obj m), (x_right, .obj N)]
theorem okKL {m N : Nat} (h3 : 3 < N) (hm : m < N) : (KL m N).all (fun p => okV (N + 1) p.2) = true := by
  show (decide (0 < N + 1) && (decide (2 < N + 1) && (decide (3 < N + 1) && (decide (m < N + 1) && (decide (N < N + 1) && true))))) = true
  rw [decide_eq_true (show 0 < N + 1 by omega), decide_eq_true (show 2 < N + 1 by omega), decide_eq_true (show 3 < N + 1 by omega), decide_eq_true (show m < N + 1 by omega), decide_eq_true (show N < N + 1 by omega)]; rfl
theorem fil_snoc {f : Nat} {L : List E5} {k : Nat} {q : E5} (h : L[k]? = some q) : fil f (L.take (k + 1)) = fil f (L.take k) ++ (if q.2 = f then [q] else []) := by
  rw [List.take_add_one, h, Option.toList_some, fil_app]
  congr 1
  by_cases hq : q.2 = f
  · rw [if_pos hq, fil_hit hq]; rfl
  · rw [if_neg hq, fil_miss hq]; rfl

theorem inner_ok {g : List AObj} {L A : List E5} {f m : Nat} (hw : wf g = true) (hL : ok5 L) (hA : A.length ≤ 400) (hf : f < 10) (h0 : g[0]? = some (.lst (L.map pr5))) (h3 : 3 < g.length) (hm : m < g.length) (hk : Kn ((x_figure, .dat (.str (strI (f : Int)))) :: KL m g.length) l)
    (hR : ∀ l, Kn (KL m g.length) l → R .next ⟨l, g ++ [.lst ((A ++ fil f L).map pr5)]⟩) : Ok (forV (setLoc x_pair) (law05_b2 Q) (.obj 0)) ⟨l, g ++ [.lst (A.map pr5)]⟩ R := by
  have n' : (g.set 0 (.frz (L.map pr5))).length = g.length := List.length_set
  have w' : wf (g.set 0 (.frz (L.map pr5))) = true := wf_set hw rfl
  refine o_forObj (ds := L.map pr5) (app_left h0) ?_
  rw [set_left h0]
  refine o_forK (x := x_pair) L pr5 (fun k l h => h = g.set 0 (.frz (L.map pr5)) ++ [.lst ((A ++ fil f (L.take k)).map pr5)] ∧ Kn ((x_figure, .dat (.str (strI (f : Int)))) :: KL m g.length) l) ⟨by rw [List.take_zero]; show _ = _ ++ [AObj.lst ((A ++ []).map pr5)]; rw [List.append_nil], hk⟩ ?_ ?_
  · rintro k q l h hkq ⟨rfl, hk⟩ l' hl'
    have hk := hl' _ hk
    have hq10 := hL.2 q (List.mem_of_getElem? hkq)
    have i1 : itemD (pr5 q) (.int 1) = some (.str (strI (q.2 : Int))) := rfl
    have c1 := eq_fig hq10 hf
    have gl := last_get (hp := g.set 0 (.frz (L.map pr5))) (o := .lst ((A ++ fil f (L.take k)).map pr5))
    rw [n'] at gl
    have hb : ((A ++ fil f (L.take k)).map pr5).length ≤ big := by
      rw [List.length_map, List.length_append]
      have h1 : (fil f (L.take k)).length ≤ (L.take k).length := List.length_filter_le _ _
      have h2 := List.length_take_le k L
      have h3 := hL.1
      rw [List.length_take] at h1
      unfold big; omega
    have fin : ∀ (l : Str → Option V) (B : List E5), B = fil f (L.take (k + 1)) → Kn ((x_figure, .dat (.str (strI (f : Int)))) :: KL m g.length) l →
        Cut (g.set 0 (.frz (L.map pr5)) ++ [AObj.lst ((A ++ fil f (L.take k)).map pr5)]).length (turnQ (fun s => (fun k l h => h = g.set 0 (.frz (L.map pr5)) ++ [AObj.lst ((A ++ fil f (L.take k)).map pr5)] ∧ Kn ((x_figure, .dat (.str (strI (f : Int)))) :: KL m g.length) l) (k + 1) s.loc s.heap) fun f s => R f ⟨s.loc, s.heap.set 0 (.lst (L.map pr5))⟩) .next ⟨l, g.set 0 (.frz (L.map pr5)) ++ [AObj.lst ((A ++ B).map pr5)]⟩ := by
      intro l B hB hk
      refine cut_ok' (by rw [last_len, last_len]) (wf_lst w') rfl ⟨by rw [hB], kn_cut ?_ hk⟩
      rw [last_len, n']
      exact okKL h3 hm
    unfold law05_b2
    refine o_if (q := decide (q.2 = f)) (σ1 := ⟨l', g.set 0 (.frz (L.map pr5)) ++ [.lst ((A ++ fil f (L.take k)).map pr5)]⟩) (by wtm_at "ev") ?_ ?_
    · intro hq
      have hq := of_decide_eq_true hq
      wtm_at "st"
      wtm_at "st"
      wtm_at "st"
      refine o_end ?_
      have e : (g.set 0 (.frz (L.map pr5)) ++ [AObj.lst ((A ++ fil f (L.take k)).map pr5)]).set g.length (.lst ((A ++ fil f (L.take k)).map pr5 ++ [pr5 q])) = g.set 0 (.frz (L.map pr5)) ++ [AObj.lst ((A ++ (fil f (L.take k) ++ [q])).map pr5)] := by
        rw [← n', last_set, ← List.append_assoc, List.map_append (l₁ := A ++ fil f (L.take k))]; rfl
      rw [e]
      exact fin _ _ (by rw [fil_snoc hkq, if_pos hq]) (by wtm_at "kn")
    · intro hq
      have hq := of_decide_eq_false hq
      wtm_at "st"
      exact o_end (fin _ _ (by rw [fil_snoc hkq, if_neg hq, List.append_nil]) (by wtm_at "kn"))
  · rintro l h ⟨rfl, hk⟩
    rw [List.take_length]
    have h0' : (g.set 0 (.frz (L.map pr5)))[0]? = some (.frz (L.map pr5)) := by rw [List.getElem?_set_self (by omega)]
    show R .next ⟨l, (g.set 0 (.frz (L.map pr5)) ++ [AObj.lst ((A ++ fil f L).map pr5)]).set 0 (.lst (L.map pr5))⟩
    rw [set_left h0', set_back h0]
    exact hR l (by wtm_at "kn")

theorem byF_len (L : List E5) : ∀ n, (byF n L).length ≤ n * L.length
  | 0 => by rw [Nat.zero_mul]; exact Nat.le_refl _
  | n + 1 => by
    rw [byF_succ, List.length_append, Nat.succ_mul]
    exact Nat.add_le_add (byF_len L n) (List.length_filter_le _ _)
theorem law05_ok (hit : MItemsO Q) (hlen : MLen Q) (hadd : MAdd Q) (hmk0 : MMake0 Q) (hmk1 : MMake1 Q) (hf : Q.fuel = 1000) (hord : MOrd Q 5) {is : List Int} (hl : is.length ≤ 63) (hk : Kn [(x_script, .dat (.list (is.map .int)))] l) : Ok (law05 Q) ⟨l, []⟩ fun f _ => f = .ret (.dat (.bool true)) := by
  have u0 : cutD none (some 32) (.list (is.map .int)) = some (.list ((is.take 32).map .int)) := by
    show (if (is.map PyData.int).length ≤ big then some (PyData.list (((is.map PyData.int).take (clampI 32 (is.map PyData.int).length)).drop 0)) else none) = _
    rw [List.length_map, if_pos (by unfold big; omega), List.map_take]
    congr 2
    show List.drop 0 ((is.map PyData.int).take (min 32 is.length)) = _
    rw [List.drop_zero]
    by_cases h : is.length ≤ 32
    · rw [List.take_of_length_le (by rw [List.length_map]; omega), List.take_of_length_le (by rw [List.length_map]; omega)]
    · rw [show min 32 is.length = 32 by omega]
  generalize hxs : is.take 32 = xs at u0
  have hx32 : xs.length ≤ 32 := by rw [← hxs, List.length_take]; omega
  unfold law05
  wtm_at "st"
  apply o_for
  · wtm_at "ev"
  refine o_forDat rfl (o_forK (hp := [.lst (([] : List E5).map pr5)]) xs PyData.int (fun k l h => h = [.lst ((((xs.take k).map g5)).map pr5)] ∧ Kn [(x_pairs, .obj 0)] l) ⟨rfl, by wtm_at "kn"⟩ ?_ ?_)
  · rintro k n l h hkn ⟨rfl, hk⟩ l' hl'
    have hk := hl' _ hk
    obtain ⟨a1, a2⟩ := abAB n
    obtain ⟨a3, a4⟩ := fig5 n
    have n1 : (n.fmod 10).natAbs < 10 ^ 100 := by rw [a3]; exact small100 (by omega)
    have hb : (((xs.take k).map g5).map pr5).length ≤ big := by rw [List.length_map, List.length_map, List.length_take]; unfold big; omega
    unfold law05_b1
    wtm_at "st"
    refine o_end (cut_ok' rfl rfl rfl ⟨?_, kn_cut rfl (by wtm_at "kn")⟩)
    show [AObj.lst (((xs.take k).map g5).map pr5 ++ [.tuple [.str (ch (g5 n).1), .str (strI (n.fmod 10))]])] = _
    rw [List.take_add_one, hkn, List.map_append, List.map_append, a3]; rfl
  · rintro l h ⟨rfl, hk⟩
    rw [List.take_length]
    show Ok (law05_r5 Q) _ _
    generalize hLL : xs.map g5 = L
    have hL : ok5 L := by
      rw [← hLL]
      refine ⟨by rw [List.length_map]; exact hx32, fun q hq => ?_⟩
      obtain ⟨n, _, rfl⟩ := List.mem_map.mp hq
      exact (fig5 n).2
    have hb : (L.map pr5).length ≤ big := by rw [List.length_map]; exact Nat.le_trans hL.1 (by decide)
    have mk : Run (mkM Q [ownListM (nameS x_pairs)]) ⟨l, [.lst (L.map pr5)]⟩ (.obj 2) ⟨l, [.lst (L.map pr5)] ++ [.lst ((L.map ent5).map pr), .inst (some 1)]⟩ := (mk_part (l := l) hmk1 (h := [.lst (L.map pr5)]) (A := L) rfl hL (by rw [map5]; wtm_at "ev")).1
    unfold law05_r5
    wtm_at "st"
    wtm_at "st"
    have hk : Kn [(x_faults, .obj 3), (x_table, .obj 2), (x_pairs, .obj 0)] l := hk
    have tt : Tb ([.lst (L.map pr5)] ++ [.lst ((L.map ent5).map pr), .inst (some 1)] ++ [.lst []]) 2 1 (L.map ent5) := ⟨rfl, rfl, rfl, hL.tiny⟩
    obtain ⟨m, k, ext, run, tm⟩ := hord (l := l) (fi := 3) hL (Nat.le_trans hL.1 (by decide)) tt rfl
    wtm_at "st"
    generalize hg : [AObj.lst (L.map pr5)] ++ [AObj.lst ((L.map ent5).map pr), AObj.inst (some 1)] ++ [AObj.lst []] ++ ext = g at run tm
    have q0 : g[0]? = some (.lst (L.map pr5)) := by rw [← hg]; rfl
    have q3 : g[3]? = some (.lst []) := by rw [← hg]; rfl
    have tg : Tb g 2 1 (L.map ent5) := ⟨by rw [← hg]; rfl, by rw [← hg]; rfl, tm.wf, hL.tiny⟩
    have l3 : 3 < g.length := (List.getElem?_eq_some_iff.mp q3).1
    have lm : m < g.length := (List.getElem?_eq_some_iff.mp tm.i).1
    wtm_at "st"
    apply o_for
    · wtm_at "ev"
    refine o_forDat figs_all (o_forK (List.range 10) (fun f : Nat => .str (strI (f : Int))) (fun k l h => h = g ++ [.lst ((byF k L).map pr5)] ∧ Kn (KL m g.length) l) ⟨rfl, by wtm_at "kn"⟩ ?_ ?_)
    · rintro k f l h hkf ⟨rfl, hk⟩ l' hl'
      obtain ⟨hlt, rfl⟩ := List.getElem?_eq_some_iff.mp hkf
      rw [List.length_range] at hlt
      rw [List.getElem_range] at hl'
      have hk := hl' _ hk
      have hA : (byF k L).length ≤ 400 := by
        have h1 := byF_len L k
        have h2 := Nat.mul_le_mul (show k ≤ 10 by omega) hL.1
        omega
      unfold law05_b3
      apply o_for
      · wtm_at "ev"
      refine inner_ok tm.wf hL hA hlt q0 l3 lm hk fun l hk => ?_
      rw [← byF_succ]
      exact o_end (cut_ok' (by rw [last_len, last_len]) (wf_lst tm.wf) rfl ⟨rfl, kn_cut (by rw [last_len]; exact okKL l3 lm) hk⟩)
    · rintro l h ⟨rfl, hk⟩
      show Ok (law05_r4 Q) _ _
      rw [List.length_range, ← ms_byF (d := 5) (Nat.le_trans hL.1 (by decide)) hL.2]
      generalize hR : ms 5 L = M at tm
      have tm1 : Tb (g ++ [.lst (M.map pr5)]) m k (M.map ent5) := tm.app (wf_lst tm.wf)
      have i1 := tm1.i
      have r1 := last_left (o := .lst ((M.map ent5).map pr)) (last_get (hp := g) (o := .lst (M.map pr5)))
      have r2 := last_get (hp := g ++ [.lst (M.map pr5)]) (o := .lst ((M.map ent5).map pr))
      have w2 : wf (g ++ [.lst (M.map pr5)] ++ [.lst ((M.map ent5).map pr)]) = true := wf_lst (wf_lst tm.wf)
      have tg2 : Tb (g ++ [.lst (M.map pr5)] ++ [.lst ((M.map ent5).map pr)]) 2 1 (L.map ent5) := by rw [List.append_assoc] at w2 ⊢; exact tg.app w2
      have i2 := tg2.i
      have r3 := last_left (o := .lst ((L.map ent5).map pr)) (last_left (o := .lst ((M.map ent5).map pr)) (last_left (o := .lst (M.map pr5)) q0))
      have r4 := last_get (hp := g ++ [.lst (M.map pr5)] ++ [.lst ((M.map ent5).map pr)]) (o := .lst ((L.map ent5).map pr))
      have r5 := last_left (o := .lst ((L.map ent5).map pr)) (last_left (o := .lst ((M.map ent5).map pr)) (last_left (o := .lst (M.map pr5)) q3))
      have c1 : cmpD .Eq (.list ((M.map ent5).map pr)) (.list (M.map pr5)) = some true := by rw [← map5, cEqPr, decide_eq_true rfl]
      have c2 : cmpD .Eq (.list ((L.map ent5).map pr)) (.list (L.map pr5)) = some true := by rw [← map5, cEqPr, decide_eq_true rfl]
      unfold law05_r4
      refine o_ret (v := .dat (.bool true)) (σ1 := ⟨l, g ++ [.lst (M.map pr5)] ++ [.lst ((M.map ent5).map pr)] ++ [.lst ((L.map ent5).map pr)]⟩) (r_andG (σ1 := ⟨l, g ++ [.lst (M.map pr5)] ++ [.lst ((M.map ent5).map pr)]⟩) (by wtm_at "ev") (r_andG (σ1 := ⟨l, g ++ [.lst (M.map pr5)] ++ [.lst ((M.map ent5).map pr)] ++ [.lst ((L.map ent5).map pr)]⟩) (by wtm_at "ev") ?_)) rfl
      show Run (cmpM Q .Eq (nameS x_faults) (lstM Q [])) _ _ _
      wtm_at "ev"

section
variable {T : Tab}
theorem ord_step {k : Nat} {hp : List AObj} {i fi : Nat} {l : Str → Option V} (hT : IsDenF T x__law_ordered [x_table, x_faults] law05_ordered) {m : Nat} {s : St} (h : (law05_ordered (prm T k)) ⟨bindP [x_table, x_faults] [.obj i, .obj fi], hp⟩ = some (.ret (.obj m), s)) (hv : okV hp.length (.obj m) = false) :
    Run ((prm T (k + 1)).fn x__law_ordered [.obj i, .obj fi]) ⟨l, hp⟩ (.obj m) ⟨l, s.heap⟩ := by
  obtain ⟨f, hT⟩ := hT
  show _ = _
  rw [fn_run hT]
  unfold runI
  have hf : fill ⟨f, [x_table, x_faults], [], law05_ordered⟩ [V.obj i, V.obj fi] = [.obj i, .obj fi] := rfl
  rw [hf]
  exact callB_new (l := l) rfl h hv
theorem ord_all (hT : IsDenF T x__law_ordered [x_table, x_faults] law05_ordered) (hit : ∀ k, MItemsO (prm T (k + 3))) (hlen : ∀ k, MLen (prm T (k + 3))) (hadd : ∀ k, MAdd (prm T (k + 3))) (hmk0 : ∀ k, MMake0 (prm T (k + 3))) (hmk1 : ∀ k, MMake1 (prm T (k + 3))) (hf : ∀ k, (prm T k).fuel = 1000) : ∀ d k : Nat, MOrd (prm T (d + k + 4)) d := by
  have small : ∀ {k : Nat} {hp : List AObj} {i n fi : Nat} {L : List E5} {l : Str → Option V}, L.length < 2 → Tb hp i n (L.map ent5) → Run ((prm T (k + 4)).fn x__law_ordered [.obj i, .obj fi]) ⟨l, hp⟩ (.obj i) ⟨l, hp ++ []⟩ := by
    intro k hp i n fi L l hL t
    rw [List.append_nil]
    exact fn_cut (k := k + 3) hT rfl fun l' hk => (ord_small (fi := fi) (hit k) hL t hk).mono fun f s q => ⟨by rw [q.1]; rfl, okV_lt (List.getElem?_eq_some_iff.mp t.i).1, q.2, t.wf⟩
  intro d
  induction d with
  | zero =>
    intro k hp i n fi L l hL hd t hfi
    refine ⟨i, n, [], ?_, by rw [List.append_nil]; exact t⟩
    rw [Nat.zero_add]
    exact small (by omega) t
  | succ d ih =>
    intro k hp i n fi L l hL hd t hfi
    by_cases h2 : L.length < 2
    · refine ⟨i, n, [], ?_, by rw [List.append_nil, ms, if_pos h2]; exact t⟩
      rw [show d + 1 + k + 4 = (d + 1 + k) + 4 from rfl]
      exact small h2 t
    · have e : d + 1 + k + 4 = (d + k + 4) + 1 := by omega
      rw [e]
      obtain ⟨f, s, es, m, kk, ext, rfl, hm, hs, tt⟩ := ord_big (Q := prm T (d + k + 4)) (hit (d + k + 1)) (hlen (d + k + 1)) (hadd (d + k + 1)) (hmk0 (d + k + 1)) (hmk1 (d + k + 1)) (hf _) (ih k) hL h2 hd t hfi (kn_par (ps := [x_table, x_faults]) (vs := [.obj i, .obj fi]))
      have hr := ord_step (l := l) hT es (decide_eq_false (Nat.not_lt.mpr hm))
      rw [hs] at hr
      exact ⟨m, kk, ext, hr, tt⟩
end
end
end Mine
end

section
open PySem
set_option Elab.async false
set_option maxRecDepth 10000
namespace Mine.L05
theorem w_ordered : MOrd (prm T 20) 5 := ord_all (T := T) ⟨_, rfl⟩ (fun k => tb_itemsO (k := k + 2) ⟨_, rfl⟩) (fun k => tb_len (k := k + 2) ⟨_, rfl⟩) (fun k => tb_add (k := k + 1) ⟨_, rfl⟩) (fun k => tb_make0 (k := k + 2) rfl) (fun k => tb_make1 (k := k + 1) rfl) (fun k => by cases k <;> rfl) 5 11
end Mine.L05
end

section
open PySem PySem.W PyProof.Rows
set_option Elab.async false
set_option maxRecDepth 100000
set_option maxHeartbeats 8000000
namespace Mine.L05
theorem link {w : World} {s₁ : Shared} {mg mb : Str → Option Value} {prog : Program} {name : Str} {fa a : Addr} {cd : Value} {h₁ : Heap} {is : List Int} {vs : List Value} {sc : Scope} {body : List Stmt} {c : ClaimW} {cl : Str → Option Addr} {mean : ExcName → Option Value} {args : List WData} {tk : Nat} {E : Value → Shared → Prop}
    {ds : List DefItem} {cs : List (Str × PyData)} {os : List (Str × (Obj → Prop))} {ns : List Str}
    (hK : (KK w.params).In s₁.heap) (GL : Glob 0 mg mb ds cs os ns s₁.heap) (F : Fr s₁.heap s₁.heap.objs.size h₁ fun x => List.lookup x [(Str.ofString "script", Value.ref a)].reverse)
    (hl : s₁.heap.IsList a vs.toArray) (hI : IntsAre vs is) (hg : s₁.gens = #[]) (hlen : ¬ ((63 : Nat) : Int) < (is.length : Int)) (hn : ∀ cls, c.raises args cls = false) (hp : c.post args (.bool true) args = true)
    (hk : sc.kind = .function) (hsc : sc.names.lookup (Str.ofString "script") = some .local) (hcl : ((cellsFrom 0 sc.names []).map (·.1)) = []) (e1 : (fdOf (KK w.params) 202).scope = sc) (e2 : bodyOf (fdOf (KK w.params) 202) = body) :
    wpAny (model prog w) (callerA.deeper (envOf name sc s₁.heap.objs.size fa cd)) (execs body (envOf name sc s₁.heap.objs.size fa cd)) (fun f s' => GoodW c cl mean args s₁ (.ok (.ret (match f with | .ret v => v | _ => .none))) s') E
      { heap := h₁, gens := s₁.gens, drawn := s₁.drawn, toks := tk, os := s₁.os } := by
  subst e1 e2
  have ok : CxOk (mkX prog w s₁.heap mg mb) := cxok hK GL.g GL.b GL.builtins GL.nolimit
  exact link_of (X := mkX prog w s₁.heap mg mb) rfl ok (tabok hK GL.g ok) F hl hI hg hn hp hk hsc hcl (fun n P pok => d_fnlaw _ ok pok) (law05_ok h_itemsO h_len h_add h_make0 h_make1 rfl w_ordered (by omega) (kn_scr))
end Mine.L05
end

end

open PySem PySem.W PyProof.Rows
set_option maxRecDepth 100000 in
set_option maxHeartbeats 8000000 in
theorem PySem.Challenge.cw_dn0264_05_holds : PySem.Challenge.rw_dn0264_05.Holds := by
  refine Mine.hd ?_
  w_strict (
    k_fill
    intro w s₀ s₁ mg mb G Y fa o pm cd doc dV kV ho hd hcd hD hmg hg args vals as hpre hlay hrd hwl hlo
    have KX := kIn_of Y
    have X := (Ground.X G).1
    have V := (Ground.X G).2
    have GL := glob_more (Ground.glob G (by decide +kernel) (by decide +kernel)) V
    refine Ground.open G ?_
    intro T B D TE TW
    try (refine guard_noD D (by decide +kernel) ?_; clear D)
    obtain ⟨_, _, M⟩ := bmod_of_top T
    have TA := at_of_top T
    clear hmg
    wrow_args hpre hlay hrd hwl hlo
    all_goals (
      first | refine callC_kw (enter_call ?_) | refine enter_call ?_
      w_top on
      try refine codeAny_mono ?_ (fun _ _ g => GoodW.toG g)
      have K0 := below_caller (Top.heap T)
      w_call any ho hd hcd hD T F
      clear hd TA
      k_drop
      skip)
    refine Mine.L05.link (by assumption) (by assumption) (by assumption) (by assumption) (by assumption) (by assumption) (by assumption) (fun _ => rfl) ?_ rfl rfl rfl ?_ ?_; (· kernel_rfl); (· kernel_rfl); (· kernel_rfl))
