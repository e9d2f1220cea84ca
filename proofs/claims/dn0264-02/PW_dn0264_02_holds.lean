import PyProof.Rows.All
import Wide.All
import OpenK.AllK
import Wide.FinOn
import KE.KIntText
import KE.KItemsList
import KE.KSortTup
import PySem.Challenge.RW_dn0264_02
set_option Elab.async false
set_option linter.all false

section
open PySem
set_option Elab.async false
namespace Mine

/-! The abstract semantics. -/

inductive V where
  | dat (d : PyData)
  | obj (i : Nat)
  | rng (lo hi : Int)
  | emp

inductive AObj where
  | lst (ds : List PyData)
  | frz (ds : List PyData)
  | inst (l : Option Nat)
  | dctS (kvs : List (Str × PyData))
  | dctI (kvs : List (Int × PyData))

structure St where
  loc : Str → Option V
  heap : List AObj

noncomputable def M (α : Type) : Type := St → Option (α × St)

noncomputable def mpure {α : Type} (a : α) : M α := fun σ => some (a, σ)
noncomputable def mbind {α β : Type} (m : M α) (f : α → M β) : M β := fun σ => match m σ with
  | none => none
  | some (a, σ') => f a σ'
noncomputable instance : Monad M where
  pure := mpure
  bind := mbind

noncomputable def mfail {α : Type} : M α := fun _ => none
noncomputable def mopt {α : Type} (o : Option α) : M α := fun σ => o.map (·, σ)
noncomputable def mguard (b : Bool) : M Unit := fun σ => if b then some ((), σ) else none

noncomputable def upd (l : Str → Option V) (x : Str) (v : V) : Str → Option V := fun y => if y = x then some v else l y

noncomputable def getLoc (x : Str) : M V := fun σ => (σ.loc x).map (·, σ)
noncomputable def setLoc (x : Str) (v : V) : M Unit := fun σ => some ((), ⟨upd σ.loc x v, σ.heap⟩)
noncomputable def setObj (i : Nat) (o : AObj) : M Unit := fun σ => if i < σ.heap.length then some ((), ⟨σ.loc, σ.heap.set i o⟩) else none
noncomputable def newObj (o : AObj) : M V := fun σ => some (.obj σ.heap.length, ⟨σ.loc, σ.heap ++ [o]⟩)

inductive Fl where
  | next | brk | cont
  | ret (v : V)

/-- an object's reading as data -/
noncomputable def readD : V → M PyData
  | .dat d => mpure d
  | .obj i => fun σ => match σ.heap[i]? with
    | some (.lst ds) => some (.list ds, σ)
    | some (.frz ds) => some (.list ds, σ)
    | _ => none
  | .rng _ _ => mfail
  | .emp => mfail

noncomputable def asDat : V → M PyData
  | .dat d => mpure d
  | _ => mfail

noncomputable def allDat : List V → Option (List PyData)
  | [] => some []
  | .dat d :: r => (allDat r).map (d :: ·)
  | _ :: _ => none

/-- printable signs -/
noncomputable def pc (c : Nat) : Bool := 32 ≤ c && c < 127
noncomputable def asc (x : Str) : Bool := x.cps.toList.all pc

noncomputable def lowC (c : Nat) : Nat := if 65 ≤ c && c ≤ 90 then c + 32 else c
noncomputable def upC (c : Nat) : Nat := if 97 ≤ c && c ≤ 122 then c - 32 else c
noncomputable def mapS (f : Nat → Nat) (x : Str) : Str := ⟨(x.cps.toList.map f).toArray⟩
noncomputable def low (x : Str) : Str := mapS lowC x
noncomputable def up (x : Str) : Str := mapS upC x
noncomputable def big : Nat := 1000000

noncomputable def truthD : PyData → Option Bool
  | .none => some false
  | .bool b => some b
  | .int i => some (i != 0)
  | .str x => if x.length ≤ big then some (x.length != 0) else none
  | .list ds => if ds.length ≤ big then some (ds.length != 0) else none
  | _ => none

noncomputable def truthS (v : V) : M Bool := do
  let d ← readD v
  mopt (truthD d)

noncomputable def addD : PyData → PyData → Option PyData
  | .int i, .int j => some (.int (i + j))
  | .str x, .str y => if x.length + y.length ≤ big then some (.str (x ++ y)) else none
  | _, _ => none
noncomputable def intD (f : Int → Int → Option Int) : PyData → PyData → Option PyData
  | .int i, .int j => (f i j).map .int
  | _, _ => none
noncomputable def mulI (i j : Int) : Option Int := if i.natAbs < 2 ^ 31 ∧ j.natAbs < 2 ^ 31 then some (i * j) else none
noncomputable def fdivI (i j : Int) : Option Int := if j ≠ 0 ∧ j.natAbs < 2 ^ 30 then some (i.fdiv j) else none
noncomputable def modI (i j : Int) : Option Int := if j ≠ 0 then some (i.fmod j) else none
noncomputable def binD (op : Operator) (a b : PyData) : Option PyData := match op with
  | .Add => addD a b
  | .Sub => intD (fun i j => some (i - j)) a b
  | .Mult => intD mulI a b
  | .FloorDiv => intD fdivI a b
  | .Mod => intD modI a b
  | _ => none

/-- what is a new list -/
noncomputable def binL : Operator → PyData → PyData → Option (List PyData)
  | .Add, .list xs, .list ys => if xs.length + ys.length ≤ big then some (xs ++ ys) else none
  | _, _, _ => none

noncomputable def binS (op : Operator) (a b : V) : M V := do
  let x ← readD a
  let y ← readD b
  match binD op x y with
  | some d => pure (.dat d)
  | none => do
    let ds ← mopt (binL op x y)
    pure (.dat (.list ds))

noncomputable def eqD (a b : PyData) : Option Bool := if min a.depth b.depth ≤ 50 then some (PyData.eqv a b) else none
noncomputable def neD (a b : PyData) : Option Bool := if min a.depth b.depth ≤ 50 then some (!PyData.eqv a b) else none
noncomputable def ltD : PyData → PyData → Option Bool
  | .int i, .int j => some (decide (i < j))
  | .str x, .str y => some (decide (x.cps.toList < y.cps.toList))
  | _, _ => none
noncomputable def leD : PyData → PyData → Option Bool
  | .int i, .int j => some (decide (i ≤ j))
  | .str x, .str y => some (!decide (y.cps.toList < x.cps.toList))
  | _, _ => none
noncomputable def gtD : PyData → PyData → Option Bool
  | .int i, .int j => some (decide (j < i))
  | .str x, .str y => some (decide (y.cps.toList < x.cps.toList))
  | _, _ => none
noncomputable def geD : PyData → PyData → Option Bool
  | .int i, .int j => some (decide (j ≤ i))
  | .str x, .str y => some (!decide (x.cps.toList < y.cps.toList))
  | _, _ => none
noncomputable def inStr (x y : Str) (f : Bool → Bool) : Option Bool := match x.cps.toList with
  | [c] => some (f (decide (c ∈ y.cps.toList)))
  | _ => none
noncomputable def inLst (a : PyData) (ds : List PyData) (f : Bool → Bool) : Option Bool := if a.depth ≤ 50 then some (f (ds.any fun d => PyData.eqv d a)) else none
noncomputable def inD (f : Bool → Bool) : PyData → PyData → Option Bool
  | .str x, .str y => inStr x y f
  | a, .list ds => inLst a ds f
  | _, _ => none
noncomputable def noneD : PyData → Bool
  | .none => true
  | _ => false
noncomputable def isD (f : Bool → Bool) (a : PyData) : PyData → Option Bool
  | .none => some (f (noneD a))
  | _ => none
noncomputable def cmpD (op : CmpOp) (a b : PyData) : Option Bool := match op with
  | .Eq => eqD a b
  | .NotEq => neD a b
  | .Lt => ltD a b
  | .LtE => leD a b
  | .Gt => gtD a b
  | .GtE => geD a b
  | .In => inD id a b
  | .NotIn => inD not a b
  | .Is => isD id a b
  | .IsNot => isD not a b

/-! scopes -/
noncomputable def okV (n : Nat) : V → Bool
  | .obj i => decide (i < n)
  | _ => true
noncomputable def okO (n : Nat) : AObj → Bool
  | .inst (some l) => decide (l < n)
  | _ => true
noncomputable def cutM (n : Nat) (σ : St) : Option St :=
  if (σ.heap.take n).all (okO n) then some ⟨fun x => (σ.loc x).filter (okV n), σ.heap.take n⟩ else none
noncomputable def okF (n : Nat) : Fl → Bool
  | .ret v => okV n v
  | _ => true

noncomputable def scopeM (m : M Fl) : M Fl := fun σ => match m σ with
  | none => none
  | some (f, σ') => if okF σ.heap.length f then (cutM σ.heap.length σ').map (f, ·) else none

noncomputable def forS (bind : V → M Unit) (body : M Fl) : List V → M Fl
  | [] => mpure .next
  | v :: vs => fun σ => match scopeM (do bind v; body) σ with
    | none => none
    | some (.brk, σ') => some (.next, σ')
    | some (.ret r, σ') => some (.ret r, σ')
    | some (_, σ') => forS bind body vs σ'

noncomputable def vis (sc : Scope) (l : Str → Option V) : Str → Option V := fun x => if sc.names.lookup x = some .free then l x else none

noncomputable def allS : List (M Bool) → M Bool
  | [] => mpure true
  | t :: r => do
    let b ← t
    if b then allS r else mpure false

noncomputable def compGo (bind : V → M Unit) (tests : List (M Bool)) (elt : M V) : List V → M (List PyData)
  | [] => mpure []
  | v :: vs => fun σ => match (do
        bind v
        let ok ← allS tests
        if ok then (do let x ← elt; let d ← asDat x; mpure (some d)) else mpure none : M (Option PyData)) σ with
    | none => none
    | some (r, σ') => match cutM σ.heap.length σ' with
      | none => none
      | some σ₁ => match compGo bind tests elt vs σ₁ with
        | none => none
        | some (ds, σ₂) => some (r.toList ++ ds, σ₂)

noncomputable def compS (sc : Scope) (bind : V → M Unit) (tests : List (M Bool)) (elt : M V) (items : List V) : M (List PyData) := fun σ =>
  match compGo bind tests elt items ⟨vis sc σ.loc, σ.heap⟩ with
  | none => none
  | some (ds, σ') => if ds.length ≤ big then some (ds, ⟨σ.loc, σ'.heap⟩) else none

noncomputable def bindP (ps : List Str) (vs : List V) : Str → Option V := fun x => (ps.zip vs).lookup x

noncomputable def retV : Fl → V
  | .ret v => v
  | _ => .dat .none

noncomputable def callB (ps : List Str) (body : M Fl) (vs : List V) : M V := fun σ =>
  if ps.length = vs.length then match body ⟨bindP ps vs, σ.heap⟩ with
    | none => none
    | some (f, σ') => match (if okV σ.heap.length (retV f) then cutM σ.heap.length σ' else none) with
      | some σ₁ => some (retV f, ⟨σ.loc, σ₁.heap⟩)
      | none => some (retV f, ⟨σ.loc, σ'.heap⟩)
  else none

/-- a loop over an object's list: it is frozen meanwhile -/
noncomputable def frozenG {α : Type} (i : Nat) (m : List PyData → M α) : M α := fun σ => match σ.heap[i]? with
  | some (.lst ds) => (match m ds ⟨σ.loc, σ.heap.set i (.frz ds)⟩ with
    | none => none
    | some (f, σ') => some (f, ⟨σ'.loc, σ'.heap.set i (.lst ds)⟩))
  | some (.frz ds) => m ds σ
  | _ => none

noncomputable def smallR (lo hi : Int) : Bool := decide (lo.natAbs ≤ 2 ^ 40 ∧ hi.natAbs ≤ 2 ^ 40 ∧ (hi - lo).toNat ≤ big)
noncomputable def chars (x : Str) : List PyData := x.cps.toList.map fun c => .str ⟨#[c]⟩
noncomputable def intsD (lo hi : Int) : List PyData := (List.range (hi - lo).toNat).map fun (k : Nat) => .int (lo + (k : Int))

/-- what a loop takes from data -/
noncomputable def itemsD : PyData → Option (List PyData)
  | .list ds => some ds
  | .tuple ds => some ds
  | .str x => some (chars x)
  | _ => none

noncomputable def walkV {α : Type} (m : List V → M α) : V → M α
  | .dat d => match itemsD d with
    | some ds => m (ds.map .dat)
    | none => mfail
  | .rng lo hi => if smallR lo hi = true then m ((intsD lo hi).map .dat) else mfail
  | .emp => mfail
  | .obj i => frozenG i fun ds => m (ds.map .dat)

noncomputable def forV (bind : V → M Unit) (body : M Fl) : V → M Fl := walkV (forS bind body)
noncomputable def compV (sc : Scope) (bind : V → M Unit) (tests : List (M Bool)) (elt : M V) : V → M (List PyData) := walkV (compS sc bind tests elt)

/-! calls -/
structure Prm where
  fn : Str → List V → M V
  mt : Str → V → List V → List (Str × V) → M V
  make : List V → M V
  fuel : Nat

noncomputable def constS : Const → M V
  | .none => mpure (.dat .none)
  | .bool b => mpure (.dat (.bool b))
  | .int i => mpure (.dat (.int i))
  | .str x => if asc x then mpure (.dat (.str x)) else mfail
  | _ => mfail

noncomputable def dbg : Str := Str.ofString "__debug__"
noncomputable def nameS (x : Str) : M V := if x = dbg then mpure (.dat (.bool true)) else getLoc x

noncomputable def seqS : List (M V) → M (List V)
  | [] => mpure []
  | m :: r => do
    let v ← m
    let vs ← seqS r
    mpure (v :: vs)

noncomputable def isInst (v : V) (σ : St) : Bool := match v with
  | .obj i => (match σ.heap[i]? with | some (.inst _) => true | _ => false)
  | _ => false

noncomputable def cmpS (P : Prm) (op : CmpOp) (a b : V) : M V := fun σ =>
  if isInst b σ then (match op with
    | .In => (do
        let r ← P.mt (Str.ofString "__contains__") b [a] []
        let t ← truthS r
        mpure (.dat (.bool t)) : M V) σ
    | _ => none)
  else (do
    let x ← readD a
    let y ← readD b
    let r ← mopt (cmpD op x y)
    mpure (.dat (.bool r)) : M V) σ

noncomputable def itemD : PyData → PyData → Option PyData
  | .str x, .int i => ((seqIndex? i x.length).bind (x.cps[·]?)).map fun c => .str ⟨#[c]⟩
  | .list ds, .int i => (seqIndex? i ds.length).bind (ds[·]?)
  | .tuple ds, .int i => (seqIndex? i ds.length).bind (ds[·]?)
  | _, _ => none

noncomputable def smallI : PyData → Bool
  | .int i => decide (-(2 ^ 40) ≤ i ∧ i ≤ 2 ^ 40)
  | _ => false

noncomputable def itemS (P : Prm) (o i : V) : M V := fun σ =>
  if isInst o σ then P.mt (Str.ofString "__getitem__") o [i] [] σ
  else (do
    let x ← readD o
    let y ← asDat i
    mguard (smallI y)
    let d ← mopt (itemD x y)
    mpure (.dat d) : M V) σ


/-- a text's method without arguments -/
noncomputable def strF (f : Str → Str) : V → M V
  | .dat (.str x) => if x.length ≤ big then mpure (.dat (.str (f x))) else mfail
  | _ => mfail

noncomputable def isLst (v : V) (σ : St) : Bool := match v with
  | .obj i => (match σ.heap[i]? with | some (.lst _) => true | _ => false)
  | _ => false
noncomputable def lstG (v : V) : M Unit := fun σ => if isLst v σ then some ((), σ) else none
noncomputable def instG (v : V) : M Unit := fun σ => if isInst v σ then some ((), σ) else none

/-- a list's method: the answer and the list behind it -/
noncomputable def lstF (F : List PyData → List V → Option (PyData × List PyData)) (v : V) (vs : List V) : M V := fun σ => match v with
  | .obj i => (match σ.heap[i]? with
    | some (.lst ds) => if ds.length ≤ big then (F ds vs).map fun r => (.dat r.1, ⟨σ.loc, σ.heap.set i (.lst r.2)⟩) else none
    | _ => none)
  | _ => none
noncomputable def appF (ds : List PyData) : List V → Option (PyData × List PyData)
  | [.dat d] => some (.none, ds ++ [d])
  | _ => none
noncomputable def lenD : PyData → Option Nat
  | .str x => some x.length
  | .list ds => some ds.length
  | .tuple ds => some ds.length
  | _ => none

noncomputable def lenS (P : Prm) (v : V) : M V := fun σ =>
  if isInst v σ then (do
    let r ← P.mt (Str.ofString "__len__") v [] []
    match r with
    | .dat (.int n) => if 0 ≤ n ∧ n ≤ big then mpure (.dat (.int n)) else mfail
    | _ => mfail : M V) σ
  else (do
    let d ← readD v
    let n ← mopt (lenD d)
    mguard (decide (n ≤ big))
    mpure (.dat (.int n)) : M V) σ

noncomputable def strI (i : Int) : Str := Str.ofString (toString i)

/-- built-in functions -/
noncomputable def lenB (P : Prm) : List V → M V
  | [v] => lenS P v
  | _ => mfail
noncomputable def strB : List V → M V
  | [.dat (.int i)] => if i.natAbs < 10 ^ 100 then mpure (.dat (.str (strI i))) else mfail
  | _ => mfail
noncomputable def rangeB : List V → M V
  | [.dat (.int n)] => if n.natAbs < 2 ^ 40 then mpure (.rng 0 n) else mfail
  | [.dat (.int m), .dat (.int n)] => if m.natAbs < 2 ^ 40 ∧ n.natAbs < 2 ^ 40 then mpure (.rng m n) else mfail
  | _ => mfail

noncomputable def typeN : V → M Str
  | .dat (.str _) => mpure (Str.ofString "str")
  | .dat (.list _) => mpure (Str.ofString "list")
  | .dat (.int _) => mpure (Str.ofString "int")
  | .dat .none => mpure (Str.ofString "NoneType")
  | .obj i => fun σ => match σ.heap[i]? with
    | some (.lst _) => some (Str.ofString "list", σ)
    | some (.frz _) => some (Str.ofString "list", σ)
    | _ => none
  | _ => mfail

noncomputable def listS (_ : Prm) (ms : List (M V)) : M (List PyData) := do
  let vs ← seqS ms
  let ds ← mopt (allDat vs)
  mguard (decide (ds.length ≤ big))
  mpure ds

noncomputable def kwS : List (Str × M V) → M (List (Str × V))
  | [] => mpure []
  | (n, m) :: r => do
    let v ← m
    let vs ← kwS r
    mpure ((n, v) :: vs)

noncomputable def attrS (o : V) (name : Str) : M V := fun σ => match o with
  | .obj i => (match σ.heap[i]? with
    | some (.inst (some l)) => if name = Str.ofString "_headers" then some (.obj l, σ) else none
    | _ => none)
  | _ => none

noncomputable def setAttrS (o : V) (name : Str) (v : V) : M Unit := fun σ => match o, v with
  | .obj i, .obj l => (match σ.heap[i]?, σ.heap[l]? with
    | some (.inst none), some (.lst _) => if name = Str.ofString "_headers" then some ((), ⟨σ.loc, σ.heap.set i (.inst (some l))⟩) else none
    | _, _ => none)
  | _, _ => none

end Mine
end

section
open PySem
set_option Elab.async false
namespace Mine

structure Cx where
  prog : Program
  w : World
  base : Heap
  C : Addr
  K : W.Frag
  mg : Str → Option Value
  mb : Str → Option Value

mutual
noncomputable def DR (h : Heap) (ok : Addr → Prop) : PyData → Value → Prop
  | .none, v => v = .none
  | .bool b, v => v = .bool b
  | .int i, v => ∃ t, v = .int i t
  | .str x, v => asc x = true ∧ ∃ t, v = .str x t
  | .list xs, v => ∃ a o vs n, v = .ref a ∧ ok a ∧ h.get? a = some o ∧ o.cls = .type "list" ∧ o.data = .seq vs n ∧ DRs h ok xs vs.toList
  | .tuple xs, v => ∃ a o vs n, v = .ref a ∧ ok a ∧ h.get? a = some o ∧ o.cls = .type "tuple" ∧ o.data = .seq vs n ∧ DRs h ok xs vs.toList
  | .dict _, _ => False
noncomputable def DRs (h : Heap) (ok : Addr → Prop) : List PyData → List Value → Prop
  | [], vs => vs = []
  | x :: xs, vs => ∃ v r, vs = v :: r ∧ DR h ok x v ∧ DRs h ok xs r
end

mutual
theorem DR.mono {h h' : Heap} {ok ok' : Addr → Prop} (k : ∀ a o, ok a → h.get? a = some o → h'.get? a = some o ∧ ok' a) :
    ∀ {d : PyData} {v : Value}, DR h ok d v → DR h' ok' d v
  | .none, _, e => by simp only [DR] at e ⊢; exact e
  | .bool _, _, e => by simp only [DR] at e ⊢; exact e
  | .int _, _, e => by simp only [DR] at e ⊢; exact e
  | .str _, _, e => by simp only [DR] at e ⊢; exact e
  | .list _, _, e => by
    simp only [DR] at e ⊢
    obtain ⟨a, o, vs, n, rfl, h1, h2, h3, h4, h5⟩ := e
    exact ⟨a, o, vs, n, rfl, (k a o h1 h2).2, (k a o h1 h2).1, h3, h4, DRs.mono k h5⟩
  | .tuple _, _, e => by
    simp only [DR] at e ⊢
    obtain ⟨a, o, vs, n, rfl, h1, h2, h3, h4, h5⟩ := e
    exact ⟨a, o, vs, n, rfl, (k a o h1 h2).2, (k a o h1 h2).1, h3, h4, DRs.mono k h5⟩
  | .dict _, _, e => by simp only [DR] at e
theorem DRs.mono {h h' : Heap} {ok ok' : Addr → Prop} (k : ∀ a o, ok a → h.get? a = some o → h'.get? a = some o ∧ ok' a) :
    ∀ {ds : List PyData} {vs : List Value}, DRs h ok ds vs → DRs h' ok' ds vs
  | [], _, e => by simp only [DRs] at e ⊢; exact e
  | _ :: _, _, e => by
    simp only [DRs] at e ⊢
    obtain ⟨v, r, rfl, h1, h2⟩ := e
    exact ⟨v, r, rfl, DR.mono k h1, DRs.mono k h2⟩
end

/-- the plain reading, for the library's rules -/
theorem strOk_of_asc {x : Str} (h : asc x = true) : PyData.strOk x = true := by
  unfold asc at h
  unfold PyData.strOk
  rw [← Array.all_toList]
  rw [List.all_eq_true] at h ⊢
  intro c hc
  have := h c hc
  unfold pc at this
  simp only [Bool.and_eq_true, decide_eq_true_eq] at this ⊢
  omega

mutual
theorem DR.reads {h : Heap} {ok : Addr → Prop} : ∀ {d : PyData} {v : Value}, DR h ok d v → (∃ as, Reads h v d as) ∧ d.canLay0 = true
  | .none, _, e => by simp only [DR] at e; subst e; exact ⟨⟨_, .none⟩, by simp [PyData.canLay0]⟩
  | .bool _, _, e => by simp only [DR] at e; subst e; exact ⟨⟨_, .bool _⟩, by simp [PyData.canLay0]⟩
  | .int _, _, e => by simp only [DR] at e; obtain ⟨t, rfl⟩ := e; exact ⟨⟨_, .int _ _⟩, by simp [PyData.canLay0]⟩
  | .str _, _, e => by simp only [DR] at e; obtain ⟨q, t, rfl⟩ := e; exact ⟨⟨_, .str _ _⟩, by simp only [PyData.canLay0]; exact strOk_of_asc q⟩
  | .list _, _, e => by
    simp only [DR] at e
    obtain ⟨a, o, vs, n, rfl, _, h2, h3, h4, h5⟩ := e
    obtain ⟨⟨as, r⟩, c⟩ := DRs.reads h5
    exact ⟨⟨_, .list h2 h3 h4 r⟩, by simp only [PyData.canLay0]; exact c⟩
  | .tuple _, _, e => by
    simp only [DR] at e
    obtain ⟨a, o, vs, n, rfl, _, h2, h3, h4, h5⟩ := e
    obtain ⟨⟨as, r⟩, c⟩ := DRs.reads h5
    exact ⟨⟨_, .tuple h2 h3 h4 r⟩, by simp only [PyData.canLay0]; exact c⟩
  | .dict _, _, e => by simp only [DR] at e
theorem DRs.reads {h : Heap} {ok : Addr → Prop} : ∀ {ds : List PyData} {vs : List Value}, DRs h ok ds vs → (∃ as, ReadsAll h vs ds as) ∧ PyData.canLayAll0 ds = true
  | [], _, e => by simp only [DRs] at e; subst e; exact ⟨⟨_, .nil⟩, by simp [PyData.canLayAll0]⟩
  | _ :: _, _, e => by
    simp only [DRs] at e
    obtain ⟨v, r, rfl, h1, h2⟩ := e
    obtain ⟨⟨as, r1⟩, c1⟩ := DR.reads h1
    obtain ⟨⟨bs, r2⟩, c2⟩ := DRs.reads h2
    exact ⟨⟨_, .cons r1 r2⟩, by simp only [PyData.canLayAll0, c1, c2, Bool.and_self]⟩
end

theorem DRs.length {h : Heap} {ok : Addr → Prop} : ∀ {ds : List PyData} {vs : List Value}, DRs h ok ds vs → vs.length = ds.length
  | [], _, e => by simp only [DRs] at e; subst e; rfl
  | _ :: _, _, e => by
    simp only [DRs] at e
    obtain ⟨v, r, rfl, _, h2⟩ := e
    simp only [List.length_cons, h2.length]

theorem DRs.append {h : Heap} {ok : Addr → Prop} : ∀ {ds es : List PyData} {vs ws : List Value}, DRs h ok ds vs → DRs h ok es ws → DRs h ok (ds ++ es) (vs ++ ws)
  | [], _, _, _, e, k => by simp only [DRs] at e; subst e; exact k
  | _ :: _, _, _, _, e, k => by
    simp only [DRs] at e
    obtain ⟨v, r, rfl, h1, h2⟩ := e
    simp only [List.cons_append, DRs]
    exact ⟨v, r ++ _, rfl, h1, h2.append k⟩

theorem DRs.one {h : Heap} {ok : Addr → Prop} {d : PyData} {v : Value} (e : DR h ok d v) : DRs h ok [d] [v] := by
  simp only [DRs]; exact ⟨v, [], rfl, e, rfl⟩

theorem DRs.get {h : Heap} {ok : Addr → Prop} : ∀ {ds : List PyData} {vs : List Value} {k : Nat} {d : PyData}, DRs h ok ds vs → ds[k]? = some d → ∃ v, vs[k]? = some v ∧ DR h ok d v
  | [], _, _, _, _, e => by simp at e
  | _ :: _, _, 0, _, e, q => by
    simp only [DRs] at e
    obtain ⟨v, r, rfl, h1, h2⟩ := e
    simp at q; subst q
    exact ⟨v, rfl, h1⟩
  | _ :: _, _, k + 1, _, e, q => by
    simp only [DRs] at e
    obtain ⟨v, r, rfl, h1, h2⟩ := e
    simp at q
    obtain ⟨u, hu, hd⟩ := h2.get q
    exact ⟨u, by simpa using hu, hd⟩

theorem DRs.getV {h : Heap} {ok : Addr → Prop} : ∀ {ds : List PyData} {vs : List Value} {k : Nat} {v : Value}, DRs h ok ds vs → vs[k]? = some v → ∃ d, ds[k]? = some d ∧ DR h ok d v := by
  intro ds vs k v e q
  have hl := e.length
  have hk : k < ds.length := by rw [← hl]; exact (List.getElem?_eq_some_iff.mp q).1
  obtain ⟨u, hu, hd⟩ := e.get (List.getElem?_eq_getElem hk)
  rw [q] at hu; cases hu
  exact ⟨_, List.getElem?_eq_getElem hk, hd⟩

/-! frames -/

noncomputable def own (env : Env) : List Addr := env.locals :: env.cells.map (·.2)
/-- what may be written: cells in a def alone -/
noncomputable def wrt (env : Env) : List Addr := env.locals :: (if env.func.isSome then env.cells.map (·.2) else [])
theorem wrt_own {env : Env} {a : Addr} (h : a ∈ wrt env) : a ∈ own env := by
  unfold wrt at h
  split at h
  · exact h
  · simp at h; subst h; exact .head _

structure FrameR (env : Env) (h : Heap) (m cm : Str → Option Value) : Prop where
  kind : env.scope.kind = .function
  globals : env.globals = mainGlobals
  builtins : env.builtins = builtinsNs
  ns : h.Ns env.locals m
  cell : ∀ n c, env.cells.lookup n = some c → h.IsCell c (cm n)
  cells : ∀ n c, (n, c) ∈ env.cells → ∃ v, h.IsCell c v
  apart : env.cells.Pairwise fun x y => x.2 ≠ y.2

noncomputable def valOf (env : Env) (m cm : Str → Option Value) (x : Str) : Option Value := match env.kindOf x with
  | some .local => m x
  | some .cell => if (env.cells.lookup x).isSome then cm x else none
  | _ => none

noncomputable abbrev Mu := List (Addr × List Addr)
noncomputable def root (μ : Mu) (i : Nat) : Option Addr := (μ[i]?).map (·.1)
noncomputable def foot (μ : Mu) : List Addr := μ.flatMap (·.2)

noncomputable def VR (h : Heap) (ok : Addr → Prop) (μ : Mu) : V → Value → Prop
  | .dat d, x => DR h ok d x
  | .obj i, x => ∃ a, root μ i = some a ∧ x = .ref a
  | .rng lo hi, x => ∃ r t u v, x = .ref r ∧ ok r ∧ IsRange h r lo hi 1 t u v
  | .emp, x => ∃ a n, x = .ref a ∧ 1 < a ∧ ok a ∧ h.get? a = some { cls := .type "dict", data := .dict #[] n }

noncomputable abbrev hdrKey : Str := Str.ofString "_headers"

noncomputable def instDict (P : Params) (t : Tok) (n : Nat) (al : Addr) : Obj := { cls := .type "dict", data := .dict #[⟨PyData.keyHash P hdrKey, .str hdrKey t, .ref al⟩] n }

noncomputable def DctR {K : Type} [DecidableEq K] {prog : Program} {w : World} (knd : KeyKind prog w K) (h : Heap) (ok : Addr → Prop) (kvs : List (K × PyData)) (a : Addr) (fp : List Addr) : Prop :=
  fp = [a] ∧ (a == sysModules) = false ∧ ∃ kws : List (K × Value), h.DictOf knd a kws ∧ kws.map (·.1) = kvs.map (·.1) ∧ DRs h ok (kvs.map (·.2)) (kws.map (·.2))

noncomputable def OR (X : Cx) (h : Heap) (ok : Addr → Prop) (μ : Mu) : AObj → Addr → List Addr → Prop
  | .lst ds, a, fp => ∃ vs n, fp = [a] ∧ h.get? a = some { cls := .type "list", data := .seq vs n } ∧ DRs h ok ds vs.toList
  | .frz ds, a, fp => ∃ vs n, fp = [] ∧ h.get? a = some { cls := .type "list", data := .seq vs n } ∧ DRs h ok ds vs.toList
  | .inst l, a, fp => ∃ d, fp = [a, d] ∧ h.get? a = some (W.instObj X.C d) ∧ match l with
    | none => h.get? d = some W.emptyDict
    | some k => ∃ al t n, root μ k = some al ∧ h.get? d = some (instDict X.w.params t n al)
  | .dctS kvs, a, fp => DctR (strKind X.prog X.w) h ok kvs a fp
  | .dctI kvs, a, fp => DctR (intKind X.prog X.w) h ok kvs a fp

noncomputable def okOf (ρ : List Addr) (μ : Mu) (a : Addr) : Prop := a ∉ ρ ∧ a ∉ foot μ

structure Rel (X : Cx) (ρ : List Addr) (μ : Mu) (env : Env) (σ : St) (h : Heap) : Prop where
  base : ∀ b o, X.base.get? b = some o → h.get? b = some o
  freshR : ∀ a ∈ ρ, X.base.get? a = none
  freshM : ∀ a ∈ foot μ, X.base.get? a = none
  liveR : ∀ a ∈ ρ, ∃ o, h.get? a = some o
  liveM : ∀ a ∈ foot μ, ∃ o, h.get? a = some o
  nod : (foot μ).Nodup
  dis : ∀ a ∈ ρ, a ∉ foot μ
  own : ∀ a ∈ own env, a ∈ ρ
  above : X.base.objs.size ≤ env.locals
  frame : ∃ m cm, FrameR env h m cm ∧ ∀ x v, σ.loc x = some v → ∃ val, valOf env m cm x = some val ∧ VR h (okOf ρ μ) μ v val
  len : μ.length = σ.heap.length
  inj : ∀ i j a, root μ i = some a → root μ j = some a → i = j
  objs : ∀ (i : Nat) o, σ.heap[i]? = some o → ∃ p, μ[i]? = some p ∧ OR X h (okOf ρ μ) μ o p.1 p.2
  frz : ∀ (i : Nat) ds, σ.heap[i]? = some (.frz ds) → ∀ a, root μ i = some a → a ∈ ρ

structure Step (ow : List Addr) (μ μ' : Mu) (s s' : Shared) : Prop where
  same : ∃ h tk, s' = { s with heap := h, toks := tk }
  keep : ∀ b o, s.heap.get? b = some o → b ∉ foot μ → b ∉ ow → s'.heap.get? b = some o
  live : ∀ b o, s.heap.get? b = some o → ∃ o', s'.heap.get? b = some o'
  pre : μ <+: μ'
  new : ∀ b ∈ foot μ', b ∈ foot μ ∨ s.heap.get? b = none

theorem foot_append (μ ν : Mu) : foot (μ ++ ν) = foot μ ++ foot ν := List.flatMap_append
theorem foot_prefix {μ μ' : Mu} (h : μ <+: μ') {a : Addr} (ha : a ∈ foot μ) : a ∈ foot μ' := by
  obtain ⟨r, rfl⟩ := h
  rw [foot_append]
  exact List.mem_append_left _ ha

theorem Step.refl (ow : List Addr) (μ : Mu) (s : Shared) : Step ow μ μ s s :=
  ⟨⟨s.heap, s.toks, rfl⟩, fun _ _ e _ _ => e, fun _ o e => ⟨o, e⟩, List.prefix_refl _, fun _ h => .inl h⟩

theorem Step.trans {ow : List Addr} {μ μ₁ μ₂ : Mu} {s s₁ s₂ : Shared} (a : Step ow μ μ₁ s s₁) (b : Step ow μ₁ μ₂ s₁ s₂) : Step ow μ μ₂ s s₂ := by
  obtain ⟨h1, t1, e1⟩ := a.same
  obtain ⟨h2, t2, e2⟩ := b.same
  refine ⟨⟨h2, t2, by rw [e2, e1]⟩, fun x o e hm ho => ?_, fun x o e => ?_, a.pre.trans b.pre, fun x hx => ?_⟩
  · refine b.keep x o (a.keep x o e hm ho) (fun hm' => ?_) ho
    rcases a.new x hm' with h | h
    · exact hm h
    · rw [e] at h; cases h
  · obtain ⟨o1, q⟩ := a.live x o e
    exact b.live x o1 q
  · rcases b.new x hx with h | h
    · exact a.new x h
    · right
      cases q : s.heap.get? x with
      | none => rfl
      | some o =>
        obtain ⟨o1, q1⟩ := a.live x o q
        rw [h] at q1; cases q1

theorem root_prefix {μ μ' : Mu} (h : μ <+: μ') {i : Nat} {a : Addr} (e : root μ i = some a) : root μ' i = some a := by
  unfold root at e ⊢
  obtain ⟨fp, h1, h2⟩ := Option.map_eq_some_iff.mp e
  obtain ⟨r, rfl⟩ := h
  rw [List.getElem?_append_left (List.getElem?_eq_some_iff.mp h1).1, h1]
  exact congrArg some h2

/-- what is not excluded stays what it is, and stays not excluded -/
theorem Step.ok {ow ρ : List Addr} {μ μ' : Mu} {s s' : Shared} (a : Step ow μ μ' s s') (how : ∀ x ∈ ow, x ∈ ρ) :
    ∀ b o, okOf ρ μ b → s.heap.get? b = some o → s'.heap.get? b = some o ∧ okOf ρ μ' b := fun b o k e =>
  ⟨a.keep b o e k.2 fun h => k.1 (how b h), k.1, fun h => by
    rcases a.new b h with h | h
    · exact k.2 h
    · rw [e] at h; cases h⟩

theorem VR.mono {h h' : Heap} {ok ok' : Addr → Prop} {μ μ' : Mu} (p : ∀ i a, root μ i = some a → root μ' i = some a) (k : ∀ a o, ok a → h.get? a = some o → h'.get? a = some o ∧ ok' a)
    {v : V} {x : Value} (e : VR h ok μ v x) : VR h' ok' μ' v x := by
  cases v with
  | dat d => exact DR.mono k e
  | obj i => obtain ⟨a, h1, h2⟩ := e; exact ⟨a, p _ _ h1, h2⟩
  | rng lo hi =>
    obtain ⟨r, t, u, v, h1, h2, h3⟩ := e
    exact ⟨r, t, u, v, h1, (k r _ h2 h3).2, (k r _ h2 h3).1⟩
  | emp =>
    obtain ⟨a, n, h1, h0, h2, h3⟩ := e
    exact ⟨a, n, h1, h0, (k a _ h2 h3).2, (k a _ h2 h3).1⟩

theorem VR.step {X : Cx} {ρ : List Addr} {μ μ' : Mu} {env : Env} {σ : St} {s s' : Shared} (R : Rel X ρ μ env σ s.heap) (a : Step (wrt env) μ μ' s s')
    {v : V} {x : Value} (e : VR s.heap (okOf ρ μ) μ v x) : VR s'.heap (okOf ρ μ') μ' v x := e.mono (fun _ _ => root_prefix a.pre) (a.ok fun x hx => R.own x (wrt_own hx))

end Mine
end

section
open PySem
set_option Elab.async false
namespace Mine
theorem all1 {P : Addr → Prop} {a : Addr} (h : P a) : ∀ b ∈ [a], P b := fun b hb => by rw [List.mem_singleton.mp hb]; exact h
theorem all3 {P : Addr → Prop} {a b c : Addr} (h : P a) (k : P b) (j : P c) : ∀ x ∈ [a, b, c], P x := fun x hx => by
  rcases List.mem_cons.mp hx with e | hx
  · rw [e]; exact h
  rcases List.mem_cons.mp hx with e | hx
  · rw [e]; exact k
  · exact all1 j x hx
theorem in3a {a b c : Addr} : a ∈ [a, b, c] := .head _
theorem in3b {a b c : Addr} : b ∈ [a, b, c] := .tail _ (.head _)
theorem in3c {a b c : Addr} : c ∈ [a, b, c] := .tail _ (.tail _ (.head _))
theorem up3a {a b c x : Addr} {ρ : List Addr} (h : x ∈ [a] ++ ρ) : x ∈ [a, b, c] ++ ρ := by
  rcases List.mem_append.mp h with h | h
  · exact List.mem_append_left _ (all1 in3a x h)
  · exact List.mem_append_right _ h
theorem off1 {a c : Addr} {ρ : List Addr} (h : a ≠ c) (k : a ∉ ρ) : a ∉ [c] ++ ρ := fun hm => by
  rcases List.mem_append.mp hm with hm | hm
  · exact h (List.mem_singleton.mp hm)
  · exact k hm
theorem perm3 {a b c x : Addr} {ρ : List Addr} : x ∈ [a, b, c] ++ ρ ↔ x ∈ [c] ++ ([b] ++ ([a] ++ ρ)) := by
  simp only [List.mem_append, List.mem_cons, List.not_mem_nil, or_false]
  constructor
  · rintro ((h | h | h) | h)
    · exact .inr (.inr (.inl h))
    · exact .inr (.inl h)
    · exact .inl h
    · exact .inr (.inr (.inr h))
  · rintro (h | h | h | h)
    · exact .inl (.inr (.inr h))
    · exact .inl (.inr (.inl h))
    · exact .inl (.inl h)
    · exact .inr h
theorem ne_of_mem {a b : Addr} (h : b ∉ [a]) : b ≠ a := fun e => h (e ▸ .head _)
theorem notMem1 {a b : Addr} (h : b ≠ a) : b ∉ [a] := fun e => h (List.mem_singleton.mp e)
theorem sameBut1 {a : Addr} {h h' : Heap} (hs : Heap.SameBut a h h') : ∀ b ob, b ∉ [a] → h.get? b = some ob → h'.get? b = some ob := fun b ob hb e => (hs.2 b (ne_of_mem hb)).trans e
theorem wrap {P : Prop} (h : ∀ G : Prop, (P → G) → G) : P := h P id

noncomputable abbrev RVt (α β : Type) := Heap → (Addr → Prop) → Mu → β → α → Prop

noncomputable def VRr : RVt Value V := fun h ok μ v x => VR h ok μ v x
noncomputable def EqR {α : Type} : RVt α α := fun _ _ _ b x => x = b

noncomputable def Post {α β : Type} (X : Cx) (ρ : List Addr) (μ : Mu) (env : Env) (s : Shared) (RV : RVt α β) (b : β) (σ' : St) : α → Shared → Prop :=
  fun x s' => ∃ μ', Step (wrt env) μ μ' s s' ∧ Rel X ρ μ' env σ' s'.heap ∧ RV s'.heap (okOf ρ μ') μ' b x

theorem post_elim {α β : Type} {X : Cx} {ρ : List Addr} {μ : Mu} {env : Env} {s : Shared} {RV : RVt α β} {b : β} {σ' : St} {x : α} {s' : Shared} {C : Prop} (z : Post X ρ μ env s RV b σ' x s') (k : ∀ μ', Step (wrt env) μ μ' s s' → Rel X ρ μ' env σ' s'.heap → RV s'.heap (okOf ρ μ') μ' b x → C) : C := by
  obtain ⟨a, h1, h2, h3⟩ := (z : ∃ μ', _)
  exact k a h1 h2 h3

noncomputable def W {α β : Type} (X : Cx) (A : Around) (ρ : List Addr) (μ : Mu) (env : Env) (s : Shared) (RV : RVt α β) (t : Sem α) (r : Option (β × St)) : Prop :=
  ∀ b σ', r = some (b, σ') → wpAny (model X.prog X.w) A t (Post X ρ μ env s RV b σ') (fun _ _ => False) s

structure Ga (n : Nat) (A : Around) : Prop where
  handled : A.handled = none
  depth : A.depth + 4 * n ≤ 900
  units : A.units + 40 * n ≤ 9000

theorem Ga.in1 {n : Nat} {A : Around} (h : Ga (n + 1) A) : Ga n A.in1 := ⟨h.handled, by have := h.depth; show A.depth + 4 * n ≤ 900; omega, by have := h.units; show A.units + 1 + 40 * n ≤ 9000; omega⟩
theorem Ga.deeper {n : Nat} {A : Around} {env : Env} (h : Ga (n + 1) A) : Ga n (A.deeper env) := ⟨h.handled, by have := h.depth; show A.depth + 1 + 4 * n ≤ 900; omega, by have := h.units; show A.units + 3 + 40 * n ≤ 9000; omega⟩
theorem Ga.less {n m : Nat} {A : Around} (h : Ga n A) (k : m ≤ n) : Ga m A := ⟨h.handled, by have := h.depth; omega, by have := h.units; omega⟩
theorem Ga.room {n : Nat} {A : Around} (h : Ga n A) : A.depth < recursionLimit := by have := h.depth; show A.depth < 1000; omega
theorem Ga.c {n : Nat} {A : Around} (h : Ga n A) : A.units + 100 < cLine := by have := h.units; show A.units + 100 < 9900; omega

section
variable {α β γ δ : Type} {X : Cx} {A : Around} {ρ : List Addr} {μ : Mu} {env : Env} {s : Shared} {σ : St}

theorem bind_eq {m : M β} {g : β → M δ} : (m >>= g) = mbind m g := rfl
theorem pure_eq {b : β} : (pure b : M β) = mpure b := rfl

theorem W_bind {RV₁ : RVt α β} {RV₂ : RVt γ δ} {t : Sem α} {f : α → Sem γ} {m : M β} {g : β → M δ} (h1 : W X A ρ μ env s RV₁ t (m σ))
    (h2 : ∀ μ' s' b σ' x, Step (wrt env) μ μ' s s' → Rel X ρ μ' env σ' s'.heap → RV₁ s'.heap (okOf ρ μ') μ' b x → W X A ρ μ' env s' RV₂ (f x) (g b σ')) :
    W X A ρ μ env s RV₂ (t >>= f) ((m >>= g) σ) := by
  intro d σ₂ e
  rw [bind_eq] at e
  unfold mbind at e
  cases q : m σ with
  | none => rw [q] at e; cases e
  | some p =>
    obtain ⟨b, σ₁⟩ := p
    rw [q] at e
    refine wpAny_bind (wpAny_mono (h1 b σ₁ q) (fun x s' z => ?_) fun _ _ z => z.elim)
    first | refine post_elim z fun μ' st R rv => ?_ | obtain ⟨μ', st, R, rv⟩ := z
    refine wpAny_mono (h2 μ' s' b σ₁ x st R rv d σ₂ e) (fun y s'' z => ?_) fun _ _ z => z
    first | refine post_elim z fun μ'' st' R' rv' => ?_ | obtain ⟨μ'', st', R', rv'⟩ := z
    exact ⟨μ'', st.trans st', R', rv'⟩

theorem W_pure {RV : RVt α β} {a : α} {b : β} (R : Rel X ρ μ env σ s.heap) (h : RV s.heap (okOf ρ μ) μ b a) : W X A ρ μ env s RV (pure a) ((pure b : M β) σ) := by
  intro b' σ' e
  rw [pure_eq] at e
  unfold mpure at e
  cases e
  exact wpAny_pure ⟨μ, .refl _ _ _, R, h⟩

theorem W_fail {RV : RVt α β} {t : Sem α} : W X A ρ μ env s RV t none := fun _ _ e => nomatch e

theorem W_conc {RV : RVt α β} {t t' : Sem α} {r : Option (β × St)} (h : W X A ρ μ env s RV t' r)
    (k : ∀ Q, wpAny (model X.prog X.w) A t' Q (fun _ _ => False) s → wpAny (model X.prog X.w) A t Q (fun _ _ => False) s) : W X A ρ μ env s RV t r :=
  fun b σ' e => k _ (h b σ' e)

theorem W_holding {RV : RVt α β} {vs : List Value} {t : Sem α} {r : Option (β × St)} (h : W X A ρ μ env s RV t r) : W X A ρ μ env s RV (holding vs t) r :=
  fun b σ' e => wpAny_holding (h b σ' e)
theorem W_standAt {RV : RVt α β} {pos : Pos} {t : Sem α} {r : Option (β × St)} (h : W X A ρ μ env s RV t r) : W X A ρ μ env s RV (standAt pos >>= fun _ => t) r :=
  fun b σ' e => wpAny_bind (wpAny_standAt (h b σ' e))
theorem W_operate {RV : RVt Value β} {vs : List Value} {t : Sem Value} {r : Option (β × St)} (h : W X A ρ μ env s RV t r) : W X A ρ μ env s RV (operate vs t) r :=
  fun b σ' e => wpAny_operateT (h b σ' e)
end

/-! Rel under growth -/

theorem FrameR.at {env : Env} {h h' : Heap} {m cm : Str → Option Value} (F : FrameR env h m cm) (k : ∀ b ∈ own env, ∀ o, h.get? b = some o → h'.get? b = some o) : FrameR env h' m cm where
  kind := F.kind
  globals := F.globals
  builtins := F.builtins
  ns := F.ns.at' fun o e => k _ (.head _) o e
  cell := fun n c e => by
    obtain ⟨o, h1, h2⟩ := F.cell n c e
    exact ⟨o, k c (.tail _ (List.mem_map.mpr ⟨_, mem_of_lookup e, rfl⟩)) o h1, h2⟩
  cells := fun n c e => by
    obtain ⟨v, o, h1, h2⟩ := F.cells n c e
    exact ⟨v, o, k c (.tail _ (List.mem_map.mpr ⟨_, e, rfl⟩)) o h1, h2⟩
  apart := F.apart

theorem DctR.mono {K : Type} [DecidableEq K] {prog : Program} {w : World} {knd : KeyKind prog w K} {h h' : Heap} {ok ok' : Addr → Prop} {kvs : List (K × PyData)} {a : Addr} {fp : List Addr} (k : ∀ a o, ok a → h.get? a = some o → h'.get? a = some o ∧ ok' a) (q : ∀ o, h.get? a = some o → h'.get? a = some o) (e : DctR knd h ok kvs a fp) : DctR knd h' ok' kvs a fp := by
  obtain ⟨h1, h2, vs, ⟨o, es, ep, g1, g2⟩, h3, h4⟩ := e
  exact ⟨h1, h2, vs, ⟨o, es, ep, q _ g1, g2⟩, h3, DRs.mono k h4⟩
theorem DctR.live {K : Type} [DecidableEq K] {prog : Program} {w : World} {knd : KeyKind prog w K} {h : Heap} {ok : Addr → Prop} {kvs : List (K × PyData)} {a : Addr} {fp : List Addr} (e : DctR knd h ok kvs a fp) : ∃ o es ep, h.get? a = some o ∧ o.cls = .type "dict" ∧ o.data = .dict es ep := by
  obtain ⟨_, _, vs, ⟨o, es, ep, g1, g2, g3, _⟩, _⟩ := e
  exact ⟨o, es, ep, g1, g2.1, g3⟩

theorem OR.mono {X : Cx} {h h' : Heap} {ok ok' : Addr → Prop} {μ μ' : Mu} (p : ∀ i a, root μ i = some a → root μ' i = some a) (k : ∀ a o, ok a → h.get? a = some o → h'.get? a = some o ∧ ok' a)
    {o : AObj} {a : Addr} {fp : List Addr} (q : ∀ b ∈ a :: fp, ∀ ob, h.get? b = some ob → h'.get? b = some ob) (e : OR X h ok μ o a fp) : OR X h' ok' μ' o a fp := by
  cases o with
  | lst ds =>
    obtain ⟨vs, n, rfl, h1, h2⟩ := e
    exact ⟨vs, n, rfl, q a (by simp) _ h1, DRs.mono k h2⟩
  | frz ds =>
    obtain ⟨vs, n, rfl, h1, h2⟩ := e
    exact ⟨vs, n, rfl, q a (by simp) _ h1, DRs.mono k h2⟩
  | inst l =>
    obtain ⟨d, rfl, h1, h2⟩ := e
    refine ⟨d, rfl, q a (by simp) _ h1, ?_⟩
    cases l with
    | none => exact q d (by simp) _ h2
    | some i =>
      obtain ⟨al, t, n, h3, h4⟩ := h2
      exact ⟨al, t, n, p _ _ h3, q d (by simp) _ h4⟩
  | dctS kvs => exact DctR.mono k (fun o => q a (.head _) o) e
  | dctI kvs => exact DctR.mono k (fun o => q a (.head _) o) e

/-- an object's root is its own, or reserved -/
theorem OR.root_mem {X : Cx} {h : Heap} {ok : Addr → Prop} {μ : Mu} {o : AObj} {a : Addr} {fp : List Addr} (e : OR X h ok μ o a fp) : a ∈ fp ∨ ∃ ds, o = .frz ds := by
  cases o with
  | lst ds => obtain ⟨vs, n, rfl, _⟩ := e; exact .inl (by simp)
  | frz ds => exact .inr ⟨ds, rfl⟩
  | inst l => obtain ⟨d, rfl, _⟩ := e; exact .inl (by simp)
  | dctS kvs => obtain ⟨rfl, _⟩ := e; exact .inl (.head _)
  | dctI kvs => obtain ⟨rfl, _⟩ := e; exact .inl (.head _)

section
variable {X : Cx} {ρ : List Addr} {μ : Mu} {env : Env} {σ : St} {h h' : Heap}

theorem foot_get {i : Nat} {p : Addr × List Addr} (e : μ[i]? = some p) {a : Addr} (ha : a ∈ p.2) : a ∈ foot μ := List.mem_flatMap.mpr ⟨p, List.mem_of_getElem? e, ha⟩

theorem Rel.okNew (R : Rel X ρ μ env σ h) {a : Addr} (ha : h.get? a = none) : okOf ρ μ a :=
  ⟨fun hm => (by obtain ⟨o, e⟩ := R.liveR a hm; rw [ha] at e; cases e), fun hm => (by obtain ⟨o, e⟩ := R.liveM a hm; rw [ha] at e; cases e)⟩
theorem Rel.notBase (R : Rel X ρ μ env σ h) {a : Addr} (ha : h.get? a = none) : X.base.get? a = none := by
  cases e : X.base.get? a with
  | none => rfl
  | some o => have := R.base a o e; rw [ha] at this; cases this

/-- a frozen list's address is none of the frame's own -/
theorem Rel.frzOff (R : Rel X ρ μ env σ h) {a : Addr} {vs : Array Value} {n : Nat} (e : h.get? a = some { cls := .type "list", data := .seq vs n }) : a ∉ Mine.own env := by
  obtain ⟨m, cm, F, _⟩ := R.frame
  intro hm
  rcases List.mem_cons.mp hm with rfl | hm
  · obtain ⟨o, es, ep, h1, h2, _⟩ := F.ns
    rw [e] at h1; cases h1; cases h2
  · obtain ⟨⟨n', c⟩, h1, rfl⟩ := List.mem_map.mp hm
    obtain ⟨v, o, h2, h3⟩ := F.cells n' c h1
    rw [e] at h2; cases h2; cases h3

/-- the general change: some reserved addresses and some of one object's turn; all else stays -/
theorem Rel.ext (R : Rel X ρ μ env σ h) (k : ∀ b o, h.get? b = some o → h'.get? b = some o) : Rel X ρ μ env σ h' where
  base := fun b o e => k _ _ (R.base b o e)
  freshR := R.freshR
  freshM := R.freshM
  liveR := fun a ha => let ⟨o, e⟩ := R.liveR a ha; ⟨o, k _ _ e⟩
  liveM := fun a ha => let ⟨o, e⟩ := R.liveM a ha; ⟨o, k _ _ e⟩
  nod := R.nod
  dis := R.dis
  own := R.own
  above := R.above
  frame := by
    obtain ⟨m, cm, F, l⟩ := R.frame
    refine ⟨m, cm, F.at fun b _ => k b, fun x v e => ?_⟩
    obtain ⟨val, h1, h2⟩ := l x v e
    exact ⟨val, h1, h2.mono (fun _ _ e => e) fun a o ok e => ⟨k _ _ e, ok⟩⟩
  len := R.len
  inj := R.inj
  objs := fun i o e => by
    obtain ⟨p, h1, h2⟩ := R.objs i o e
    exact ⟨p, h1, h2.mono (fun _ _ e => e) (fun a o ok e => ⟨k _ _ e, ok⟩) fun a _ ob e => k _ _ e⟩
  frz := R.frz

theorem root_some {i : Nat} {p : Addr × List Addr} (e : μ[i]? = some p) : root μ i = some p.1 := by unfold root; rw [e]; rfl

/-- what an object is made of is not another's, nor reserved unless it is frozen -/
theorem Rel.apart (R : Rel X ρ μ env σ h) {i j : Nat} {p q : Addr × List Addr} (hi : μ[i]? = some p) (hj : μ[j]? = some q) (hne : i ≠ j) {a : Addr} (ha : a ∈ p.2) : a ∉ q.2 := by
  intro hb
  have hn := R.nod
  unfold foot at hn
  obtain ⟨hi', rfl⟩ := List.getElem?_eq_some_iff.mp hi
  obtain ⟨hj', rfl⟩ := List.getElem?_eq_some_iff.mp hj
  have hp := (List.pairwise_flatMap.mp hn).2
  rcases Nat.lt_or_gt_of_ne hne with hlt | hlt
  · exact List.pairwise_iff_getElem.mp hp i j hi' hj' hlt a ha a hb rfl
  · exact List.pairwise_iff_getElem.mp hp j i hj' hi' hlt a hb a ha rfl

/-- one object turns -/
theorem Rel.setObj (R : Rel X ρ μ env σ h) {i : Nat} {p : Addr × List Addr} {o' : AObj} (hi : μ[i]? = some p) (hz' : ∀ ds, o' ≠ .frz ds)
    (k : ∀ b ob, b ∉ p.2 → h.get? b = some ob → h'.get? b = some ob) (hl : ∀ b ∈ p.2, ∃ ob, h'.get? b = some ob) (hO : OR X h' (okOf ρ μ) μ o' p.1 p.2) :
    Rel X ρ μ env ⟨σ.loc, σ.heap.set i o'⟩ h' := by
  have kf : ∀ b ob, b ∉ foot μ → h.get? b = some ob → h'.get? b = some ob := fun b ob hb e => k b ob (fun hm => hb (foot_get hi hm)) e
  have kok : ∀ a ob, okOf ρ μ a → h.get? a = some ob → h'.get? a = some ob ∧ okOf ρ μ a := fun a ob q e => ⟨kf a ob q.2 e, q⟩
  refine ⟨fun b ob e => kf b ob (fun hm => ?_) (R.base b ob e), R.freshR, R.freshM, fun a ha => ?_, fun a ha => ?_, R.nod, R.dis, R.own, R.above, ?_, by simp [R.len], R.inj, ?_, ?_⟩
  · rw [R.freshM b hm] at e; cases e
  · obtain ⟨ob, e⟩ := R.liveR a ha; exact ⟨ob, kf a ob (R.dis a ha) e⟩
  · by_cases hm : a ∈ p.2
    · exact hl a hm
    · obtain ⟨ob, e⟩ := R.liveM a ha; exact ⟨ob, k a ob hm e⟩
  · obtain ⟨m, cm, F, l⟩ := R.frame
    refine ⟨m, cm, F.at fun b hb ob e => kf b ob (R.dis b (R.own b hb)) e, fun x v e => ?_⟩
    obtain ⟨val, h1, h2⟩ := l x v e
    exact ⟨val, h1, h2.mono (fun _ _ e => e) kok⟩
  · intro j oj e
    rw [List.getElem?_set] at e
    split at e
    · rename_i hij
      subst hij
      split at e
      · cases e; exact ⟨p, hi, hO⟩
      · cases e
    · rename_i hij
      obtain ⟨q, h1, h2⟩ := R.objs j oj e
      refine ⟨q, h1, h2.mono (fun _ _ e => e) kok fun b hb ob e' => ?_⟩
      refine k b ob (fun hm => ?_) e'
      rcases List.mem_cons.mp hb with rfl | hb
      · rcases h2.root_mem with h3 | ⟨ds, rfl⟩
        · exact R.apart hi h1 hij hm h3
        · exact R.dis _ (R.frz j ds e _ (root_some h1)) (foot_get hi hm)
      · exact R.apart hi h1 hij hm hb
  · intro j ds e a ha
    rw [List.getElem?_set] at e
    split at e
    · split at e
      · cases e; exact absurd rfl (hz' ds)
      · cases e
    · exact R.frz j ds e a ha

/-- a reserved thing turns that is no part of the frame -/
theorem Rel.setRes (R : Rel X ρ μ env σ h) {wr : List Addr} (hw : ∀ a ∈ wr, a ∈ ρ) (ho : ∀ a ∈ wr, a ∉ Mine.own env) (hl : ∀ a ∈ wr, ∃ o, h'.get? a = some o) (hz : ∀ a ∈ wr, ∀ j, root μ j ≠ some a)
    (k : ∀ b o, b ∉ wr → h.get? b = some o → h'.get? b = some o) : Rel X ρ μ env σ h' := by
  have kok : ∀ a ob, okOf ρ μ a → h.get? a = some ob → h'.get? a = some ob ∧ okOf ρ μ a := fun a ob q e => ⟨k a ob (fun hm => q.1 (hw a hm)) e, q⟩
  refine ⟨fun b ob e => k b ob (fun hm => ?_) (R.base b ob e), R.freshR, R.freshM, fun a ha => ?_, fun a ha => ?_, R.nod, R.dis, R.own, R.above, ?_, R.len, R.inj, ?_, R.frz⟩
  · rw [R.freshR b (hw b hm)] at e; cases e
  · by_cases hm : a ∈ wr
    · exact hl a hm
    · obtain ⟨ob, e⟩ := R.liveR a ha; exact ⟨ob, k a ob hm e⟩
  · obtain ⟨ob, e⟩ := R.liveM a ha
    exact ⟨ob, k a ob (fun hm => R.dis a (hw a hm) ha) e⟩
  · obtain ⟨m, cm, F, l⟩ := R.frame
    refine ⟨m, cm, F.at fun b hb ob e => k b ob (fun hm => ho b hm hb) e, fun x v e => ?_⟩
    obtain ⟨val, h1, h2⟩ := l x v e
    exact ⟨val, h1, h2.mono (fun _ _ e => e) kok⟩
  · intro j oj e
    obtain ⟨q, h1, h2⟩ := R.objs j oj e
    refine ⟨q, h1, h2.mono (fun _ _ e => e) kok fun b hb ob e' => k b ob (fun hm => ?_) e'⟩
    rcases List.mem_cons.mp hb with rfl | hb
    · rcases h2.root_mem with h3 | ⟨ds, rfl⟩
      · exact R.dis _ (hw _ hm) (foot_get h1 h3)
      · exact hz _ hm j (root_some h1)
    · exact R.dis _ (hw _ hm) (foot_get h1 hb)

/-- more is reserved -/
theorem Rel.reserve (R : Rel X ρ μ env σ h) {h₂ : Heap} {wr : List Addr} (hn : ∀ a ∈ wr, h₂.get? a = none) (R₂ : Rel X ρ μ env σ h₂) (k : ∀ b o, h₂.get? b = some o → h.get? b = some o) (hl : ∀ a ∈ wr, ∃ o, h.get? a = some o) : Rel X (wr ++ ρ) μ env σ h := by
  have kok : ∀ a ob, okOf ρ μ a → h₂.get? a = some ob → h.get? a = some ob ∧ okOf (wr ++ ρ) μ a := fun a ob q e => ⟨k a ob e, fun hm => by
    rcases List.mem_append.mp hm with hm | hm
    · rw [hn a hm] at e; cases e
    · exact q.1 hm, q.2⟩
  refine ⟨R.base, fun a ha => ?_, R.freshM, fun a ha => ?_, R.liveM, R.nod, fun a ha hm => ?_, fun a ha => List.mem_append_right _ (R.own a ha), R.above, ?_, R.len, R.inj, ?_, fun i ds e a ha => List.mem_append_right _ (R.frz i ds e a ha)⟩
  · rcases List.mem_append.mp ha with ha | ha
    · exact R₂.notBase (hn a ha)
    · exact R.freshR a ha
  · rcases List.mem_append.mp ha with ha | ha
    · exact hl a ha
    · exact R.liveR a ha
  · rcases List.mem_append.mp ha with ha | ha
    · obtain ⟨o, e⟩ := R₂.liveM a hm; rw [hn a ha] at e; cases e
    · exact R.dis a ha hm
  · obtain ⟨m, cm, F, l⟩ := R₂.frame
    refine ⟨m, cm, F.at fun b _ ob e => k b ob e, fun x v e => ?_⟩
    obtain ⟨val, h1, h2⟩ := l x v e
    exact ⟨val, h1, h2.mono (fun _ _ e => e) kok⟩
  · intro j oj e
    obtain ⟨q, h1, h2⟩ := R₂.objs j oj e
    exact ⟨q, h1, h2.mono (fun _ _ e => e) kok fun b hb ob e' => k b ob e'⟩

theorem Rel.congr {ρ' : List Addr} (R : Rel X ρ μ env σ h) (hh : ∀ a, a ∈ ρ ↔ a ∈ ρ') : Rel X ρ' μ env σ h := by
  have hok : ∀ a o, okOf ρ μ a → h.get? a = some o → h.get? a = some o ∧ okOf ρ' μ a := fun a o q e => ⟨e, fun hm => q.1 ((hh a).mpr hm), q.2⟩
  refine ⟨R.base, fun a ha => R.freshR a ((hh a).mpr ha), R.freshM, fun a ha => R.liveR a ((hh a).mpr ha), R.liveM, R.nod, fun a ha => R.dis a ((hh a).mpr ha), fun a ha => (hh a).mp (R.own a ha), R.above, ?_, R.len, R.inj, ?_, fun i ds e a ha => (hh a).mp (R.frz i ds e a ha)⟩
  · obtain ⟨m, cm, F, l⟩ := R.frame
    refine ⟨m, cm, F, fun x v e => ?_⟩
    obtain ⟨val, h1, h2⟩ := l x v e
    exact ⟨val, h1, h2.mono (fun _ _ e => e) hok⟩
  · intro j oj e
    obtain ⟨q, h1, h2⟩ := R.objs j oj e
    exact ⟨q, h1, h2.mono (fun _ _ e => e) hok fun b hb ob e' => e'⟩

/-- another frame over the same things -/
theorem Rel.reframe {env₂ : Env} {loc : Str → Option V} (R : Rel X ρ μ env σ h) (ho : ∀ a ∈ Mine.own env₂, a ∈ ρ) (hb : X.base.objs.size ≤ env₂.locals)
    (fr : ∃ m cm, FrameR env₂ h m cm ∧ ∀ x v, loc x = some v → ∃ val, valOf env₂ m cm x = some val ∧ VR h (okOf ρ μ) μ v val) : Rel X ρ μ env₂ ⟨loc, σ.heap⟩ h :=
  ⟨R.base, R.freshR, R.freshM, R.liveR, R.liveM, R.nod, R.dis, ho, hb, fr, R.len, R.inj, R.objs, R.frz⟩

theorem Rel.rootLive (R : Rel X ρ μ env σ h) {j : Nat} {a : Addr} (hj : root μ j = some a) : ∃ o, h.get? a = some o := by
  unfold root at hj
  obtain ⟨p, h1, rfl⟩ := Option.map_eq_some_iff.mp hj
  have hlt : j < σ.heap.length := by rw [← R.len]; exact (List.getElem?_eq_some_iff.mp h1).1
  obtain ⟨q, h2, h3⟩ := R.objs j _ (List.getElem?_eq_getElem hlt)
  rw [h1] at h2; cases h2
  generalize σ.heap[j] = o at h3
  cases o with
  | lst ds => obtain ⟨vs, n, _, h4, _⟩ := h3; exact ⟨_, h4⟩
  | frz ds => obtain ⟨vs, n, _, h4, _⟩ := h3; exact ⟨_, h4⟩
  | inst l => obtain ⟨d, _, h4, _⟩ := h3; exact ⟨_, h4⟩
  | dctS kvs => obtain ⟨o, _, _, h4, _⟩ := DctR.live h3; exact ⟨o, h4⟩
  | dctI kvs => obtain ⟨o, _, _, h4, _⟩ := DctR.live h3; exact ⟨o, h4⟩

/-- a new abstract object -/
theorem Rel.newObj (R : Rel X ρ μ env σ h) {a : Addr} {fp : List Addr} {o : AObj} (hf : ∀ b ∈ fp, h.get? b = none) (hnd : fp.Nodup) (hz : ∀ ds, o ≠ .frz ds)
    (k : ∀ b o, h.get? b = some o → h'.get? b = some o) (hl : ∀ b ∈ fp, ∃ ob, h'.get? b = some ob) (hO : OR X h' (okOf ρ (μ ++ [(a, fp)])) (μ ++ [(a, fp)]) o a fp) :
    Rel X ρ (μ ++ [(a, fp)]) env ⟨σ.loc, σ.heap ++ [o]⟩ h' := by
  have hfl : foot (μ ++ [(a, fp)]) = foot μ ++ fp := by rw [foot_append]; simp [foot]
  have R' := R.ext k
  have hok : ∀ b o, okOf ρ μ b → h.get? b = some o → h'.get? b = some o ∧ okOf ρ (μ ++ [(a, fp)]) b := fun b o q e => ⟨k _ _ e, q.1, by
    rw [hfl, List.mem_append]; rintro (hm | hm)
    · exact q.2 hm
    · rw [hf b hm] at e; cases e⟩
  have hpre : ∀ i b, root μ i = some b → root (μ ++ [(a, fp)]) i = some b := fun i b => root_prefix (List.prefix_append _ _)
  refine ⟨R'.base, R.freshR, ?_, R'.liveR, ?_, ?_, ?_, R.own, R.above, ?_, by simp [R.len], ?_, ?_, ?_⟩
  · intro b hm; rw [hfl, List.mem_append] at hm
    rcases hm with hm | hm
    · exact R.freshM b hm
    · exact R.notBase (hf b hm)
  · intro b hm; rw [hfl, List.mem_append] at hm
    rcases hm with hm | hm
    · exact R'.liveM b hm
    · exact hl b hm
  · rw [hfl, List.nodup_append]
    refine ⟨R.nod, hnd, fun x hx y hy => ?_⟩
    rintro rfl
    obtain ⟨o, e⟩ := R.liveM x hx; rw [hf x hy] at e; cases e
  · intro b hm; rw [hfl, List.mem_append]
    rintro (h1 | h1)
    · exact R.dis b hm h1
    · obtain ⟨o, e⟩ := R.liveR b hm; rw [hf b h1] at e; cases e
  · obtain ⟨m, cm, F, l⟩ := R.frame
    refine ⟨m, cm, F.at fun b _ => k b, fun x v e => ?_⟩
    obtain ⟨val, h1, h2⟩ := l x v e
    exact ⟨val, h1, h2.mono hpre hok⟩
  · have hnew : ∀ j, root μ j = some a → False := fun j hj => by
      obtain ⟨o', e'⟩ := R.rootLive hj
      rcases hO.root_mem with h1 | ⟨ds, h1⟩
      · rw [hf a h1] at e'; cases e'
      · exact hz ds h1
    have hcase : ∀ j b, root (μ ++ [(a, fp)]) j = some b → root μ j = some b ∨ (j = μ.length ∧ b = a) := fun j b hj => by
      unfold root at hj ⊢
      rw [List.getElem?_append] at hj
      split at hj
      · exact .inl hj
      · rename_i hlt
        right
        have hj' : j = μ.length := by
          obtain ⟨p, h1, _⟩ := Option.map_eq_some_iff.mp hj
          have := (List.getElem?_eq_some_iff.mp h1).1
          simp at this; omega
        subst hj'
        simp at hj
        exact ⟨rfl, hj.symm⟩
    intro i j b hi hj
    rcases hcase i b hi with h1 | ⟨h1, h2⟩ <;> rcases hcase j b hj with h3 | ⟨h3, h4⟩
    · exact R.inj i j b h1 h3
    · subst h4; exact (hnew i h1).elim
    · subst h2; exact (hnew j h3).elim
    · rw [h1, h3]
  · intro i oi e
    rw [List.getElem?_append] at e
    split at e
    · rename_i hi
      obtain ⟨p, h1, h2⟩ := R.objs i oi e
      exact ⟨p, by rw [List.getElem?_append_left (by rw [R.len]; exact hi)]; exact h1, h2.mono hpre hok fun b _ ob q => k _ _ q⟩
    · rename_i hi
      have hi' : i = σ.heap.length := by
        have := (List.getElem?_eq_some_iff.mp e).1
        simp at this; omega
      subst hi'
      simp at e; subst e
      refine ⟨(a, fp), ?_, hO⟩
      rw [← R.len, List.getElem?_append_right (Nat.le_refl _)]; simp
  · intro i ds e b hb
    rw [List.getElem?_append] at e
    split at e
    · rename_i hi
      refine R.frz i ds e b ?_
      unfold root at hb ⊢
      rwa [List.getElem?_append_left (by rw [R.len]; exact hi)] at hb
    · rename_i hi
      have hi' : i = σ.heap.length := by
        have := (List.getElem?_eq_some_iff.mp e).1
        simp at this; omega
      subst hi'
      simp at e
      exact absurd e (hz ds)

theorem root_last {a : Addr} {fp : List Addr} : root (μ ++ [(a, fp)]) μ.length = some a := by unfold root; simp
end

section
variable {X : Cx} {ρ : List Addr} {μ : Mu} {env : Env} {σ : St} {s : Shared}

theorem Step.grow {ow : List Addr} {h' : Heap} {tk : Nat} (k : ∀ b o, s.heap.get? b = some o → h'.get? b = some o) : Step ow μ μ s { s with heap := h', toks := tk } :=
  ⟨⟨h', tk, rfl⟩, fun b o e _ _ => k b o e, fun b o e => ⟨o, k b o e⟩, List.prefix_refl _, fun _ h => .inl h⟩

/-- an end that only takes tokens -/
theorem post_tok {α β : Type} {RV : RVt α β} {b : β} {x : α} (R : Rel X ρ μ env σ s.heap) (tk : Nat) (h : RV s.heap (okOf ρ μ) μ b x) : Post X ρ μ env s RV b σ x { s with toks := tk } :=
  ⟨μ, .grow (h' := s.heap) (tk := tk) fun _ _ e => e, R, h⟩
theorem post_same {α β : Type} {RV : RVt α β} {b : β} {x : α} (R : Rel X ρ μ env σ s.heap) (h : RV s.heap (okOf ρ μ) μ b x) : Post X ρ μ env s RV b σ x s :=
  ⟨μ, .refl _ _ _, R, h⟩
/-- an end that lays a new thing aside -/
theorem post_new {α β : Type} {RV : RVt α β} {b : β} {x : α} (R : Rel X ρ μ env σ s.heap) {h' : Heap} {tk : Nat} (k : ∀ b o, s.heap.get? b = some o → h'.get? b = some o) (h : RV h' (okOf ρ μ) μ b x) :
    Post X ρ μ env s RV b σ x { s with heap := h', toks := tk } := ⟨μ, .grow k, R.ext k, h⟩

theorem Step.newObj {h' : Heap} {tk : Nat} {a : Addr} {fp ow : List Addr} (hf : ∀ b ∈ fp, s.heap.get? b = none) (k : ∀ b o, s.heap.get? b = some o → h'.get? b = some o) :
    Step ow μ (μ ++ [(a, fp)]) s { s with heap := h', toks := tk } :=
  ⟨⟨h', tk, rfl⟩, fun b o e _ _ => k b o e, fun b o e => ⟨o, k b o e⟩, List.prefix_append _ _, fun b hm => by
    rw [foot_append, List.mem_append] at hm
    rcases hm with hm | hm
    · exact .inl hm
    · simp [foot] at hm; exact .inr (hf b hm)⟩

theorem Step.setObj {h' : Heap} {tk : Nat} {ow : List Addr} {i : Nat} {p : Addr × List Addr} (hi : μ[i]? = some p) (k : ∀ b ob, b ∉ p.2 → s.heap.get? b = some ob → h'.get? b = some ob)
    (hl : ∀ b ∈ p.2, ∃ ob, h'.get? b = some ob) : Step ow μ μ s { s with heap := h', toks := tk } :=
  ⟨⟨h', tk, rfl⟩, fun b o e hm _ => k b o (fun h => hm (foot_get hi h)) e, fun b o e => by
    by_cases h : b ∈ p.2
    · exact hl b h
    · exact ⟨o, k b o h e⟩, List.prefix_refl _, fun _ h => .inl h⟩

/-- a fresh list: it may be told as data, or become an object -/
noncomputable def FreshL (X : Cx) (ρ : List Addr) (μ : Mu) (env : Env) (s : Shared) (ds : List PyData) (σ' : St) : Value → Shared → Prop := fun x s' =>
  ∃ μ' s₁ a vs n h' tk, Step (Mine.wrt env) μ μ' s s₁ ∧ Rel X ρ μ' env σ' s₁.heap ∧ x = .ref a ∧ s₁.heap.get? a = none ∧ s' = { s₁ with heap := h', toks := tk } ∧
    (∀ b o, s₁.heap.get? b = some o → h'.get? b = some o) ∧ h'.get? a = some { cls := .type "list", data := .seq vs n } ∧ DRs s₁.heap (okOf ρ μ') ds vs.toList

theorem FreshL.dat {ds : List PyData} {σ' : St} {x : Value} {s' : Shared} (f : FreshL X ρ μ env s ds σ' x s') : Post X ρ μ env s VRr (.dat (.list ds)) σ' x s' := by
  obtain ⟨μ', s₁, a, vs, n, h', tk, st, R, rfl, hf, rfl, k, ha, hd⟩ := f
  refine ⟨μ', st.trans (.grow k), R.ext k, ?_⟩
  show DR _ _ _ _
  simp only [DR]
  exact ⟨a, _, vs, n, rfl, R.okNew hf, ha, rfl, rfl, DRs.mono (fun a o ok e => ⟨k _ _ e, ok⟩) hd⟩

theorem FreshL.obj {ds : List PyData} {σ' : St} {x : Value} {s' : Shared} (f : FreshL X ρ μ env s ds σ' x s') : Post X ρ μ env s VRr (.obj σ'.heap.length) ⟨σ'.loc, σ'.heap ++ [.lst ds]⟩ x s' := by
  obtain ⟨μ', s₁, a, vs, n, h', tk, st, R, rfl, hf, rfl, k, ha, hd⟩ := f
  have hfs : ∀ b ∈ [a], s₁.heap.get? b = none := fun b hb => by simp at hb; subst hb; exact hf
  refine ⟨μ' ++ [(a, [a])], st.trans (.newObj hfs k), R.newObj hfs (by simp) (fun _ h => nomatch h) k (fun b hb => by simp at hb; subst hb; exact ⟨_, ha⟩) ⟨vs, n, rfl, ha, DRs.mono (fun b o ok e => ⟨k _ _ e, ok.1, ?_⟩) hd⟩, ?_⟩
  · show ∃ b, _ ∧ _
    exact ⟨a, by rw [← R.len]; exact root_last, rfl⟩
  · rw [foot_append, List.mem_append]
    rintro (hm | hm)
    · exact ok.2 hm
    · simp [foot] at hm; subst hm; rw [hf] at e; cases e

theorem FreshL.of (R : Rel X ρ μ env σ s.heap) {ds : List PyData} {a : Addr} {vs : Array Value} {n : Nat} {h' : Heap} {tk : Nat} (hf : s.heap.get? a = none) (k : ∀ b o, s.heap.get? b = some o → h'.get? b = some o)
    (ha : h'.get? a = some { cls := .type "list", data := .seq vs n }) (hd : DRs s.heap (okOf ρ μ) ds vs.toList) : FreshL X ρ μ env s ds σ (.ref a) { s with heap := h', toks := tk } :=
  ⟨μ, s, a, vs, n, h', tk, .refl _ _ _, R, rfl, hf, rfl, k, ha, hd⟩
theorem FreshL.trans {μ₁ : Mu} {s₁ : Shared} {ds : List PyData} {σ' : St} {x : Value} {s' : Shared} (st : Step (Mine.wrt env) μ μ₁ s s₁) (f : FreshL X ρ μ₁ env s₁ ds σ' x s') : FreshL X ρ μ env s ds σ' x s' := by
  obtain ⟨μ', s₂, a, vs, n, h', tk, st', r⟩ := f
  exact ⟨μ', s₂, a, vs, n, h', tk, st.trans st', r⟩

/-- the push at the heap's end -/
theorem FreshL.push (R : Rel X ρ μ env σ s.heap) {ds : List PyData} {vs : Array Value} {tk : Nat} (hd : DRs s.heap (okOf ρ μ) ds vs.toList) :
    FreshL X ρ μ env s ds σ (.ref s.heap.objs.size) { s with heap := s.heap.push { cls := .type "list", data := .seq vs }, toks := tk } :=
  .of R (by
    cases e : s.heap.get? s.heap.objs.size with
    | none => rfl
    | some o => exact absurd (Heap.lt_size e) (Nat.lt_irrefl _)) (fun _ _ e => Heap.get?_push_of_some _ e) (Heap.get?_push_size _ rfl) hd
end

theorem fresh_size (h : Heap) : h.get? h.objs.size = none := by
  cases e : h.get? h.objs.size with
  | none => rfl
  | some o => exact absurd (Heap.lt_size e) (Nat.lt_irrefl _)

theorem Rel.fr {X : Cx} {ρ : List Addr} {μ : Mu} {env : Env} {σ : St} {h : Heap} (R : Rel X ρ μ env σ h) : ∃ m, PyProof.Rows.Fr X.base env.locals h m := by
  obtain ⟨m, cm, F, _⟩ := R.frame
  exact ⟨m, F.ns, R.base, R.above⟩

end Mine
end

section
open PySem
set_option Elab.async false
namespace Mine

/-! values read -/
noncomputable def LR (h : Heap) (ok : Addr → Prop) : PyData → Value → Prop
  | .list xs, x => ∃ a o vs n, x = .ref a ∧ h.get? a = some o ∧ o.cls = .type "list" ∧ o.data = .seq vs n ∧ DRs h ok xs vs.toList
  | d, x => DR h ok d x

theorem DR.lr {h : Heap} {ok : Addr → Prop} {d : PyData} {x : Value} (e : DR h ok d x) : LR h ok d x := by
  cases d <;> first | exact e | skip
  simp only [DR] at e
  obtain ⟨a, o, vs, n, h1, _, h2⟩ := e
  exact ⟨a, o, vs, n, h1, h2⟩

theorem LR.reads {h : Heap} {ok : Addr → Prop} : ∀ {d : PyData} {x : Value}, LR h ok d x → (∃ as, Reads h x d as) ∧ d.canLay0 = true
  | .none, _, e => DR.reads (ok := ok) (d := .none) e
  | .bool _, _, e => DR.reads (ok := ok) (d := .bool _) e
  | .int _, _, e => DR.reads (ok := ok) (d := .int _) e
  | .str _, _, e => DR.reads (ok := ok) (d := .str _) e
  | .tuple _, _, e => DR.reads (ok := ok) (d := .tuple _) e
  | .dict _, _, e => DR.reads (ok := ok) (d := .dict _) e
  | .list _, _, e => by
    obtain ⟨a, o, vs, n, rfl, h2, h3, h4, h5⟩ := e
    obtain ⟨⟨as, r⟩, c⟩ := DRs.reads h5
    exact ⟨⟨_, .list h2 h3 h4 r⟩, by simp only [PyData.canLay0]; exact c⟩

section
variable {X : Cx} {A : Around} {ρ : List Addr} {μ : Mu} {env : Env} {σ : St} {s : Shared}

theorem readD_ok {v : V} {x : Value} {d : PyData} {σ' : St} (R : Rel X ρ μ env σ s.heap) (hv : VR s.heap (okOf ρ μ) μ v x) (e : readD v σ = some (d, σ')) : σ' = σ ∧ LR s.heap (okOf ρ μ) d x := by
  cases v with
  | dat d' => cases e; exact ⟨rfl, DR.lr hv⟩
  | obj i =>
    simp only [readD] at e
    obtain ⟨a, h1, rfl⟩ := hv
    cases q : σ.heap[i]? with
    | none => rw [q] at e; cases e
    | some o =>
      rw [q] at e
      obtain ⟨p, h2, h3⟩ := R.objs i o q
      rw [root_some h2] at h1
      cases o with
      | lst ds =>
        cases e
        obtain ⟨vs, n, _, h4, h5⟩ := h3
        cases h1
        exact ⟨rfl, _, _, vs, n, rfl, h4, rfl, rfl, h5⟩
      | frz ds =>
        cases e
        obtain ⟨vs, n, _, h4, h5⟩ := h3
        cases h1
        exact ⟨rfl, _, _, vs, n, rfl, h4, rfl, rfl, h5⟩
      | _ => cases e
  | rng lo hi => cases e
  | emp => cases e

theorem mbind_some {α β : Type} {m : M α} {f : α → M β} {σ σ' : St} {b : β} (e : (m >>= f) σ = some (b, σ')) : ∃ a σ₁, m σ = some (a, σ₁) ∧ f a σ₁ = some (b, σ') := by
  rw [bind_eq] at e
  unfold mbind at e
  cases q : m σ with
  | none => rw [q] at e; cases e
  | some p => rw [q] at e; exact ⟨p.1, p.2, rfl, e⟩
theorem mbind_elim {α β : Type} {m : M α} {f : α → M β} {σ σ' : St} {b : β} {C : Prop} (e : (m >>= f) σ = some (b, σ')) (k : ∀ a σ₁, m σ = some (a, σ₁) → f a σ₁ = some (b, σ') → C) : C := by
  obtain ⟨a, s, h1, h2⟩ := (mbind_some e)
  exact k a s h1 h2
theorem mopt_some {α : Type} {o : Option α} {σ σ' : St} {a : α} (e : mopt o σ = some (a, σ')) : o = some a ∧ σ' = σ := by
  unfold mopt at e
  cases o with
  | none => cases e
  | some b => cases e; exact ⟨rfl, rfl⟩
theorem mpure_some {α : Type} {a b : α} {σ σ' : St} (e : (pure a : M α) σ = some (b, σ')) : a = b ∧ σ' = σ := by
  rw [pure_eq] at e; unfold mpure at e; cases e; exact ⟨rfl, rfl⟩

theorem big_le : big ≤ sizeLine := by rw [sizeLine_eq]; decide

/-- arithmetic -/
theorem W_addD {a b d : PyData} {x y : Value} (R : Rel X ρ μ env σ s.heap) (ha : LR s.heap (okOf ρ μ) a x) (hb : LR s.heap (okOf ρ μ) b y) (e : addD a b = some d) : wpAny (model X.prog X.w) A (binaryOp .Add x y) (Post X ρ μ env s VRr (.dat d) σ) (fun _ _ => False) s := by
  cases a with
  | int i => cases b with
    | int j =>
      cases e
      simp only [LR, DR] at ha hb; obtain ⟨t, rfl⟩ := ha; obtain ⟨u, rfl⟩ := hb
      exact PyProof.Rows.add_int (post_tok R _ (by show DR _ _ _ _; simp only [DR]; exact ⟨_, rfl⟩))
    | _ => cases e
  | str x' => cases b with
    | str y' =>
      have e' : (if x'.length + y'.length ≤ big then some (PyData.str (x' ++ y')) else none) = some d := e
      split at e'
      · rename_i hl
        cases e'
        simp only [LR, DR] at ha hb; obtain ⟨q1, t, rfl⟩ := ha; obtain ⟨q2, u, rfl⟩ := hb
        refine PyProof.Rows.add_str (fun t' tk => post_tok R _ ?_) (Nat.le_trans hl big_le)
        show DR _ _ _ _
        simp only [DR]
        refine ⟨?_, _, rfl⟩
        unfold asc at *
        show List.all ((x'.cps ++ y'.cps).toList) pc = true
        rw [Array.toList_append, List.all_append, q1, q2]; rfl
      · cases e'
    | _ => cases e
  | _ => cases e
/-- on whole numbers -/
theorem W_intD {op : Operator} {f : Int → Int → Option Int} {a b d : PyData} {x y : Value} (R : Rel X ρ μ env σ s.heap) (ha : LR s.heap (okOf ρ μ) a x) (hb : LR s.heap (okOf ρ μ) b y) (e : intD f a b = some d)
    (hh : ∀ i j k t u, a = .int i → b = .int j → x = .int i t → y = .int j u → f i j = some k → d = .int k → wpAny (model X.prog X.w) A (binaryOp op x y) (Post X ρ μ env s VRr (.dat d) σ) (fun _ _ => False) s) : wpAny (model X.prog X.w) A (binaryOp op x y) (Post X ρ μ env s VRr (.dat d) σ) (fun _ _ => False) s := by
  cases a with
  | int i => cases b with
    | int j =>
      have e' : (f i j).map PyData.int = some d := e
      cases hf : f i j with
      | none => rw [hf] at e'; cases e'
      | some k =>
        rw [hf] at e'
        cases e'
        simp only [LR, DR] at ha hb; obtain ⟨t, rfl⟩ := ha; obtain ⟨u, rfl⟩ := hb
        exact hh i j k t u rfl rfl rfl rfl hf rfl
    | _ => cases e
  | _ => cases e
theorem W_binD {op : Operator} {a b d : PyData} {x y : Value} (R : Rel X ρ μ env σ s.heap) (ha : LR s.heap (okOf ρ μ) a x) (hb : LR s.heap (okOf ρ μ) b y) (e : binD op a b = some d) : wpAny (model X.prog X.w) A (binaryOp op x y) (Post X ρ μ env s VRr (.dat d) σ) (fun _ _ => False) s := by
  cases op with
  | Add => exact W_addD R ha hb e
  | Sub =>
    refine W_intD R ha hb e fun i j k t u _ _ hx hy hf hd => ?_
    subst hx hy hd
    cases hf
    exact PyProof.Rows.sub_int' (post_tok R _ (by show DR _ _ _ _; simp only [DR]; exact ⟨_, rfl⟩))
  | Mult =>
    refine W_intD R ha hb e fun i j k t u _ _ hx hy hf hd => ?_
    subst hx hy hd
    unfold mulI at hf
    split at hf
    · rename_i hl
      cases hf
      exact PyProof.Rows.mul_int (post_tok R _ (by show DR _ _ _ _; simp only [DR]; exact ⟨_, rfl⟩)) (IntMulOk.of_left (intBits_le_64 (by omega) (by omega)))
    · cases hf
  | FloorDiv =>
    refine W_intD R ha hb e fun i j k t u _ _ hx hy hf hd => ?_
    subst hx hy hd
    unfold fdivI at hf
    split at hf
    · rename_i hl
      cases hf
      exact PyProof.Rows.floordiv_int hl.1 (post_tok R _ (by show DR _ _ _ _; simp only [DR]; exact ⟨_, rfl⟩)) (.inl (PyProof.noPylong_small (by omega)))
    · cases hf
  | Mod =>
    refine W_intD R ha hb e fun i j k t u _ _ hx hy hf hd => ?_
    subst hx hy hd
    unfold modI at hf
    split at hf
    · rename_i hl
      cases hf
      exact PyProof.Rows.mod_int' hl (post_tok R _ (by show DR _ _ _ _; simp only [DR]; exact ⟨_, rfl⟩))
    · cases hf
  | _ => cases e

theorem list_of_LR {xs : List PyData} {x : Value} (e : LR s.heap (okOf ρ μ) (.list xs) x) : ∃ a vs, x = .ref a ∧ s.heap.IsList a vs ∧ DRs s.heap (okOf ρ μ) xs vs.toList := by
  obtain ⟨a, o, vs, n, rfl, h2, h3, h4, h5⟩ := e
  exact ⟨a, vs, rfl, ⟨o, h2, h3, n, h4⟩, h5⟩

/-- lists laid together -/
theorem W_binL {op : Operator} {a b : PyData} {ds : List PyData} {x y : Value} (R : Rel X ρ μ env σ s.heap) (ha : LR s.heap (okOf ρ μ) a x) (hb : LR s.heap (okOf ρ μ) b y) (e : binL op a b = some ds) :
    wpAny (model X.prog X.w) A (binaryOp op x y) (FreshL X ρ μ env s ds σ) (fun _ _ => False) s := by
  unfold binL at e
  split at e <;> first | cases e | skip
  · split at e
    · cases e
      rename_i xs ys hl
      obtain ⟨a, vs, rfl, hA, hd⟩ := list_of_LR ha
      obtain ⟨b, ws, rfl, hB, hd2⟩ := list_of_LR hb
      have l1 := hd.length
      have l2 := hd2.length
      obtain ⟨⟨cls, dd, data, sl⟩, ho, hc, n, hdt⟩ := id hA
      obtain ⟨⟨cls2, dd2, data2, sl2⟩, ho2, hc2, n2, hdt2⟩ := id hB
      simp only at hc hdt hc2 hdt2
      subst hc hdt hc2 hdt2
      refine concat_meets ⟨_, ho, rfl⟩ ⟨_, ho2, rfl⟩ noFill_list_add seq_list_add PySem.F.slot_list_add PySem.F.entry_list_add (PySem.F.args_list_add_2 _ _) (PyProof.Rows.list_addW a b vs ws n n2 dd dd2 sl sl2 ?_) ⟨ho, ho2, ?_⟩
      · rw [Array.length_toList] at l1 l2
        rw [l1, l2]; exact Nat.le_trans hl big_le
      · exact FreshL.push R (by rw [Array.toList_append]; exact hd.append hd2)
    · cases e

theorem readD_state {v : V} {d : PyData} {σ σ' : St} (e : readD v σ = some (d, σ')) : σ' = σ := by
  cases v with
  | dat d' => cases e; rfl
  | obj i =>
    simp only [readD] at e
    split at e <;> cases e <;> rfl
  | rng lo hi => cases e
  | emp => cases e

theorem W_binS {op : Operator} {a b : V} {x y : Value} (R : Rel X ρ μ env σ s.heap) (ha : VR s.heap (okOf ρ μ) μ a x) (hb : VR s.heap (okOf ρ μ) μ b y) :
    W X A ρ μ env s VRr (binaryOp op x y) (binS op a b σ) := by
  intro r σ' e
  unfold binS at e
  refine mbind_elim e fun d1 σ1 e1 q => ?_
  have h1 := readD_state e1; subst h1
  refine mbind_elim q fun d2 σ2 e2 q2 => ?_
  have h2 := readD_state e2; subst h2
  have l1 := (readD_ok R ha e1).2
  have l2 := (readD_ok R hb e2).2
  cases hd : binD op d1 d2 with
  | some d =>
    rw [hd] at q2
    obtain ⟨rfl, rfl⟩ := mpure_some q2
    exact W_binD R l1 l2 hd
  | none =>
    rw [hd] at q2
    refine mbind_elim q2 fun ds σ3 e3 q3 => ?_
    obtain ⟨e4, h3⟩ := mopt_some e3
    subst h3
    obtain ⟨rfl, rfl⟩ := mpure_some q3
    exact wpAny_mono (W_binL R l1 l2 e4) (fun _ _ f => f.dat) fun _ _ z => z

theorem LR.isNone {h : Heap} {ok : Addr → Prop} : ∀ {a : PyData} {x : Value}, LR h ok a x → (x == Value.none) = (match a with | .none => true | _ => false)
  | .none, _, e => by simp only [LR, DR] at e; subst e; rfl
  | .bool _, _, e => by simp only [LR, DR] at e; subst e; rfl
  | .int _, _, e => by simp only [LR, DR] at e; obtain ⟨_, rfl⟩ := e; rfl
  | .str _, _, e => by simp only [LR, DR] at e; obtain ⟨_, _, rfl⟩ := e; rfl
  | .list _, _, e => by simp only [LR] at e; obtain ⟨_, _, _, _, rfl, _⟩ := e; rfl
  | .tuple _, _, e => by simp only [LR, DR] at e; obtain ⟨_, _, _, _, rfl, _⟩ := e; rfl
  | .dict _, _, e => by simp only [LR, DR] at e

theorem DRs.mem {h : Heap} {ok : Addr → Prop} {ds : List PyData} {vs : List Value} (e : DRs h ok ds vs) {y : Value} (hy : y ∈ vs) : ∃ d, DR h ok d y ∧ d ∈ ds := by
  obtain ⟨k, hk⟩ := List.getElem?_of_mem hy
  obtain ⟨d, h1, h2⟩ := e.getV hk
  exact ⟨d, h2, List.mem_of_getElem? h1⟩

theorem DR.unique {h : Heap} {ok : Addr → Prop} {d d' : PyData} {x : Value} (a : DR h ok d x) (b : DR h ok d' x) : d = d' := by
  obtain ⟨⟨as, r1⟩, c1⟩ := a.reads
  obtain ⟨⟨bs, r2⟩, c2⟩ := b.reads
  exact PySem.SeqAt.Reads.unique d d' x as bs c1 r1 r2

open Classical in
theorem in_any {a : PyData} {ds : List PyData} {x : Value} {vs : List Value} (hA : A.units + 60 < cLine) (hds : DRs s.heap (okOf ρ μ) ds vs) (ha : LR s.heap (okOf ρ μ) a x) (hdep : a.depth ≤ 50) :
    ∃ ef : Value → Bool, (∀ y ∈ vs, PySem.SeqAt.EqAt A.in1 s y x (ef y)) ∧ vs.any ef = ds.any fun d => PyData.eqv d a := by
  refine ⟨fun y => decide (∃ d, DR s.heap (okOf ρ μ) d y ∧ PyData.eqv d a = true), fun y hy => ?_, ?_⟩
  · obtain ⟨d, h1, _⟩ := hds.mem hy
    have : decide (∃ d, DR s.heap (okOf ρ μ) d y ∧ PyData.eqv d a = true) = PyData.eqv d a := by
      cases q : PyData.eqv d a with
      | true => exact decide_eq_true ⟨d, h1, q⟩
      | false =>
        refine decide_eq_false fun ⟨d', h2, h3⟩ => ?_
        rw [← DR.unique h1 h2, q] at h3; cases h3
    show PySem.SeqAt.EqAt A.in1 s y x (decide (∃ d, DR s.heap (okOf ρ μ) d y ∧ PyData.eqv d a = true))
    rw [this]
    obtain ⟨⟨as, r1⟩, c1⟩ := h1.reads
    obtain ⟨⟨bs, r2⟩, c2⟩ := ha.reads
    refine PySem.SeqAt.eqAt_reads d a A.in1 s y x as bs r1 r2 c1 c2 ?_
    show A.units + 1 + min d.depth a.depth < cLine
    omega
  · clear hdep ha
    induction ds generalizing vs with
    | nil => simp only [DRs] at hds; subst hds; rfl
    | cons d ds ih =>
      simp only [DRs] at hds
      obtain ⟨v, r, rfl, h1, h2⟩ := hds
      simp only [List.any_cons]
      rw [ih h2]
      congr 1
      cases q : PyData.eqv d a with
      | true => exact decide_eq_true ⟨d, h1, q⟩
      | false =>
        refine decide_eq_false fun ⟨d', h2, h3⟩ => ?_
        rw [← DR.unique h1 h2, q] at h3; cases h3

theorem W_eqD {a b : PyData} {r : Bool} {x y : Value} (hA : A.units + 60 < cLine) (R : Rel X ρ μ env σ s.heap) (ha : LR s.heap (okOf ρ μ) a x) (hb : LR s.heap (okOf ρ μ) b y) (e : eqD a b = some r) : wpAny (model X.prog X.w) A (compareOp .Eq x y) (Post X ρ μ env s VRr (.dat (.bool r)) σ) (fun _ _ => False) s := by
  have fin0 : Post X ρ μ env s VRr (.dat (.bool r)) σ (.bool r) s := post_same R (by show DR _ _ _ _; simp only [DR])
  unfold eqD at e
  split at e
  · cases e
    obtain ⟨⟨as, ra⟩, ca⟩ := ha.reads
    obtain ⟨⟨bs, rb⟩, cb⟩ := hb.reads
    exact PySem.SeqAt.compareEq_reads ra rb ca cb (by omega) fin0
  · cases e
theorem W_neD {a b : PyData} {r : Bool} {x y : Value} (hA : A.units + 60 < cLine) (R : Rel X ρ μ env σ s.heap) (ha : LR s.heap (okOf ρ μ) a x) (hb : LR s.heap (okOf ρ μ) b y) (e : neD a b = some r) : wpAny (model X.prog X.w) A (compareOp .NotEq x y) (Post X ρ μ env s VRr (.dat (.bool r)) σ) (fun _ _ => False) s := by
  have fin0 : Post X ρ μ env s VRr (.dat (.bool r)) σ (.bool r) s := post_same R (by show DR _ _ _ _; simp only [DR])
  unfold neD at e
  split at e
  · cases e
    obtain ⟨⟨as, ra⟩, ca⟩ := ha.reads
    obtain ⟨⟨bs, rb⟩, cb⟩ := hb.reads
    exact PySem.SeqAt.compareNe_reads ra rb ca cb (by omega) fin0
  · cases e
theorem W_ltD {a b : PyData} {r : Bool} {x y : Value} (R : Rel X ρ μ env σ s.heap) (ha : LR s.heap (okOf ρ μ) a x) (hb : LR s.heap (okOf ρ μ) b y) (e : ltD a b = some r) : wpAny (model X.prog X.w) A (compareOp .Lt x y) (Post X ρ μ env s VRr (.dat (.bool r)) σ) (fun _ _ => False) s := by
  have fin0 : Post X ρ μ env s VRr (.dat (.bool r)) σ (.bool r) s := post_same R (by show DR _ _ _ _; simp only [DR])
  cases a with
  | int i => cases b with
    | int j => cases e; simp only [LR, DR] at ha hb; obtain ⟨t, rfl⟩ := ha; obtain ⟨u, rfl⟩ := hb; exact PyProof.Rows.lt_int fin0
    | _ => cases e
  | str i => cases b with
    | str j => cases e; simp only [LR, DR] at ha hb; obtain ⟨_, t, rfl⟩ := ha; obtain ⟨_, u, rfl⟩ := hb; exact PyProof.Rows.lt_str fin0
    | _ => cases e
  | _ => cases e
theorem W_leD {a b : PyData} {r : Bool} {x y : Value} (R : Rel X ρ μ env σ s.heap) (ha : LR s.heap (okOf ρ μ) a x) (hb : LR s.heap (okOf ρ μ) b y) (e : leD a b = some r) : wpAny (model X.prog X.w) A (compareOp .LtE x y) (Post X ρ μ env s VRr (.dat (.bool r)) σ) (fun _ _ => False) s := by
  have fin0 : Post X ρ μ env s VRr (.dat (.bool r)) σ (.bool r) s := post_same R (by show DR _ _ _ _; simp only [DR])
  cases a with
  | int i => cases b with
    | int j => cases e; simp only [LR, DR] at ha hb; obtain ⟨t, rfl⟩ := ha; obtain ⟨u, rfl⟩ := hb; exact PyProof.Rows.le_int fin0
    | _ => cases e
  | str i => cases b with
    | str j => cases e; simp only [LR, DR] at ha hb; obtain ⟨_, t, rfl⟩ := ha; obtain ⟨_, u, rfl⟩ := hb; exact PySem.P.le_str fin0
    | _ => cases e
  | _ => cases e
theorem W_gtD {a b : PyData} {r : Bool} {x y : Value} (R : Rel X ρ μ env σ s.heap) (ha : LR s.heap (okOf ρ μ) a x) (hb : LR s.heap (okOf ρ μ) b y) (e : gtD a b = some r) : wpAny (model X.prog X.w) A (compareOp .Gt x y) (Post X ρ μ env s VRr (.dat (.bool r)) σ) (fun _ _ => False) s := by
  have fin0 : Post X ρ μ env s VRr (.dat (.bool r)) σ (.bool r) s := post_same R (by show DR _ _ _ _; simp only [DR])
  cases a with
  | int i => cases b with
    | int j => cases e; simp only [LR, DR] at ha hb; obtain ⟨t, rfl⟩ := ha; obtain ⟨u, rfl⟩ := hb; exact PyProof.Rows.gt_int fin0
    | _ => cases e
  | str i => cases b with
    | str j => cases e; simp only [LR, DR] at ha hb; obtain ⟨_, t, rfl⟩ := ha; obtain ⟨_, u, rfl⟩ := hb; exact PySem.P.gt_str fin0
    | _ => cases e
  | _ => cases e
theorem W_geD {a b : PyData} {r : Bool} {x y : Value} (R : Rel X ρ μ env σ s.heap) (ha : LR s.heap (okOf ρ μ) a x) (hb : LR s.heap (okOf ρ μ) b y) (e : geD a b = some r) : wpAny (model X.prog X.w) A (compareOp .GtE x y) (Post X ρ μ env s VRr (.dat (.bool r)) σ) (fun _ _ => False) s := by
  have fin0 : Post X ρ μ env s VRr (.dat (.bool r)) σ (.bool r) s := post_same R (by show DR _ _ _ _; simp only [DR])
  cases a with
  | int i => cases b with
    | int j => cases e; simp only [LR, DR] at ha hb; obtain ⟨t, rfl⟩ := ha; obtain ⟨u, rfl⟩ := hb; exact PyProof.Rows.ge_int fin0
    | _ => cases e
  | str i => cases b with
    | str j => cases e; simp only [LR, DR] at ha hb; obtain ⟨_, t, rfl⟩ := ha; obtain ⟨_, u, rfl⟩ := hb; exact PySem.P.ge_str fin0
    | _ => cases e
  | _ => cases e
theorem W_inDS {x' y' : Str} {r : Bool} {x y : Value} (R : Rel X ρ μ env σ s.heap) (ha : LR s.heap (okOf ρ μ) (.str x') x) (hb : LR s.heap (okOf ρ μ) (.str y') y) (e : inStr x' y' id = some r) : wpAny (model X.prog X.w) A (compareOp .In x y) (Post X ρ μ env s VRr (.dat (.bool r)) σ) (fun _ _ => False) s := by
  have fin0 : Post X ρ μ env s VRr (.dat (.bool r)) σ (.bool r) s := post_same R (by show DR _ _ _ _; simp only [DR])
  unfold inStr at e
  split at e
  · rename_i c hc
    cases e
    simp only [LR, DR] at ha hb; obtain ⟨_, t, rfl⟩ := ha; obtain ⟨_, u, rfl⟩ := hb
    refine PyProof.Rows.in_str ?_
    have : x' = ⟨#[c]⟩ := by
      cases x' with | mk a => exact congrArg Str.mk (Array.toList_inj.mp (by simpa using hc))
    rw [this, StrLaws.found_one]
    exact fin0
  · cases e
theorem W_inDL {a : PyData} {ds : List PyData} {r : Bool} {x y : Value} (hA : A.units + 60 < cLine) (R : Rel X ρ μ env σ s.heap) (ha : LR s.heap (okOf ρ μ) a x) (hb : LR s.heap (okOf ρ μ) (.list ds) y) (e : inLst a ds id = some r) : wpAny (model X.prog X.w) A (compareOp .In x y) (Post X ρ μ env s VRr (.dat (.bool r)) σ) (fun _ _ => False) s := by
  have fin0 : Post X ρ μ env s VRr (.dat (.bool r)) σ (.bool r) s := post_same R (by show DR _ _ _ _; simp only [DR])
  unfold inLst at e
  split at e
  · rename_i hdep
    cases e
    obtain ⟨l, vs, rfl, hL, hds⟩ := list_of_LR hb
    obtain ⟨ef, h1, h2⟩ := in_any hA hds ha hdep
    refine PySem.SeqAt.in_listAt ef hL (fun y hy => h1 y (Array.mem_toList_iff.mpr hy)) ?_
    rw [← Array.any_toList, h2]; exact fin0
  · cases e
theorem W_inD {a b : PyData} {r : Bool} {x y : Value} (hA : A.units + 60 < cLine) (R : Rel X ρ μ env σ s.heap) (ha : LR s.heap (okOf ρ μ) a x) (hb : LR s.heap (okOf ρ μ) b y) (e : inD id a b = some r) : wpAny (model X.prog X.w) A (compareOp .In x y) (Post X ρ μ env s VRr (.dat (.bool r)) σ) (fun _ _ => False) s := by
  cases b with
  | str y' => cases a with
    | str x' => exact W_inDS R ha hb e
    | _ => cases e
  | list ds => exact W_inDL hA R ha hb (by cases a <;> exact e)
  | _ => cases a <;> cases e
theorem W_notInDS {x' y' : Str} {r : Bool} {x y : Value} (R : Rel X ρ μ env σ s.heap) (ha : LR s.heap (okOf ρ μ) (.str x') x) (hb : LR s.heap (okOf ρ μ) (.str y') y) (e : inStr x' y' not = some r) : wpAny (model X.prog X.w) A (compareOp .NotIn x y) (Post X ρ μ env s VRr (.dat (.bool r)) σ) (fun _ _ => False) s := by
  have fin0 : Post X ρ μ env s VRr (.dat (.bool r)) σ (.bool r) s := post_same R (by show DR _ _ _ _; simp only [DR])
  unfold inStr at e
  split at e
  · rename_i c hc
    cases e
    simp only [LR, DR] at ha hb; obtain ⟨_, t, rfl⟩ := ha; obtain ⟨_, u, rfl⟩ := hb
    refine PyProof.Rows.notIn_str ?_
    have : x' = ⟨#[c]⟩ := by
      cases x' with | mk a => exact congrArg Str.mk (Array.toList_inj.mp (by simpa using hc))
    rw [this, StrLaws.found_one]
    exact fin0
  · cases e
theorem W_notInDL {a : PyData} {ds : List PyData} {r : Bool} {x y : Value} (hA : A.units + 60 < cLine) (R : Rel X ρ μ env σ s.heap) (ha : LR s.heap (okOf ρ μ) a x) (hb : LR s.heap (okOf ρ μ) (.list ds) y) (e : inLst a ds not = some r) : wpAny (model X.prog X.w) A (compareOp .NotIn x y) (Post X ρ μ env s VRr (.dat (.bool r)) σ) (fun _ _ => False) s := by
  have fin0 : Post X ρ μ env s VRr (.dat (.bool r)) σ (.bool r) s := post_same R (by show DR _ _ _ _; simp only [DR])
  unfold inLst at e
  split at e
  · rename_i hdep
    cases e
    obtain ⟨l, vs, rfl, hL, hds⟩ := list_of_LR hb
    obtain ⟨ef, h1, h2⟩ := in_any hA hds ha hdep
    refine PySem.SeqAt.notIn_listAt ef hL (fun y hy => h1 y (Array.mem_toList_iff.mpr hy)) ?_
    rw [← Array.any_toList, h2]; exact fin0
  · cases e
theorem W_notInD {a b : PyData} {r : Bool} {x y : Value} (hA : A.units + 60 < cLine) (R : Rel X ρ μ env σ s.heap) (ha : LR s.heap (okOf ρ μ) a x) (hb : LR s.heap (okOf ρ μ) b y) (e : inD not a b = some r) : wpAny (model X.prog X.w) A (compareOp .NotIn x y) (Post X ρ μ env s VRr (.dat (.bool r)) σ) (fun _ _ => False) s := by
  cases b with
  | str y' => cases a with
    | str x' => exact W_notInDS R ha hb e
    | _ => cases e
  | list ds => exact W_notInDL hA R ha hb (by cases a <;> exact e)
  | _ => cases a <;> cases e
theorem W_isD {a b : PyData} {r : Bool} {x y : Value} (R : Rel X ρ μ env σ s.heap) (ha : LR s.heap (okOf ρ μ) a x) (hb : LR s.heap (okOf ρ μ) b y) (e : isD id a b = some r) : wpAny (model X.prog X.w) A (compareOp .Is x y) (Post X ρ μ env s VRr (.dat (.bool r)) σ) (fun _ _ => False) s := by
  have fin0 : Post X ρ μ env s VRr (.dat (.bool r)) σ (.bool r) s := post_same R (by show DR _ _ _ _; simp only [DR])
  cases b with
  | none =>
    cases e
    simp only [LR, DR] at hb; subst hb
    refine is_none ?_
    rw [ha.isNone]
    cases a <;> exact fin0
  | _ => cases e
theorem W_isNotD {a b : PyData} {r : Bool} {x y : Value} (R : Rel X ρ μ env σ s.heap) (ha : LR s.heap (okOf ρ μ) a x) (hb : LR s.heap (okOf ρ μ) b y) (e : isD not a b = some r) : wpAny (model X.prog X.w) A (compareOp .IsNot x y) (Post X ρ μ env s VRr (.dat (.bool r)) σ) (fun _ _ => False) s := by
  have fin0 : Post X ρ μ env s VRr (.dat (.bool r)) σ (.bool r) s := post_same R (by show DR _ _ _ _; simp only [DR])
  cases b with
  | none =>
    cases e
    simp only [LR, DR] at hb; subst hb
    refine isNot_none ?_
    rw [ha.isNone]
    cases a <;> exact fin0
  | _ => cases e
theorem W_cmpD {op : CmpOp} {a b : PyData} {r : Bool} {x y : Value} (hA : A.units + 60 < cLine) (R : Rel X ρ μ env σ s.heap) (ha : LR s.heap (okOf ρ μ) a x) (hb : LR s.heap (okOf ρ μ) b y) (e : cmpD op a b = some r) : wpAny (model X.prog X.w) A (compareOp op x y) (Post X ρ μ env s VRr (.dat (.bool r)) σ) (fun _ _ => False) s := by
  cases op with
  | Eq => exact W_eqD hA R ha hb e
  | NotEq => exact W_neD hA R ha hb e
  | Lt => exact W_ltD R ha hb e
  | LtE => exact W_leD R ha hb e
  | Gt => exact W_gtD R ha hb e
  | GtE => exact W_geD R ha hb e
  | In => exact W_inD hA R ha hb e
  | NotIn => exact W_notInD hA R ha hb e
  | Is => exact W_isD R ha hb e
  | IsNot => exact W_isNotD R ha hb e

end
end Mine
end

section
open PySem
set_option Elab.async false
namespace Mine

noncomputable def Tr {α β : Type} (X : Cx) (n : Nat) (env : Env) (RV : RVt α β) (t : Sem α) (m : M β) : Prop :=
  ∀ A ρ μ σ s, Ga n A → Rel X ρ μ env σ s.heap → W X A ρ μ env s RV t (m σ)

noncomputable def Ev (X : Cx) (n : Nat) (env : Env) (e : Expr) (m : M V) : Prop := Tr X n env VRr (eval e env) m
noncomputable def Te (X : Cx) (n : Nat) (env : Env) (e : Expr) (m : M Bool) : Prop := Tr X n env EqR (isTrue e env (eval e env)) m

noncomputable def VRl (h : Heap) (ok : Addr → Prop) (μ : Mu) : List V → List Value → Prop
  | [], xs => xs = []
  | v :: vs, xs => ∃ x r, xs = x :: r ∧ VR h ok μ v x ∧ VRl h ok μ vs r
noncomputable def VRs : RVt (List Value) (List V) := fun h ok μ vs xs => VRl h ok μ vs xs

theorem VRl.mono {h h' : Heap} {ok ok' : Addr → Prop} {μ μ' : Mu} (p : ∀ i a, root μ i = some a → root μ' i = some a) (k : ∀ a o, ok a → h.get? a = some o → h'.get? a = some o ∧ ok' a) :
    ∀ {vs : List V} {xs : List Value}, VRl h ok μ vs xs → VRl h' ok' μ' vs xs
  | [], _, e => e
  | _ :: _, _, e => by obtain ⟨x, r, rfl, h1, h2⟩ := e; exact ⟨x, r, rfl, h1.mono p k, h2.mono p k⟩
theorem VRl.dats {h : Heap} {ok : Addr → Prop} {μ : Mu} : ∀ {vs : List V} {xs : List Value} {ds : List PyData}, VRl h ok μ vs xs → allDat vs = some ds → DRs h ok ds xs
  | [], _, _, e, q => by cases q; simp only [DRs]; exact e
  | .dat d :: vs, _, _, e, q => by
    obtain ⟨x, r, rfl, h1, h2⟩ := e
    simp only [allDat] at q
    obtain ⟨ds', q1, rfl⟩ := Option.map_eq_some_iff.mp q
    simp only [DRs]
    exact ⟨x, r, rfl, h1, h2.dats q1⟩
  | .obj _ :: _, _, _, _, q => by cases q
  | .rng _ _ :: _, _, _, _, q => by cases q
  | .emp :: _, _, _, _, q => by cases q
theorem VRl.length {h : Heap} {ok : Addr → Prop} {μ : Mu} : ∀ {vs : List V} {xs : List Value}, VRl h ok μ vs xs → xs.length = vs.length
  | [], _, e => by rw [show _ = [] from e]; rfl
  | _ :: _, _, e => by obtain ⟨x, r, rfl, _, h2⟩ := e; simp [h2.length]

section
variable {X : Cx} {n : Nat} {env : Env}

/-! truth -/
theorem W_truthS {A : Around} {ρ : List Addr} {μ : Mu} {σ : St} {s : Shared} {v : V} {x : Value} (R : Rel X ρ μ env σ s.heap) (hv : VR s.heap (okOf ρ μ) μ v x) :
    W X A ρ μ env s EqR (truthy x) (truthS v σ) := by
  intro b σ' e
  unfold truthS at e
  refine mbind_elim e fun d σ1 e1 q => ?_
  have h1 := readD_state e1; subst h1
  obtain ⟨e2, h2⟩ := mopt_some q
  subst h2
  have l1 := (readD_ok R hv e1).2
  have fin : ∀ tk, Post X ρ μ env s EqR b σ' b { s with toks := tk } := fun tk => post_tok R tk rfl
  have fin0 : Post X ρ μ env s EqR b σ' b s := post_same R rfl
  unfold truthD at e2
  split at e2
  · cases e2; simp only [LR, DR] at l1; subst l1; exact PyProof.Rows.truthy_none fin0
  · cases e2; simp only [LR, DR] at l1; subst l1; exact wpAny_truthy_bool fin0
  · cases e2; simp only [LR, DR] at l1; obtain ⟨t, rfl⟩ := l1; exact PyProof.Rows.truthy_int fin0
  · split at e2
    · rename_i hl
      cases e2; simp only [LR, DR] at l1; obtain ⟨_, t, rfl⟩ := l1
      rename_i y _
      have : ((y.length : Int) != 0) = (y.length != 0) := by
        rw [Bool.eq_iff_iff]; simp only [bne_iff_ne, ne_eq]; omega
      refine PySem.P.truthy_str (by unfold big at hl; omega) ?_
      rw [this]; exact fin _
    · cases e2
  · split at e2
    · rename_i hl
      cases e2
      obtain ⟨a, vs, rfl, hL, hd⟩ := list_of_LR l1
      have ln := hd.length
      rw [Array.length_toList] at ln
      refine wpAny_truthy_list hL (by unfold big at hl; omega) ?_
      rename_i ds
      have : (!vs.isEmpty) = (ds.length != 0) := by
        rw [Bool.eq_iff_iff]; simp only [Array.isEmpty, bne_iff_ne, ne_eq, Bool.not_eq_true', decide_eq_false_iff_not]; omega
      rw [this]; exact fin _
    · cases e2
  · cases e2

/-! nodes -/
theorem Ev_Constant {c : Const} {k : Nat} {pos : Pos} : Ev X n env (.Constant c k pos) (constS c) := by
  intro A ρ μ σ s ga R v σ' e
  cases c with
  | none => cases e; exact wpAny_Constant_none (post_same R (by show DR _ _ _ _; simp only [DR]))
  | bool b => cases e; exact wpAny_Constant_bool (post_same R (by show DR _ _ _ _; simp only [DR]))
  | int i => cases e; exact wpAny_Constant_int (post_tok R _ (by show DR _ _ _ _; simp only [DR]; exact ⟨_, rfl⟩))
  | str x =>
    simp only [constS] at e
    split at e
    · rename_i h; cases e; exact wpAny_Constant_str (post_tok R _ (by show DR _ _ _ _; simp only [DR]; exact ⟨h, _, rfl⟩))
    · cases e
  | _ => cases e

theorem dbg_false {x : Str} (h : x ≠ dbg) : (x == ("__debug__" : Str)) = false := by
  rw [Bool.eq_false_iff]; intro q; exact h (beq_iff_eq.mp q)

theorem valOf_load {A : Around} {h : Heap} {m cm : Str → Option Value} {x : Str} {val : Value} {s : Shared} {Q : Value → Shared → Prop} (F : FrameR env s.heap m cm) (e : valOf env m cm x = some val) (q : Q val s) :
    wpAny (model X.prog X.w) A (loadName env x) Q (fun _ _ => False) s := by
  unfold valOf at e
  split at e
  · rename_i hk; exact wpAny_loadName_local F.kind hk F.ns e q
  · rename_i hk
    split at e
    · rename_i hc
      obtain ⟨c, hc⟩ := Option.isSome_iff_exists.mp hc
      exact wpAny_loadName_cell F.kind hk hc (e ▸ F.cell x c hc) q
    · cases e
  · cases e

theorem Ev_Name {x : Str} {pos : Pos} : Ev X n env (.Name x pos) (nameS x) := by
  intro A ρ μ σ s ga R v σ' e
  unfold nameS at e
  split at e
  · rename_i h
    subst h
    cases e
    show wpAny _ _ (eval (.Name (Str.ofString "__debug__") pos) env) _ _ _
    rw [arm_eval_Name]
    refine wpAny_bind (wpAny_standAt ?_)
    rw [if_pos (by decide)]
    exact wpAny_bind (wpAny_rule (wpAny_pure (post_same R (by show DR _ _ _ _; simp only [DR]))))
  · rename_i h
    unfold getLoc at e
    obtain ⟨v', h1, h2⟩ := Option.map_eq_some_iff.mp e
    cases h2
    obtain ⟨m, cm, F, l⟩ := R.frame
    obtain ⟨val, q1, q2⟩ := l x v h1
    refine wpAny_Name ?_ (dbg_false h)
    exact valOf_load (h := s.heap) F q1 (post_same R q2)

theorem Ev_BinOp {l r : Expr} {op : Operator} {pos : Pos} {ml mr : M V} (hl : Ev X n env l ml) (hr : Ev X n env r mr) :
    Ev X n env (.BinOp l op r pos) (do let a ← ml; let b ← mr; binS op a b) := by
  intro A ρ μ σ s ga R
  rw [arm_eval_BinOp]
  refine W_bind (hl A ρ μ σ s ga R) fun μ₁ s₁ a σ₁ x st₁ R₁ v₁ => W_bind (W_holding (hr A ρ μ₁ σ₁ s₁ ga R₁)) fun μ₂ s₂ b σ₂ y st₂ R₂ v₂ => W_standAt (W_operate (W_binS R₂ (VR.step R₁ st₂ v₁) v₂))

theorem W_cond {α β : Type} {A : Around} {ρ : List Addr} {μ : Mu} {σ : St} {s : Shared} {RV : RVt α β} {c : Bool} {t u : Sem α} {m k : M β} (h1 : c = true → W X A ρ μ env s RV t (m σ)) (h2 : c = false → W X A ρ μ env s RV u (k σ)) :
    W X A ρ μ env s RV (if c = true then t else u) ((bif c then m else k) σ) := by
  cases c with
  | true => exact h1 rfl
  | false => exact h2 rfl

theorem Ev_IfExp {t b o : Expr} {pos : Pos} {mt : M Bool} {mb mo : M V} (ht : Te X n env t mt) (hb : Ev X n env b mb) (ho : Ev X n env o mo) :
    Ev X n env (.IfExp t b o pos) (do let c ← mt; bif c then mb else mo) := by
  intro A ρ μ σ s ga R
  rw [arm_eval_IfExp]
  refine W_bind (ht A ρ μ σ s ga R) fun μ₁ s₁ c σ₁ x st₁ R₁ v₁ => ?_
  have : x = c := v₁
  subst this
  exact W_cond (fun _ => hb A ρ μ₁ σ₁ s₁ ga R₁) fun _ => ho A ρ μ₁ σ₁ s₁ ga R₁

/-- many -/
inductive EvL (X : Cx) (n : Nat) (env : Env) : List Expr → List (M V) → Prop
  | nil : EvL X n env [] []
  | cons {e : Expr} {es : List Expr} {m : M V} {ms : List (M V)} : Ev X n env e m → EvL X n env es ms → EvL X n env (e :: es) (m :: ms)

noncomputable def noStar : Expr → Bool
  | .Starred .. => false
  | _ => true
theorem starEach_cons {e : Expr} {es : List Expr} (h : noStar e = true) : starEach (e :: es) env = (false, eval e env) :: starEach es env := by
  cases e <;> first | rfl | cases h

theorem Tr_spliced {pos : Pos} : ∀ {es : List Expr} {ms : List (M V)}, EvL X n env es ms → es.all noStar = true → Tr X n env VRs (spliced (backTo pos (starEach es env))) (seqS ms)
  | [], _, .nil, _ => fun A ρ μ σ s ga R => W_pure R rfl
  | e :: es, _, .cons (m := m) (ms := ms) h hs, hst => by
    intro A ρ μ σ s ga R
    rw [List.all_cons, Bool.and_eq_true] at hst
    have ih := Tr_spliced (pos := pos) hs hst.2
    rw [starEach_cons hst.1]
    show W X A ρ μ env s VRs (eval e env >>= fun v => (pure [v] : Sem (List Value)) >>= fun here => holding here (spliced (backTo pos (starEach es env))) >>= fun r => pure (here ++ r)) _
    refine W_bind (h A ρ μ σ s ga R) fun μ₁ s₁ a σ₁ x st₁ R₁ v₁ => ?_
    refine W_conc (t' := holding [x] (spliced (backTo pos (starEach es env))) >>= fun r => pure ([x] ++ r)) ?_ fun Q q => wpAny_bind (wpAny_pure q)
    refine W_bind (W_holding (ih A ρ μ₁ σ₁ s₁ ga R₁)) fun μ₂ s₂ vs σ₂ xs st₂ R₂ v₂ => W_pure R₂ ?_
    exact ⟨x, xs, rfl, VR.step R₁ st₂ v₁, v₂⟩

/-- the items of a display: data alone -/
theorem W_listS {A : Around} {ρ : List Addr} {μ : Mu} {σ : St} {s : Shared} {P : Prm} {pos : Pos} {es : List Expr} {ms : List (M V)} (h : EvL X n env es ms) (hst : es.all noStar = true) (ga : Ga n A) (R : Rel X ρ μ env σ s.heap) {ds : List PyData} {σ' : St}
    (e : listS P ms σ = some (ds, σ')) : wpAny (model X.prog X.w) A (spliced (backTo pos (starEach es env)))
      (fun xs s' => ∃ μ', Step (wrt env) μ μ' s s' ∧ Rel X ρ μ' env σ' s'.heap ∧ DRs s'.heap (okOf ρ μ') ds xs ∧ xs.length ≤ sizeLine) (fun _ _ => False) s := by
  unfold listS at e
  refine mbind_elim e fun vs σ1 e1 q => ?_
  refine mbind_elim q fun ds' σ2 e2 q2 => ?_
  obtain ⟨e3, h2⟩ := mopt_some e2
  subst h2
  refine mbind_elim q2 fun u σ3 e4 q4 => ?_
  unfold mguard at e4
  split at e4
  · rename_i hl
    cases e4; cases q4
    refine wpAny_mono (Tr_spliced h hst A ρ μ σ s ga R vs _ e1) (fun xs s' z => ?_) fun _ _ z => z
    first | refine post_elim z fun μ' st R' rv => ?_ | obtain ⟨μ', st, R', rv⟩ := z
    have hd := VRl.dats rv e3
    refine ⟨μ', st, R', hd, ?_⟩
    rw [hd.length]
    exact Nat.le_trans (of_decide_eq_true hl) big_le
  · cases e4

theorem Fl_List {A : Around} {ρ : List Addr} {μ : Mu} {σ : St} {s : Shared} {P : Prm} {pos : Pos} {es : List Expr} {ms : List (M V)} (h : EvL X n env es ms) (hst : es.all noStar = true) (ga : Ga n A) (R : Rel X ρ μ env σ s.heap) {ds : List PyData} {σ' : St}
    (e : listS P ms σ = some (ds, σ')) : wpAny (model X.prog X.w) A (eval (.List es pos) env) (FreshL X ρ μ env s ds σ') (fun _ _ => False) s := by
  refine wpAny_List (wpAny_mono (W_listS h hst ga R e) (fun xs s' z => ?_) fun _ _ z => z)
  obtain ⟨μ', st, R', hd, hl⟩ := z
  exact ⟨hl, (FreshL.push R' (by simpa using hd)).trans st⟩

theorem Ev_List {P : Prm} {pos : Pos} {es : List Expr} {ms : List (M V)} (h : EvL X n env es ms) (hst : es.all noStar = true) : Ev X n env (.List es pos) (do let ds ← listS P ms; mpure (.dat (.list ds))) := by
  intro A ρ μ σ s ga R v σ' e
  refine mbind_elim e fun ds σ1 e1 q => ?_
  cases q
  exact wpAny_mono (Fl_List h hst ga R e1) (fun _ _ f => f.dat) fun _ _ z => z

theorem Ev_Tuple {P : Prm} {pos : Pos} {k : Nat} {es : List Expr} {ms : List (M V)} (h : EvL X n env es ms) (hst : es.all noStar = true) : Ev X n env (.Tuple es k pos) (do let ds ← listS P ms; mpure (.dat (.tuple ds))) := by
  intro A ρ μ σ s ga R v σ' e
  refine mbind_elim e fun ds σ1 e1 q => ?_
  cases q
  refine wpAny_Tuple (wpAny_mono (W_listS h hst ga R e1) (fun xs s' z => ?_) fun _ _ z => z)
  obtain ⟨μ', st, R', hd, hl⟩ := z
  refine ⟨hl, μ', st.trans (.grow fun _ _ e => Heap.get?_push_of_some _ e), R'.ext fun _ _ e => Heap.get?_push_of_some _ e, ?_⟩
  show DR _ _ _ _
  simp only [DR]
  exact ⟨_, _, _, _, rfl, R'.okNew (fresh_size _), Heap.get?_push_size _ rfl, rfl, rfl, by simpa using DRs.mono (fun a o ok e => ⟨Heap.get?_push_of_some _ e, ok⟩) hd⟩

end
end Mine
end

section
open PySem
set_option Elab.async false
namespace Mine

/-- a method of the class that is a plain def -/
noncomputable def mth (X : Cx) (name : Str) : Option Addr := match W.findIn X.K (.ref X.C) name with
  | some (some (.ref f)) => if W.isFn X.K (.ref f) && W.fnIn X.K f then some f else none
  | _ => none

theorem mth_find {X : Cx} {name : Str} {f : Addr} (e : mth X name = some f) : W.findIn X.K (.ref X.C) name = some (some (.ref f)) ∧ W.isFn X.K (.ref f) = true ∧ W.fnIn X.K f = true := by
  unfold mth at e
  split at e
  · rename_i f' h
    split at e
    · rename_i hb
      rw [Bool.and_eq_true] at hb
      cases e; exact ⟨h, hb.1, hb.2⟩
    · cases e
  · cases e

noncomputable def bltNames : List Str := [Str.ofString "len", Str.ofString "str", Str.ofString "range", Str.ofString "list", Str.ofString "int", Str.ofString "sorted", Str.ofString "zip", Str.ofString "sum", Str.ofString "min", Str.ofString "max", Str.ofString "ord", Str.ofString "chr", Str.ofString "reversed", Str.ofString "type"]

structure CxOk (X : Cx) : Prop where
  kin : X.K.In X.base
  g : X.base.Ns mainGlobals X.mg
  b : X.base.Ns builtinsNs X.mb
  blt : ∀ x : Str, x ≠ "__name__" → X.mb x = bootBuiltins x
  nolimit : X.base.NoLimit
  ga : W.findIn X.K (.ref X.C) "__getattribute__" = some (some (.builtin "object.__getattribute__"))
  noga : W.findIn X.K (.ref X.C) "__getattr__" = some none
  noSeq : W.noSeq X.K X.C = true
  noG : ∀ x ∈ bltNames, X.mg x = none
  sa : W.findIn X.K (.ref X.C) "__setattr__" = some (some (.builtin "object.__setattr__"))
  po : W.plainOver X.K X.C = true
  hd : W.findIn X.K (.ref X.C) hdrKey = some none
  hasD : (W.clsIn X.K X.C).any (·.hasDict) = true
  keep : W.keepIn X.K (.ref X.C) = true

noncomputable def VRk (h : Heap) (ok : Addr → Prop) (μ : Mu) : List (Str × V) → List (Str × Value) → Prop
  | [], xs => xs = []
  | (k, v) :: vs, xs => ∃ x r, xs = (k, x) :: r ∧ VR h ok μ v x ∧ VRk h ok μ vs r
structure PrmOk (X : Cx) (n : Nat) (P : Prm) : Prop where
  mt : ∀ name f, mth X name = some f → ∀ env A ρ μ σ s self x vs xs ks kx, Ga n A → Rel X ρ μ env σ s.heap → VR s.heap (okOf ρ μ) μ self x → VRl s.heap (okOf ρ μ) μ vs xs → VRk s.heap (okOf ρ μ) μ ks kx →
    W X A ρ μ env s VRr (call (.ref f) (x :: xs) kx) (P.mt name self vs ks σ)
  mtNo : ∀ name, mth X name = none → ∀ σ self vs ks, P.mt name self vs ks σ = none
  mtHdr : ∀ σ self vs ks, P.mt hdrKey self vs ks σ = none
  fn : ∀ name vs σ r, P.fn name vs σ = some r → ∃ a o fd, X.mg name = some (.ref a) ∧ X.base.get? a = some o ∧ o.data = .func fd ∧
    ∀ env A ρ μ s xs, Ga n A → Rel X ρ μ env σ s.heap → VRl s.heap (okOf ρ μ) μ vs xs → W X A ρ μ env s VRr (call (.ref a) xs []) (P.fn name vs σ)
  make : X.mg (Str.ofString "Headers") = some (.ref X.C) ∧ ∀ env A ρ μ σ s vs xs, Ga n A → Rel X ρ μ env σ s.heap → VRl s.heap (okOf ρ μ) μ vs xs → W X A ρ μ env s VRr (call (.ref X.C) xs []) (P.make vs σ)

section
variable {X : Cx} {n : Nat} {env : Env} {P : Prm} {A : Around} {ρ : List Addr} {μ : Mu} {σ : St} {s : Shared}

theorem Rel.kin (R : Rel X ρ μ env σ s.heap) (ok : CxOk X) : X.K.In s.heap := ok.kin.keeps R.base

theorem inst_at (R : Rel X ρ μ env σ s.heap) {i : Nat} {l : Option Nat} {x : Value} (hv : VR s.heap (okOf ρ μ) μ (.obj i) x) (hi : σ.heap[i]? = some (.inst l)) :
    ∃ a d od, x = .ref a ∧ root μ i = some a ∧ W.InstAt s.heap a (W.instObj X.C d) X.C (some od) ∧ s.heap.get? d = some od ∧ (match l with
      | none => od = W.emptyDict
      | some k => ∃ al t n, root μ k = some al ∧ od = instDict X.w.params t n al) := by
  obtain ⟨a, h1, rfl⟩ := hv
  obtain ⟨p, h2, h3⟩ := R.objs i _ hi
  obtain ⟨d, h4, h5, h6⟩ := h3
  rw [root_some h2] at h1
  cases h1
  cases l with
  | none => exact ⟨_, d, _, rfl, root_some h2, ⟨h5, rfl, rfl, h6⟩, h6, rfl⟩
  | some k =>
    obtain ⟨al, t, n, h7, h8⟩ := h6
    exact ⟨_, d, _, rfl, root_some h2, ⟨h5, rfl, rfl, h8⟩, h8, al, t, n, h7, rfl⟩

theorem isInst_obj {v : V} (h : isInst v σ = true) : ∃ i l, v = .obj i ∧ σ.heap[i]? = some (.inst l) := by
  cases v with
  | obj i =>
    simp only [isInst] at h
    split at h
    · rename_i l e; exact ⟨i, l, rfl, e⟩
    · cases h
  | _ => cases h

/-- comparisons -/
theorem W_cmpS (ok : CxOk X) (pok : PrmOk X n P) (ga : Ga (n + 1) A) {op : CmpOp} {a b : V} {x y : Value} (R : Rel X ρ μ env σ s.heap) (ha : VR s.heap (okOf ρ μ) μ a x) (hb : VR s.heap (okOf ρ μ) μ b y) :
    W X A ρ μ env s VRr (compareOp op x y) (cmpS P op a b σ) := by
  intro r σ' e
  unfold cmpS at e
  split at e
  · rename_i hi
    obtain ⟨i, l, rfl, hi'⟩ := isInst_obj hi
    obtain ⟨a', d, od, rfl, hr, I, hd, _⟩ := inst_at R hb hi'
    split at e
    · refine mbind_elim e fun rv σ1 e1 q => ?_
      refine mbind_elim q fun t σ2 e2 q2 => ?_
      cases q2
      cases hm : mth X (Str.ofString "__contains__") with
      | none => rw [pok.mtNo _ hm] at e1; cases e1
      | some f =>
        obtain ⟨hf, hfn, _⟩ := mth_find hm
        obtain ⟨m, F⟩ := R.fr
        refine W.in_K F ok.kin I hf hfn ?_
        refine wpAny_mono (pok.mt _ f hm env A ρ μ σ s (.obj i) (.ref a') [a] [x] [] [] (ga.less (Nat.le_succ _)) R hb ⟨x, [], rfl, ha, rfl⟩ rfl rv σ1 e1) (fun z s' h => ?_) fun _ _ h => h
        obtain ⟨μ', st, R', v'⟩ := h
        refine wpAny_mono (W_truthS R' v' t _ e2) (fun b' s'' h => ?_) fun _ _ h => h
        obtain ⟨μ'', st', R'', rfl⟩ := h
        exact ⟨μ'', st.trans st', R'', by show DR _ _ _ _; simp only [DR]⟩
    · cases e
  · refine mbind_elim e fun d1 σ1 e1 q => ?_
    have h1 := readD_state e1; subst h1
    refine mbind_elim q fun d2 σ2 e2 q2 => ?_
    have h2 := readD_state e2; subst h2
    refine mbind_elim q2 fun b' σ3 e3 q3 => ?_
    obtain ⟨e4, h3⟩ := mopt_some e3
    subst h3
    cases q3
    exact W_cmpD (by have := ga.c; omega) R (readD_ok R ha e1).2 (readD_ok R hb e2).2 e4

noncomputable def noMark (op : CmpOp) (r : Expr) : Bool := !behindInMarks op r

theorem Ev_Compare (ok : CxOk X) (pok : PrmOk X n P) {l r : Expr} {op : CmpOp} {pos : Pos} {ml mr : M V} (hl : Ev X (n + 1) env l ml) (hr : Ev X (n + 1) env r mr) (hm : noMark op r = true) :
    Ev X (n + 1) env (.Compare l [op] [r] pos) (do let a ← ml; let b ← mr; cmpS P op a b) := by
  intro A ρ μ σ s ga R v σ' e
  have hm' : behindInMarks op r = false := by unfold noMark at hm; simpa using hm
  refine mbind_elim e fun a σ1 e1 q => ?_
  refine mbind_elim q fun b σ2 e2 q2 => ?_
  refine wpAny_Compare1 ?_ hm'
  refine wpAny_mono (hl A ρ μ σ s ga R a σ1 e1) (fun x s1 z => ?_) fun _ _ z => z
  first | refine post_elim z fun μ1 st1 R1 v1 => ?_ | obtain ⟨μ1, st1, R1, v1⟩ := z
  refine wpAny_mono (hr A ρ μ1 σ1 s1 ga R1 b σ2 e2) (fun y s2 z => ?_) fun _ _ z => z
  first | refine post_elim z fun μ2 st2 R2 v2 => ?_ | obtain ⟨μ2, st2, R2, v2⟩ := z
  refine wpAny_mono (W_cmpS ok pok ga R2 (VR.step R1 st2 v1) v2 v σ' q2) (fun c s3 z => ?_) fun _ _ z => z
  first | refine post_elim z fun μ3 st3 R3 v3 => ?_ | obtain ⟨μ3, st3, R3, v3⟩ := z
  exact ⟨μ3, (st1.trans st2).trans st3, R3, v3⟩

/-! tests -/
theorem Te_Compare (ok : CxOk X) (pok : PrmOk X n P) {l r : Expr} {op : CmpOp} {pos : Pos} {ml mr : M V} (hl : Ev X (n + 1) env l ml) (hr : Ev X (n + 1) env r mr) (hm : noMark op r = true) :
    Te X (n + 1) env (.Compare l [op] [r] pos) (do let v ← (do let a ← ml; let b ← mr; cmpS P op a b); truthS v) := by
  intro A ρ μ σ s ga R t σ' e
  have hm' : behindInMarks op r = false := by unfold noMark at hm; simpa using hm
  refine mbind_elim e fun v σ3 e0 q3 => ?_
  refine mbind_elim e0 fun a σ1 e1 q => ?_
  refine mbind_elim q fun b σ2 e2 q2 => ?_
  refine wpAny_isTrue_Compare1 ?_ hm'
  refine wpAny_mono (hl A ρ μ σ s ga R a σ1 e1) (fun x s1 z => ?_) fun _ _ z => z
  first | refine post_elim z fun μ1 st1 R1 v1 => ?_ | obtain ⟨μ1, st1, R1, v1⟩ := z
  refine wpAny_mono (hr A ρ μ1 σ1 s1 ga R1 b σ2 e2) (fun y s2 z => ?_) fun _ _ z => z
  first | refine post_elim z fun μ2 st2 R2 v2 => ?_ | obtain ⟨μ2, st2, R2, v2⟩ := z
  refine wpAny_mono (W_cmpS ok pok ga R2 (VR.step R1 st2 v1) v2 v σ3 q2) (fun c s3 z => ?_) fun _ _ z => z
  first | refine post_elim z fun μ3 st3 R3 v3 => ?_ | obtain ⟨μ3, st3, R3, v3⟩ := z
  refine wpAny_mono (W_truthS R3 v3 t σ' q3) (fun c s3 z => ?_) fun _ _ z => z
  first | refine post_elim z fun μ4 st4 R4 v4 => ?_ | obtain ⟨μ4, st4, R4, v4⟩ := z
  exact ⟨μ4, ((st1.trans st2).trans st3).trans st4, R4, v4⟩

noncomputable def plainTest : Expr → Bool
  | .UnaryOp .Not _ _ => false
  | .BoolOp .. => false
  | .IfExp .. => false
  | .Compare .. => false
  | _ => true
theorem isTrue_plainE {e : Expr} (h : plainTest e = true) (whole : Sem Value) : isTrue e env whole = (do let v ← whole; standAt e.pos; holding [v] (truthy v)) := by
  cases e <;> first | rfl | cases h | skip
  rename_i op x p
  cases op <;> first | rfl | cases h

theorem Te_plain {e : Expr} {m : M V} (he : plainTest e = true) (h : Ev X n env e m) : Te X n env e (do let v ← m; truthS v) := by
  intro A ρ μ σ s ga R
  rw [isTrue_plainE he]
  exact W_bind (h A ρ μ σ s ga R) fun μ₁ s₁ a σ₁ x st₁ R₁ v₁ => W_standAt (W_holding (W_truthS R₁ v₁))

inductive TeL (X : Cx) (n : Nat) (env : Env) : List Expr → List (M Bool) → Prop
  | nil : TeL X n env [] []
  | cons {e : Expr} {es : List Expr} {m : M Bool} {ms : List (M Bool)} : Te X n env e m → TeL X n env es ms → TeL X n env (e :: es) (m :: ms)

end
end Mine
end

section
open PySem
set_option Elab.async false
namespace Mine

section
variable {X : Cx} {n : Nat} {env : Env} {P : Prm} {A : Around} {ρ : List Addr} {μ : Mu} {σ : St} {s : Shared}

noncomputable def noSlice : Expr → Bool
  | .Slice .. => false
  | _ => true
theorem subscripted_plain {e : Expr} (h : noSlice e = true) (o i : Value) : subscripted e false o i = operate [o, i] (getItem o i) := by
  cases e <;> first | rfl | cases h
theorem subscripted_py {e : Expr} (h : noSlice e = true) (o i : Value) : subscripted e true o i = runValue (.builtin "lifetime.subscript" ⟨[o, i], []⟩) := by
  cases e <;> first | rfl | cases h

theorem small_bounds {d : PyData} (h : smallI d = true) : ∃ i, d = .int i ∧ -(2 ^ 40) ≤ i ∧ i ≤ 2 ^ 40 := by
  cases d with
  | int i => exact ⟨i, rfl, of_decide_eq_true h⟩
  | _ => cases h

theorem seqIndex_some {i : Int} {m k : Nat} (h : seqIndex? i m = some k) : (0 ≤ i ∧ i < m ∧ k = i.toNat) ∨ (i < 0 ∧ -(m : Int) ≤ i ∧ k = (i + m).toNat) := by
  unfold seqIndex? at h
  simp only [Bool.and_eq_true, decide_eq_true_eq] at h
  split at h
  · split at h
    · cases h; omega
    · cases h
  · split at h
    · cases h; omega
    · cases h

/-- an item -/
theorem W_itemS (ok : CxOk X) (pok : PrmOk X n P) (ga : Ga (n + 1) A) {value slice : Expr} (hs : noSlice slice = true) {o i : V} {x y : Value} (R : Rel X ρ μ env σ s.heap) (ho : VR s.heap (okOf ρ μ) μ o x) (hi : VR s.heap (okOf ρ μ) μ i y) :
    W X A ρ μ env s VRr (PyProof.Rows.subscriptTail value slice x y) (itemS P o i σ) := by
  intro r σ' e
  unfold itemS at e
  split at e
  · rename_i hin
    obtain ⟨j, l, rfl, hj⟩ := isInst_obj hin
    obtain ⟨a', d, od, rfl, hr, I, hd, _⟩ := inst_at R ho hj
    cases hm : mth X (Str.ofString "__getitem__") with
    | none => rw [pok.mtNo _ hm] at e; cases e
    | some f =>
      obtain ⟨hf, hfn, hfi⟩ := mth_find hm
      obtain ⟨m, F⟩ := R.fr
      refine W.sub_K F ok.kin I hf hfi hfn ?_ (subscripted_py hs _ _)
      exact pok.mt _ f hm env A.in1 ρ μ σ s (.obj j) (.ref a') [i] [y] [] [] ga.in1 R ho ⟨y, [], rfl, hi, rfl⟩ rfl r σ' e
  · refine mbind_elim e fun d1 σ1 e1 q => ?_
    have h1 := readD_state e1; subst h1
    refine mbind_elim q fun d2 σ2 e2 q2 => ?_
    refine mbind_elim q2 fun u σ3 e3 q3 => ?_
    refine mbind_elim q3 fun d σ4 e4 q4 => ?_
    obtain ⟨e5, h5⟩ := mopt_some e4
    unfold mguard at e3
    split at e3
    · rename_i hsm
      cases e3
      cases i with
      | dat d2' =>
        cases e2
        subst h5
        cases q4
        obtain ⟨k, rfl, hlo, hhi⟩ := small_bounds hsm
        have l1 := (readD_ok R ho e1).2
        have l2 : DR _ _ _ _ := hi
        simp only [DR] at l2
        obtain ⟨u, rfl⟩ := l2
        unfold itemD at e5
        split at e5
        · rename_i x' i' hh
          cases hh
          obtain ⟨c, e6, rfl⟩ := Option.map_eq_some_iff.mp e5
          simp only [LR, DR] at l1
          obtain ⟨ha, t, rfl⟩ := l1
          refine PyProof.Rows.tail_any (typeIs_str s x' t) PyProof.Rows.slot_str_getitem.lookup (PyProof.Rows.getItem_str ?_ e6 (post_tok R _ ?_)) (subscripted_plain hs _ _)
          · simp only [Bool.or_eq_false_iff, decide_eq_false_iff_not]; omega
          · show DR _ _ _ _
            simp only [DR]
            refine ⟨?_, _, rfl⟩
            obtain ⟨k', _, hk'⟩ := Option.bind_eq_some_iff.mp e6
            unfold asc at ha ⊢
            rw [List.all_eq_true] at ha
            simp only [List.all_cons, List.all_nil, Bool.and_true]
            exact ha c (Array.mem_toList_iff.mpr (Array.mem_of_getElem? hk'))
        · rename_i ds i' hh
          cases hh
          obtain ⟨k', e6, e7⟩ := Option.bind_eq_some_iff.mp e5
          obtain ⟨a, vs, rfl, hL, hds⟩ := list_of_LR l1
          have ln := hds.length
          rw [Array.length_toList] at ln
          obtain ⟨v, hv, hdv⟩ := hds.get e7
          refine PyProof.Rows.tail_any hL.typeIs slot_list_getitem.lookup ?_ (subscripted_plain hs _ _)
          rcases seqIndex_some e6 with ⟨q1, q2, rfl⟩ | ⟨q1, q2, rfl⟩
          · exact wpAny_getItem_list hL q1 (by omega) (by rw [← Array.getElem?_toList]; exact hv) (post_same R hdv)
          · exact wpAny_getItem_list_neg hL q1 (by omega) (by omega) (by rw [← Array.getElem?_toList, ln]; exact hv) (post_same R hdv)
        · rename_i ds i' hh
          cases hh
          obtain ⟨k', e6, e7⟩ := Option.bind_eq_some_iff.mp e5
          simp only [LR, DR] at l1
          obtain ⟨a, ob, vs, nn, rfl, _, g1, g2, g3, hds⟩ := l1
          have ln := hds.length
          rw [Array.length_toList] at ln
          obtain ⟨v, hv, hdv⟩ := hds.get e7
          have hT : PyProof.Rows.IsTup s.heap a vs := ⟨ob, g1, g2, nn, g3⟩
          exact PyProof.Rows.tail_any hT.typeIs PyProof.Rows.slot_tuple_getitem.lookup (PyProof.Rows.getItem_tuple hT (by omega) (by omega) (by rw [ln]; exact e6) (by rw [← Array.getElem?_toList]; exact hv) (post_same R hdv)) (subscripted_plain hs _ _)
        · cases e5
      | obj j => cases e2
      | rng a b => cases e2
      | emp => cases e2
    · cases e3

theorem Ev_Subscript (ok : CxOk X) (pok : PrmOk X n P) {o i : Expr} {pos : Pos} {mo mi : M V} (ho : Ev X (n + 1) env o mo) (hi : Ev X (n + 1) env i mi) (hs : noSlice i = true) :
    Ev X (n + 1) env (.Subscript o i pos) (do let ov ← mo; let iv ← mi; itemS P ov iv) := by
  intro A ρ μ σ s ga R v σ' e
  refine mbind_elim e fun a σ1 e1 q => ?_
  refine mbind_elim q fun b σ2 e2 q2 => ?_
  refine PyProof.Rows.Subscript_ ?_
  refine wpAny_mono (ho A ρ μ σ s ga R a σ1 e1) (fun x s1 z => ?_) fun _ _ z => z
  first | refine post_elim z fun μ1 st1 R1 v1 => ?_ | obtain ⟨μ1, st1, R1, v1⟩ := z
  refine wpAny_mono (hi A ρ μ1 σ1 s1 ga R1 b σ2 e2) (fun y s2 z => ?_) fun _ _ z => z
  first | refine post_elim z fun μ2 st2 R2 v2 => ?_ | obtain ⟨μ2, st2, R2, v2⟩ := z
  refine wpAny_mono (W_itemS ok pok ga hs R2 (VR.step R1 st2 v1) v2 v σ' q2) (fun c s3 z => ?_) fun _ _ z => z
  first | refine post_elim z fun μ3 st3 R3 v3 => ?_ | obtain ⟨μ3, st3, R3, v3⟩ := z
  exact ⟨μ3, (st1.trans st2).trans st3, R3, v3⟩

end
end Mine
end

section
open PySem
set_option Elab.async false
namespace Mine

/-! slices -/
section
variable {X : Cx} {n : Nat} {env : Env} {P : Prm} {A : Around} {ρ : List Addr} {μ : Mu} {σ : St} {s : Shared}

inductive EvO (X : Cx) (n : Nat) (env : Env) : Option Expr → Option (M V) → Prop
  | none : EvO X n env none none
  | some {e : Expr} {m : M V} : Ev X n env e m → EvO X n env (some e) (some m)

end
end Mine
end

section
open PySem
set_option Elab.async false
namespace Mine

/-! case -/
theorem low_tab : ∀ c, c < 127 → Unicode.lowerOf c = [lowC c] := by decide +kernel
theorem up_tab : ∀ c, c < 127 → Unicode.upperOf c = [upC c] := by decide +kernel
theorem asc_lt {x : Str} (h : asc x = true) : ∀ c ∈ x.cps.toList, 32 ≤ c ∧ c < 127 := by
  intro c hc
  unfold asc at h
  have := List.all_eq_true.mp h c hc
  unfold pc at this
  simpa using this

theorem placed_one (x : Str) (f : Nat → Nat → List Nat) (g : Nat → Nat) (h : ∀ i c, x.cps[i]? = some c → f i c = [g c]) : placed x f = (x.cps.toList.map g).toArray := by
  unfold placed
  have : (x.cps.mapIdx fun i c => (f i c).toArray) = (x.cps.map fun c => #[g c]) := by
    apply Array.ext
    · simp
    · intro i h1 h2
      simp only [Array.getElem_mapIdx, Array.getElem_map]
      rw [h i _ (by simp at h1; exact Array.getElem?_eq_getElem h1)]
  rw [this]
  cases x with | mk a =>
  cases a with | mk l =>
  simp only [List.map_toArray, Array.flatten_toArray, List.map_map]
  apply congrArg
  clear this h
  induction l with
  | nil => rfl
  | cons c l ih => simpa using ih

theorem mem_of_at {x : Str} {i c : Nat} (h : x.cps[i]? = some c) : c ∈ x.cps.toList := Array.mem_toList_iff.mpr (Array.mem_of_getElem? h)

theorem lowerAt_one {x : Str} (ha : asc x = true) {i c : Nat} (h : x.cps[i]? = some c) : Unicode.lowerAt x.cps i = [lowC c] := by
  have hb := asc_lt ha c (mem_of_at h)
  unfold Unicode.lowerAt
  rw [h]
  dsimp only
  rw [if_neg (by simp only [Bool.and_eq_true, beq_iff_eq]; omega)]
  exact low_tab c hb.2

theorem lower_eq {x : Str} (ha : asc x = true) : Txt.lower x = low x := by
  unfold Txt.lower low mapS
  rw [placed_one x _ lowC fun i c h => lowerAt_one ha h]
theorem upper_eq {x : Str} (ha : asc x = true) : Txt.upper x = up x := by
  unfold Txt.upper up mapS
  rw [placed_one x _ upC fun i c h => up_tab c (asc_lt ha c (mem_of_at h)).2]
theorem mapS_length (f : Nat → Nat) (x : Str) : (mapS f x).length = x.length := by simp [mapS, Str.length]
theorem asc_map {f : Nat → Nat} {x : Str} (hf : ∀ c, 32 ≤ c ∧ c < 127 → 32 ≤ f c ∧ f c < 127) (ha : asc x = true) : asc (mapS f x) = true := by
  have h := asc_lt ha
  unfold asc mapS pc
  rw [List.all_eq_true]
  intro c hc
  simp at hc
  obtain ⟨d, hd, rfl⟩ := hc
  have := hf d (h d (by simpa using hd))
  simpa using this
theorem asc_low {x : Str} (ha : asc x = true) : asc (low x) = true := asc_map (fun c h => by unfold lowC; split <;> rename_i q <;> simp at q <;> omega) ha
theorem asc_up {x : Str} (ha : asc x = true) : asc (up x) = true := asc_map (fun c h => by unfold upC; split <;> rename_i q <;> simp at q <;> omega) ha
/-! arguments -/
section
variable {X : Cx} {n : Nat} {env : Env} {P : Prm} {A : Around} {ρ : List Addr} {μ : Mu} {σ : St} {s : Shared}

inductive EvK (X : Cx) (n : Nat) (env : Env) : List Keyword → List (Str × M V) → Prop
  | nil : EvK X n env [] []
  | cons {k : Str} {e : Expr} {p : Pos} {ks : List Keyword} {m : M V} {ms : List (Str × M V)} : Ev X n env e m → EvK X n env ks ms → EvK X n env (⟨some k, e, p⟩ :: ks) ((k, m) :: ms)

theorem VRl.step {vs : List V} {xs : List Value} {μ' : Mu} {s' : Shared} (R : Rel X ρ μ env σ s.heap) (a : Step (wrt env) μ μ' s s') (h : VRl s.heap (okOf ρ μ) μ vs xs) : VRl s'.heap (okOf ρ μ') μ' vs xs :=
  h.mono (fun _ _ => root_prefix a.pre) (a.ok fun x hx => R.own x (wrt_own hx))

/-- keyword values, in their order -/
noncomputable def zipR (names : List Str) : RVt (List Value) (List (Str × V)) := fun h ok μ vs xs => VRk h ok μ vs (names.zip xs)

theorem kw_names {pos : Pos} : ∀ {ks : List Keyword} {ms : List (Str × M V)}, EvK X n env ks ms →
    (backToKw pos (keywordEach ks env)).all (·.1.isSome) = true ∧ (backToKw pos (keywordEach ks env)).filterMap (·.1) = ms.map (·.1)
  | [], _, .nil => ⟨rfl, rfl⟩
  | _ :: _, _, .cons (k := k) h hs => by
    obtain ⟨h1, h2⟩ := kw_names (pos := pos) hs
    refine ⟨?_, ?_⟩
    · show (true && _) = true
      rw [Bool.true_and]; exact h1
    · show k :: _ = k :: _
      exact congrArg (k :: ·) h2

theorem Tr_evalAll {pos : Pos} : ∀ {ks : List Keyword} {ms : List (Str × M V)}, EvK X n env ks ms → Tr X n env (zipR (ms.map (·.1))) (evalAll ((backToKw pos (keywordEach ks env)).map (·.2))) (kwS ms)
  | [], _, .nil => fun A ρ μ σ s ga R => W_pure R rfl
  | _ :: ks, _, .cons (k := k) (e := e) (m := m) (ms := ms) h hs => by
    intro A ρ μ σ s ga R
    have ih := Tr_evalAll (pos := pos) hs
    show W X A ρ μ env s _ (evalAll ((eval e env >>= fun v => standAt pos >>= fun _ => pure v) :: _)) _
    rw [evalAll]
    refine W_bind (RV₁ := VRr) ?_ fun μ₁ s₁ a σ₁ x st₁ R₁ v₁ => W_bind (W_holding (ih A ρ μ₁ σ₁ s₁ ga R₁)) fun μ₂ s₂ vs σ₂ xs st₂ R₂ v₂ => W_pure R₂ ?_
    · intro v σ' q
      exact wpAny_bind (wpAny_mono (h A ρ μ σ s ga R v σ' q) (fun y s' z => wpAny_bind (wpAny_standAt (wpAny_pure z))) fun _ _ z => z)
    · exact ⟨x, _, rfl, VR.step R₁ st₂ v₁, v₂⟩

/-- all arguments of a call -/
theorem W_args {f : Value} {pos : Pos} {es : List Expr} {ms : List (M V)} {ks : List Keyword} {km : List (Str × M V)} (h : EvL X n env es ms) (hst : es.all noStar = true) (hk : EvK X n env ks km) (ga : Ga n A) (R : Rel X ρ μ env σ s.heap)
    {vs : List V} {kv : List (Str × V)} {σ1 σ2 : St} (e1 : seqS ms σ = some (vs, σ1)) (e2 : kwS km σ1 = some (kv, σ2)) :
    wpAny (model X.prog X.w) A (evalArgs f true (backTo pos (starEach es env)) (backToKw pos (keywordEach ks env)))
      (fun a s' => ∃ μ', Step (wrt env) μ μ' s s' ∧ Rel X ρ μ' env σ2 s'.heap ∧ VRl s'.heap (okOf ρ μ') μ' vs a.pos ∧ VRk s'.heap (okOf ρ μ') μ' kv a.kw) (fun _ _ => False) s := by
  obtain ⟨k1, k2⟩ := kw_names (pos := pos) hk
  have fin : ∀ μ₁ s₁ xs, Step (wrt env) μ μ₁ s s₁ → Rel X ρ μ₁ env σ1 s₁.heap → VRl s₁.heap (okOf ρ μ₁) μ₁ vs xs →
      wpAny (model X.prog X.w) A (evalAll ((backToKw pos (keywordEach ks env)).map (·.2))) (fun kx s₂ => (fun a s' => ∃ μ', Step (wrt env) μ μ' s s' ∧ Rel X ρ μ' env σ2 s'.heap ∧ VRl s'.heap (okOf ρ μ') μ' vs a.pos ∧ VRk s'.heap (okOf ρ μ') μ' kv a.kw)
        (⟨xs, ((backToKw pos (keywordEach ks env)).filterMap (·.1)).zip kx⟩ : Args) s₂) (fun _ _ => False) s₁ := by
    intro μ₁ s₁ xs st₁ R₁ v₁
    refine wpAny_mono (Tr_evalAll hk A ρ μ₁ σ1 s₁ ga R₁ kv σ2 e2) (fun kx s₂ z => ?_) fun _ _ z => z
    first | refine post_elim z fun μ₂ st₂ R₂ v₂ => ?_ | obtain ⟨μ₂, st₂, R₂, v₂⟩ := z
    refine ⟨μ₂, st₁.trans st₂, R₂, VRl.step R₁ st₂ v₁, ?_⟩
    rw [k2]; exact v₂
  cases h with
  | nil =>
    cases e1
    refine evalArgs_kw_nil k1 ?_
    exact fin μ s [] (.refl _ _ _) R rfl
  | cons h hs =>
    rename_i e es m ms
    have hst' := hst
    rw [List.all_cons, Bool.and_eq_true] at hst'
    have sp := Tr_spliced (pos := pos) (EvL.cons h hs) hst A ρ μ σ s ga R vs σ1 e1
    rw [starEach_cons hst'.1] at sp ⊢
    refine evalArgs_kw k1 (wpAny_mono sp (fun xs s₁ z => ?_) fun _ _ z => z)
    first | refine post_elim z fun μ₁ st₁ R₁ v₁ => ?_ | obtain ⟨μ₁, st₁, R₁, v₁⟩ := z
    exact fin μ₁ s₁ xs st₁ R₁ v₁

end
end Mine
end

section
open PySem
set_option Elab.async false
set_option maxRecDepth 10000
namespace Mine

section
variable {X : Cx} {n : Nat} {env : Env} {P : Prm} {A : Around} {ρ : List Addr} {μ : Mu} {σ : St} {s : Shared}

theorem ext_sameBut {a : Addr} {h h' : Heap} (hs : Heap.SameBut a h h') : ∀ b ob, b ∉ [a] → h.get? b = some ob → h'.get? b = some ob := fun b ob hb e => (hs.2 b (fun q => hb (by simp [q]))).trans e

/-- an object that is a list turns into another list -/
theorem post_setList {β : Type} {RV : RVt Value β} {b : β} {x : Value} (R : Rel X ρ μ env σ s.heap) {i : Nat} {a : Addr} {ds es : List PyData} {ws : Array Value} {m : Nat} {h' : Heap} {tk : Nat} (hi : σ.heap[i]? = some (.lst ds)) (hr : root μ i = some a)
    (hs : Heap.SameBut a s.heap h') (ha : h'.get? a = some { cls := .type "list", data := .seq ws m }) (hd : DRs s.heap (okOf ρ μ) es ws.toList) (hq : RV h' (okOf ρ μ) μ b x) :
    Post X ρ μ env s RV b ⟨σ.loc, σ.heap.set i (.lst es)⟩ x { s with heap := h', toks := tk } := by
  obtain ⟨p, h2, h3⟩ := R.objs i _ hi
  obtain ⟨vs, nn, h4, h5, h6⟩ := h3
  rw [root_some h2] at hr
  cases hr
  have k := ext_sameBut hs
  have kf : ∀ b ob, b ∉ p.2 → s.heap.get? b = some ob → h'.get? b = some ob := by rw [h4]; exact k
  have hl : ∀ b ∈ p.2, ∃ ob, h'.get? b = some ob := by rw [h4]; intro b hb; simp at hb; subst hb; exact ⟨_, ha⟩
  refine ⟨μ, .setObj h2 kf hl, R.setObj h2 (fun _ q => nomatch q) kf hl ⟨ws, m, h4, ha, DRs.mono (fun c o ok e => ⟨kf c o (fun hm => ok.2 (foot_get h2 hm)) e, ok⟩) hd⟩, hq⟩

theorem root_list (R : Rel X ρ μ env σ s.heap) {i : Nat} {x : Value} {ds : List PyData} (hv : VR s.heap (okOf ρ μ) μ (.obj i) x) (hi : σ.heap[i]? = some (.lst ds)) :
    ∃ a vs m, x = .ref a ∧ root μ i = some a ∧ s.heap.get? a = some { cls := .type "list", data := .seq vs m } ∧ DRs s.heap (okOf ρ μ) ds vs.toList := by
  obtain ⟨a, h1, rfl⟩ := hv
  obtain ⟨p, h2, h3⟩ := R.objs i _ hi
  obtain ⟨vs, nn, h4, h5, h6⟩ := h3
  rw [root_some h2] at h1
  cases h1
  exact ⟨_, vs, nn, rfl, root_some h2, h5, h6⟩

noncomputable def LMok (X : Cx) (id : String) (F : List PyData → List V → Option (PyData × List PyData)) : Prop :=
  ∀ {env : Env} {A : Around} {ρ : List Addr} {μ : Mu} {σ : St} {s : Shared} {i : Nat} {a : Addr} {ws : Array Value} {m : Nat} {xs : List Value} {vs : List V} {ds es : List PyData} {d : PyData}, Rel X ρ μ env σ s.heap → VRl s.heap (okOf ρ μ) μ vs xs →
    σ.heap[i]? = some (.lst ds) → root μ i = some a → s.heap.get? a = some { cls := .type "list", data := .seq ws m } → DRs s.heap (okOf ρ μ) ds ws.toList → ws.size = ds.length → ds.length ≤ big → F ds vs = some (d, es) →
    wpAny (model X.prog X.w) A (call (.builtin id) (.ref a :: xs)) (Post X ρ μ env s VRr (.dat d) ⟨σ.loc, σ.heap.set i (.lst es)⟩) (fun _ _ => False) s

theorem DR_none {h : Heap} {ok : Addr → Prop} {μ : Mu} : VRr h ok μ (.dat .none) .none := by
  show DR _ _ _ _; simp only [DR]

theorem append_ok : LMok X "list.append" appF := fun {env A ρ μ σ s i a ws m xs vs ds es d} R ha hi hr hL hds ln hb e => by
  match vs, e, ha with
  | [.dat d], e, ha =>
    cases e
    obtain ⟨y, r, rfl, h1, h2⟩ := ha
    rw [show r = [] from h2]
    refine wpAny_list_append_plain ⟨m, hL⟩ (fun h' hp hs => ?_) (by rw [ln]; exact Nat.le_trans hb big_le)
    obtain ⟨m', hp⟩ := hp
    exact post_setList R hi hr hs hp (by simpa using hds.append (DRs.one h1)) DR_none

/-! method calls -/
noncomputable def plainBase : Expr → Bool
  | .Call (.Name _ _) [] [] _ => false
  | _ => true
theorem attributeBase_plain {o : Expr} (h : plainBase o = true) (attr : Str) (whole : Sem Value) : attributeBase o attr env whole = whole := by
  unfold attributeBase
  split
  · rename_i id p pos; cases h
  · rfl

theorem star_flags {pos : Pos} : ∀ {es : List Expr}, es.all noStar = true → (backTo pos (starEach es env)).all (fun x => !x.1) = true
  | [], _ => rfl
  | e :: es, h => by
    rw [List.all_cons, Bool.and_eq_true] at h
    rw [starEach_cons h.1]
    show (true && _) = true
    rw [Bool.true_and]; exact star_flags h.2
theorem star_any {pos : Pos} : ∀ {es : List Expr}, es.all noStar = true → (backTo pos (starEach es env)).any (fun x => x.1) = false
  | [], _ => rfl
  | e :: es, h => by
    rw [List.all_cons, Bool.and_eq_true] at h
    rw [starEach_cons h.1]
    show (false || _) = false
    rw [Bool.false_or]; exact star_any h.2

noncomputable def methOk (o : Expr) (es : List Expr) (ks : List Keyword) (apos pos : Pos) : Bool :=
  plainBase o && es.all noStar && decide (es.length + ks.length < 20) && apos.endLine == pos.line

theorem form_true {pos : Pos} {es : List Expr} {ks : List Keyword} {km : List (Str × M V)} (hst : es.all noStar = true) (hk : EvK X n env ks km) (hl : es.length + ks.length < 20) :
    methodCallForm (es.length + ks.length) (backTo pos (starEach es env)) (backToKw pos (keywordEach ks env)) = true := by
  unfold methodCallForm
  rw [star_flags hst, (kw_names (pos := pos) hk).1, Bool.true_and, Bool.true_and]
  split <;> exact decide_eq_true (by omega)

/-- the step from the callee found to the call -/
theorem Meth_eval {o : Expr} {name : Str} {apos pos : Pos} {es : List Expr} {ks : List Keyword} {mo : M V} {km : List (Str × M V)} (ho : Ev X n env o mo) (hk : EvK X n env ks km) (hm : methOk o es ks apos pos = true) (ga : Ga n A) (R : Rel X ρ μ env σ s.heap)
    {ov : V} {σ1 : St} (e1 : mo σ = some (ov, σ1)) {Q : Value → Shared → Prop}
    (k : ∀ μ' s' x, Step (wrt env) μ μ' s s' → Rel X ρ μ' env σ1 s'.heap → VR s'.heap (okOf ρ μ') μ' ov x → ∀ pl, wpAny (model X.prog X.w) A (getMethod x name pl) (fun r s₁ => wpAny (model X.prog X.w) A (callWith pos r.1 r.2 (backTo pos (starEach es env)) (backToKw pos (keywordEach ks env))) Q (fun _ _ => False) s₁) (fun _ _ => False) s') :
    wpAny (model X.prog X.w) A (eval (.Call (.Attribute o name apos) es ks pos) env) Q (fun _ _ => False) s := by
  unfold methOk at hm
  simp only [Bool.and_eq_true, decide_eq_true_eq, beq_iff_eq] at hm
  obtain ⟨⟨⟨h1, h2⟩, h3⟩, h4⟩ := hm
  rw [arm_eval_Call, attributeBase_plain h1]
  refine wpAny_bind (wpAny_mono (ho A ρ μ σ s ga R ov σ1 e1) (fun x s1 z => ?_) fun _ _ z => z)
  first | refine post_elim z fun μ1 st1 R1 v1 => ?_ | obtain ⟨μ1, st1, R1, v1⟩ := z
  refine wpAny_bind (wpAny_standAt ?_)
  unfold methodCall
  rw [form_true h2 hk h3]
  refine wpAny_bind (wpAny_holding ?_)
  show wpAny _ _ (getMethod x name _) _ _ _
  refine wpAny_mono (k μ1 s1 x st1 R1 v1 _) (fun r s2 z => ?_) fun _ _ z => z
  obtain ⟨f, first⟩ := r
  have hp : methodCallPos true o env apos pos = pure pos := by
    unfold methodCallPos
    rw [if_pos (by simp [h4])]
  show wpAny _ _ (methodCallPos true o env apos pos >>= _) _ _ _
  rw [hp]
  exact wpAny_bind (wpAny_pure z)

theorem tooLong_ok {x y : Str} (h : x.length ≤ big) (e : y.length = x.length) : Builtin.Str.tooLong y.length = false := by
  unfold Builtin.Str.tooLong
  have := big_le
  exact decide_eq_false (by omega)

theorem VR_str {h : Heap} {ok : Addr → Prop} {μ : Mu} {y : Str} {t : Tok} (ha : asc y = true) : VRr h ok μ (.dat (.str y)) (.str y t) := by
  show DR h ok (.str y) (.str y t)
  simp only [DR]; exact ⟨ha, _, rfl⟩

/-- a text's method without arguments -/
noncomputable def SMok (X : Cx) (name : Str) (id : String) (f : Str → Str) : Prop := ∀ {env : Env} {A : Around} {x : Str} {t : Tok}, asc x = true → x.length ≤ big →
    (∀ {s : Shared} {pl : Sem Bool} {Q : Value × List Value → Shared → Prop}, Q (.builtin id, [.str x t]) s → wpAny (model X.prog X.w) A (getMethod (.str x t) name pl) Q (fun _ _ => False) s) ∧
    (∀ {ρ μ σ s}, Rel X ρ μ env σ s.heap → wpAny (model X.prog X.w) A (call (.builtin id) [.str x t]) (Post X ρ μ env s VRr (.dat (.str (f x))) σ) (fun _ _ => False) s)
theorem lower_ok : SMok X (Str.ofString "lower") "str.lower" low := fun ha hl => ⟨fun h => GM.lower h, fun R => SC.lower (tooLong_ok hl (by rw [lower_eq ha]; exact mapS_length _ _)) (post_tok R _ (by rw [lower_eq ha]; exact VR_str (asc_low ha)))⟩
theorem upper_ok : SMok X (Str.ofString "upper") "str.upper" up := fun ha hl => ⟨fun h => GM.upper h, fun R => SC.upper (tooLong_ok hl (by rw [upper_eq ha]; exact mapS_length _ _)) (post_tok R _ (by rw [upper_eq ha]; exact VR_str (asc_up ha)))⟩
theorem Ev_StrM {name : Str} {id : String} {f : Str → Str} (hS : SMok X name id f) {o : Expr} {apos pos : Pos} {mo : M V} (ho : Ev X n env o mo) (hm : methOk o [] [] apos pos = true) :
    Ev X n env (.Call (.Attribute o name apos) [] [] pos) (do let ov ← mo; strF f ov) := by
  intro A ρ μ σ s ga R v σ' e
  refine mbind_elim e fun ov σ1 e1 q => ?_
  refine Meth_eval ho (.nil (n := n)) hm ga R e1 fun μ1 s1 x st1 R1 v1 pl => ?_
  match ov, q, v1 with
  | .dat (.str w), q, v1 =>
    simp only [strF] at q
    split at q
    · rename_i hl
      cases q
      have v1' : DR _ _ _ _ := v1
      simp only [DR] at v1'
      obtain ⟨ha, t, rfl⟩ := v1'
      refine (hS (env := env) ha hl).1 ?_
      refine Calls.callWith_builtin (star_any (es := []) rfl) ?_
      refine wpAny_mono (W_args (es := []) (ks := []) (.nil (n := n)) rfl .nil ga R1 rfl rfl) (fun a s2 z => ?_) fun _ _ z => z
      obtain ⟨μ2, st2, R2, v2, k2⟩ := z
      rw [show a.pos = [] from v2, show a.kw = [] from k2]
      exact wpAny_mono ((hS (env := env) ha hl).2 R2) (fun _ _ z => post_elim z fun μ3 st3 R3 v3 => ⟨μ3, (st1.trans st2).trans st3, R3, v3⟩) fun _ _ z => z
    · cases q

theorem lstG_some {v : V} {σ σ' : St} {u : Unit} (e : lstG v σ = some (u, σ')) : σ' = σ ∧ ∃ i ds, v = .obj i ∧ σ.heap[i]? = some (.lst ds) := by
  unfold lstG at e
  split at e
  · rename_i h
    cases e
    unfold isLst at h
    refine ⟨rfl, ?_⟩
    cases v with
    | obj i =>
      simp only at h
      split at h
      · rename_i ds q; exact ⟨i, ds, rfl, q⟩
      · cases h
    | _ => cases h
  · cases e

/-- how a list's method is found -/
noncomputable def LGok (X : Cx) (name : Str) (id : String) : Prop := ∀ {A : Around} {s : Shared} {a : Addr} {vs : Array Value} {m : Nat} {pl : Sem Bool} {Q : Value × List Value → Shared → Prop}, s.heap.get? a = some { cls := .type "list", data := .seq vs m } →
    Q (.builtin id, [.ref a]) s → wpAny (model X.prog X.w) A (getMethod (.ref a) name pl) Q (fun _ _ => False) s
theorem append_get : LGok X (Str.ofString "append") "list.append" := fun hL h => getMethod_builtin ⟨_, hL, rfl⟩ F.plainAttrs_list PySem.F.slot_list_append PySem.F.type_list_append (fun b e => by cases e; exact ⟨_, hL, rfl⟩) h
theorem Ev_LstM {name : Str} {id : String} {F : List PyData → List V → Option (PyData × List PyData)} (hG : LGok X name id) (hF : LMok X id F) {o : Expr} {apos pos : Pos} {es : List Expr} {mo : M V} {ms : List (M V)} (ho : Ev X n env o mo) (he : EvL X n env es ms) (hm : methOk o es [] apos pos = true) :
    Ev X n env (.Call (.Attribute o name apos) es [] pos) (do let ov ← mo; lstG ov; let vs ← seqS ms; lstF F ov vs) := by
  intro A ρ μ σ s ga R v σ' e
  refine mbind_elim e fun ov σ1 e1 q => ?_
  refine mbind_elim q fun kd σ2 e2 q2 => ?_
  obtain ⟨h2, i, ds, hov, hi⟩ := lstG_some e2
  subst h2 hov
  refine mbind_elim q2 fun vs σ3 e3 q3 => ?_
  have hst : es.all noStar = true := by
    unfold methOk at hm; simp only [Bool.and_eq_true] at hm; exact hm.1.1.2
  refine Meth_eval ho (.nil (n := n)) hm ga R e1 fun μ1 s1 x st1 R1 v1 pl => ?_
  obtain ⟨a, ws, m, rfl, hr, hL, hds⟩ := root_list R1 v1 hi
  refine hG hL ?_
  refine Calls.callWith_builtin (star_any hst) ?_
  refine wpAny_mono (W_args (ks := []) he hst (.nil (n := n)) ga R1 e3 rfl) (fun ar s2 z => ?_) fun _ _ z => z
  refine wrap fun G kG => ?_
  obtain ⟨μ2, st2, R2, v2, k2⟩ := z
  simp only [lstF] at q3
  cases hi2 : σ3.heap[i]? with
  | none => rw [hi2] at q3; cases q3
  | some ob =>
    rw [hi2] at q3
    cases ob with
    | lst ds2 =>
      simp only at q3
      by_cases hb : ds2.length ≤ big
      · rw [if_pos hb] at q3
        obtain ⟨r, e5, q5⟩ := Option.map_eq_some_iff.mp q3
        obtain ⟨a', ws', m', ha', hr', hL', hds'⟩ := root_list R2 (VR.step R1 st2 v1) hi2
        have ln := hds'.length
        rw [Array.length_toList] at ln
        refine kG ?_
        clear kG
        cases q5
        rw [show ar.kw = [] from k2, ha']
        exact wpAny_mono (hF R2 v2 hi2 hr' hL' hds' ln hb e5) (fun _ _ z => post_elim z fun μ3 st3 R3 v3 => ⟨μ3, (st1.trans st2).trans st3, R3, v3⟩) fun _ _ z => z
      · rw [if_neg hb] at q3; cases q3
    | _ => cases q3

theorem shadow_no {name : Str} {od : Obj} (hn : name ≠ hdrKey) (h : od = W.emptyDict ∨ ∃ t k al, od = instDict X.w.params t k al) : W.shadowIn (some od) name = some false := by
  rcases h with rfl | ⟨t, k, al, rfl⟩
  · rfl
  · unfold W.shadowIn W.lookIn instDict
    have : (Value.str hdrKey t).isStr name = false := by
      unfold Value.isStr
      rw [Bool.eq_false_iff]; intro q; exact hn (beq_iff_eq.mp q).symm
    simp [this, DictEntry.refKey]

theorem instG_some {v : V} {σ σ' : St} {u : Unit} (e : instG v σ = some (u, σ')) : σ' = σ ∧ isInst v σ = true := by
  unfold instG at e
  split at e
  · rename_i h
    cases e
    exact ⟨rfl, h⟩
  · cases e

theorem Ev_InstM (ok : CxOk X) (pok : PrmOk X n P) {o : Expr} {name : Str} {apos pos : Pos} {es : List Expr} {ks : List Keyword} {mo : M V} {ms : List (M V)} {km : List (Str × M V)} (ho : Ev X (n + 1) env o mo) (he : EvL X (n + 1) env es ms) (hk : EvK X (n + 1) env ks km) (hm : methOk o es ks apos pos = true) :
    Ev X (n + 1) env (.Call (.Attribute o name apos) es ks pos) (do let ov ← mo; instG ov; let vs ← seqS ms; let kv ← kwS km; P.mt name ov vs kv) := by
  intro A ρ μ σ s ga R v σ' e
  refine mbind_elim e fun ov σ1 e1 q => ?_
  refine mbind_elim q fun kd σ2 e2 q2 => ?_
  obtain ⟨h2, hin⟩ := instG_some e2
  obtain ⟨i, l, hov, hi⟩ := isInst_obj hin
  subst h2 hov
  refine mbind_elim q2 fun vs σ3 e3 q3 => ?_
  refine mbind_elim q3 fun kv σ4 e4 q4 => ?_
  have hst : es.all noStar = true := by
    unfold methOk at hm; simp only [Bool.and_eq_true] at hm; exact hm.1.1.2
  refine Meth_eval ho hk hm ga R e1 fun μ1 s1 x st1 R1 v1 pl => ?_
  refine wrap fun G kG => ?_
  obtain ⟨a, d, od, hx, hr, I, hd, hod⟩ := inst_at R1 v1 hi
  cases hmt : mth X name with
  | none => rw [pok.mtNo _ hmt] at q4; cases q4
  | some f =>
    obtain ⟨hf, hfn, hfi⟩ := mth_find hmt
    have hne : name ≠ hdrKey := fun hh => by rw [hh, pok.mtHdr] at q4; cases q4
    have hsh : W.shadowIn (some od) name = some false := shadow_no (X := X) hne (by
      cases l with
      | none => exact .inl hod
      | some k => obtain ⟨al, t, m, _, h⟩ := hod; exact .inr ⟨t, m, al, h⟩)
    obtain ⟨cls, dd, fd, sl, hK⟩ : ∃ cls dd fd sl, X.K.lookup f = some ⟨cls, dd, .func fd, sl⟩ := by
      unfold W.fnIn at hfi
      split at hfi
      · rename_i h; exact ⟨_, _, _, _, h⟩
      · cases hfi
    rw [hx] at kG v1
    refine kG (W.method_fn (R1.kin ok) I ok.ga ok.noga hf (beq_iff_eq.mp hfn) hsh ?_)
    clear kG
    refine callWith_function_kw (o := ⟨cls, dd, .func fd, sl⟩) (fd := fd) ?_
    refine wpAny_mono (W_args he hst hk ga R1 e3 e4) (fun ar s2 z => ?_) fun _ _ z => z
    obtain ⟨μ2, st2, R2, v2, k2⟩ := z
    refine ⟨⟨(R2.kin ok) _ _ hK, rfl⟩, ?_⟩
    exact wpAny_mono (pok.mt name f hmt env A ρ μ2 σ4 s2 (.obj i) (.ref a) vs ar.pos kv ar.kw (ga.less (Nat.le_succ _)) R2 (VR.step R1 st2 v1) v2 k2 v σ' q4) (fun _ _ z => post_elim z fun μ3 st3 R3 v3 => ⟨μ3, (st1.trans st2).trans st3, R3, v3⟩) fun _ _ z => z

end
end Mine
end

section
open PySem
set_option Elab.async false
set_option maxRecDepth 10000
namespace Mine

section
variable {X : Cx} {n : Nat} {env : Env} {P : Prm} {A : Around} {ρ : List Addr} {μ : Mu} {σ : St} {s : Shared}

noncomputable def gval (X : Cx) (f : Str) : Option Value := match X.mg f with
  | some v => some v
  | none => X.mb f

theorem glob_load (ok : CxOk X) (R : Rel X ρ μ env σ s.heap) {f : Str} {v : Value} {Q : Value → Shared → Prop} (hv : gval X f = some v) (h : Q v s) :
    wpAny (model X.prog X.w) A (loadGlobal env f) Q (fun _ _ => False) s := by
  obtain ⟨m, cm, F, _⟩ := R.frame
  have hg : s.heap.Ns env.globals X.mg := by rw [F.globals]; exact ok.g.keeps R.base
  have hb : s.heap.Ns env.builtins X.mb := by rw [F.builtins]; exact ok.b.keeps R.base
  unfold gval at hv
  cases e : X.mg f with
  | some w => rw [e] at hv; cases hv; exact Calls.loadGlobal_global hg e h
  | none => rw [e] at hv; exact Calls.loadGlobal_builtin hg e hb hv h

noncomputable def gKind (env : Env) (f : Str) : Bool := env.kindOf f == some .globalImplicit && f != dbg

theorem Name_glob (ok : CxOk X) (R : Rel X ρ μ env σ s.heap) {f : Str} {p : Pos} {v : Value} {Q : Value → Shared → Prop} (hk : gKind env f = true) (hv : gval X f = some v) (h : Q v s) :
    wpAny (model X.prog X.w) A (eval (.Name f p) env) Q (fun _ _ => False) s := by
  obtain ⟨m, cm, F, _⟩ := R.frame
  unfold gKind at hk
  simp only [Bool.and_eq_true, beq_iff_eq, bne_iff_ne, ne_eq] at hk
  exact Calls.Name_function_global F.kind hk.1 (glob_load ok R hv h) (dbg_false hk.2)

theorem blt_val (ok : CxOk X) {f : Str} {v : Value} (hf : f ∈ bltNames) (hn : f ≠ ("__name__" : Str)) (hb : bootBuiltins f = some v) : gval X f = some v := by
  unfold gval
  rw [ok.noG f hf]
  exact (ok.blt f hn).trans hb

theorem val_len (ok : CxOk X) : gval X (Str.ofString "len") = some (.builtin "len") := blt_val ok (by unfold bltNames; decide) (by decide) (by decide +kernel)
theorem val_str (ok : CxOk X) : gval X (Str.ofString "str") = some (.type "str") := blt_val ok (by unfold bltNames; decide) (by decide) (by decide +kernel)
theorem val_range (ok : CxOk X) : gval X (Str.ofString "range") = some (.type "range") := blt_val ok (by unfold bltNames; decide) (by decide) (by decide +kernel)
theorem val_list (ok : CxOk X) : gval X (Str.ofString "list") = some (.type "list") := blt_val ok (by unfold bltNames; decide) (by decide) (by decide +kernel)
theorem val_type (ok : CxOk X) : gval X (Str.ofString "type") = some (.type "type") := blt_val ok (by unfold bltNames; decide) (by decide) (by decide +kernel)

/-- a call by a global name -/
theorem Call_name (ok : CxOk X) {f : Str} {p pos : Pos} {es : List Expr} {Q : Value → Shared → Prop} (R : Rel X ρ μ env σ s.heap) {v : Value} (hk : gKind env f = true) (hv : gval X f = some v)
    (h : wpAny (model X.prog X.w) A (callWith pos v [] (backTo pos (starEach es env)) []) Q (fun _ _ => False) s) :
    wpAny (model X.prog X.w) A (eval (.Call (.Name f p) es [] pos) env) Q (fun _ _ => False) s := by
  show wpAny _ _ (eval (.Name f p) env >>= fun v => callWith pos v [] (backTo pos (starEach es env)) (backToKw pos (keywordEach [] env))) _ _ _
  exact wpAny_bind (Name_glob ok R hk hv h)

theorem VR_int {h : Heap} {ok : Addr → Prop} {μ : Mu} {i : Int} {t : Tok} : VRr h ok μ (.dat (.int i)) (.int i t) := by
  show DR h ok (.int i) (.int i t)
  simp only [DR]; exact ⟨_, rfl⟩

theorem mguard_some {b : Bool} {u : Unit} {σ σ' : St} (e : mguard b σ = some (u, σ')) : b = true ∧ σ' = σ := by
  unfold mguard at e
  split at e
  · rename_i h; cases e; exact ⟨h, rfl⟩
  · cases e

/-- len -/
theorem W_lenS (ok : CxOk X) (pok : PrmOk X n P) (ga : Ga (n + 1) A) {v : V} {x : Value} (R : Rel X ρ μ env σ s.heap) (hv : VR s.heap (okOf ρ μ) μ v x) : W X A ρ μ env s VRr (call (.builtin "len") [x]) (lenS P v σ) := by
  intro r σ' e
  unfold lenS at e
  split at e
  · rename_i hin
    obtain ⟨j, l, rfl, hj⟩ := isInst_obj hin
    obtain ⟨a', d, od, rfl, hr, I, hd, _⟩ := inst_at R hv hj
    refine mbind_elim e fun rv σ1 e1 q => ?_
    cases hm : mth X (Str.ofString "__len__") with
    | none => rw [pok.mtNo _ hm] at e1; cases e1
    | some f =>
      obtain ⟨hf, hfn, hfi⟩ := mth_find hm
      obtain ⟨m, F⟩ := R.fr
      refine W.len_K F ok.kin I hf hfn ?_
      refine wpAny_mono (pok.mt _ f hm env A.in1 ρ μ σ s (.obj j) (.ref a') [] [] [] [] ga.in1 R hv rfl rfl rv σ1 e1) (fun y s1 z => ?_) fun _ _ z => z
      first | refine post_elim z fun μ1 st1 R1 v1 => ?_ | obtain ⟨μ1, st1, R1, v1⟩ := z
      split at q
      · rename_i k
        split at q
        · rename_i hk
          cases q
          have v1' : DR _ _ _ _ := v1
          simp only [DR] at v1'
          obtain ⟨t, rfl⟩ := v1'
          refine ⟨⟨hk.1, by have := hk.2; unfold big at this; omega⟩, ?_⟩
          exact ⟨μ1, st1.trans (.grow (h' := s1.heap) fun _ _ e => e), R1, VR_int⟩
        · cases q
      · cases q
  · refine mbind_elim e fun d1 σ1 e1 q => ?_
    have h1 := readD_state e1; subst h1
    refine mbind_elim q fun m σ2 e2 q2 => ?_
    obtain ⟨e2', h2⟩ := mopt_some e2; subst h2
    refine mbind_elim q2 fun u σ3 e3 q3 => ?_
    obtain ⟨hb, h3⟩ := mguard_some e3; subst h3
    cases q3
    have l1 := (readD_ok R hv e1).2
    have hb' := of_decide_eq_true hb
    unfold big at hb'
    unfold lenD at e2'
    split at e2'
    · cases e2'
      simp only [LR, DR] at l1
      obtain ⟨ha, t, rfl⟩ := l1
      exact PyProof.Rows.len_str (by omega) (post_tok R _ VR_int)
    · cases e2'
      obtain ⟨a, vs, rfl, hL, hds⟩ := list_of_LR l1
      have ln := hds.length
      rw [Array.length_toList] at ln
      refine PyProof.Rows.len_list hL (by omega) ?_
      rw [ln]
      exact post_tok R _ VR_int
    · cases e2'
      simp only [LR, DR] at l1
      obtain ⟨a, ob, vs, nn, rfl, _, g1, g2, g3, hds⟩ := l1
      have ln := hds.length
      rw [Array.length_toList] at ln
      refine PyProof.Rows.len_tuple ⟨ob, g1, g2, nn, g3⟩ (by omega) ?_
      rw [ln]
      exact post_tok R _ VR_int
    · cases e2'

theorem asc_strI (i : Int) : asc (strI i) = true := by
  unfold asc strI
  rw [Str.ofString_eq_toList, List.all_eq_true]
  intro c hc
  obtain ⟨ch, h1, rfl⟩ := List.mem_map.mp hc
  unfold pc
  simp only [Bool.and_eq_true, decide_eq_true_eq]
  rcases PyProof.Rows.int_sign i ch h1 with h | h
  · have := PyProof.Rows.digit_range h
    omega
  · subst h; decide

theorem log2_small {i : Int} (h : i.natAbs < 10 ^ 100) : i.natAbs.log2 < 1920 := by
  have : (10 : Nat) ^ 100 < 2 ^ 1920 := by decide +kernel
  by_cases h0 : i.natAbs = 0
  · rw [h0]; decide
  · exact (Nat.log2_lt h0).mpr (by omega)

theorem W_lenB (ok : CxOk X) (pok : PrmOk X n P) (ga : Ga (n + 1) A) (R : Rel X ρ μ env σ s.heap) {vs : List V} {xs : List Value} (hv : VRl s.heap (okOf ρ μ) μ vs xs) : W X A ρ μ env s VRr (call (.builtin "len") xs []) (lenB P vs σ) := by
  match vs, hv with
  | [v], hv =>
    obtain ⟨x, r, h1, h2, h3⟩ := hv
    rw [h1, show r = [] from h3]
    exact W_lenS ok pok ga R h2
  | [], _ => exact W_fail
  | _ :: _ :: _, _ => exact W_fail
theorem W_strB (R : Rel X ρ μ env σ s.heap) {vs : List V} {xs : List Value} (hv : VRl s.heap (okOf ρ μ) μ vs xs) : W X A ρ μ env s VRr (call (.type "str") xs []) (strB vs σ) := by
  intro v σ' q
  unfold strB at q
  split at q
  · rename_i i
    split at q
    · rename_i hi
      cases q
      obtain ⟨x, r, h1, h2, h3⟩ := hv
      rw [h1, show r = [] from h3]
      have h2' : DR _ _ _ _ := h2
      simp only [DR] at h2'
      obtain ⟨t, rfl⟩ := h2'
      exact PySem.P.str_of_int (log2_small hi) (post_tok R _ (VR_str (asc_strI i)))
    · cases q
  · cases q
theorem W_rangeB (R : Rel X ρ μ env σ s.heap) {vs : List V} {xs : List Value} (hv : VRl s.heap (okOf ρ μ) μ vs xs) : W X A ρ μ env s VRr (call (.type "range") xs []) (rangeB vs σ) := by
  intro v σ' q
  unfold rangeB at q
  split at q
  · split at q
    · rename_i k hk'
      cases q
      obtain ⟨x, r, h1, h2, h3⟩ := hv
      rw [h1, show r = [] from h3]
      have h2' : DR _ _ _ _ := h2
      simp only [DR] at h2'
      obtain ⟨t, rfl⟩ := h2'
      exact call_range_1 (post_new R (fun _ _ e => Heap.get?_push_of_some _ e) ⟨_, _, _, _, rfl, R.okNew (fresh_size _), Heap.get?_push_size _ rfl⟩)
    · cases q
  · split at q
    · rename_i k1 k2 hk'
      cases q
      obtain ⟨x, r, h1, h2, y, r', h4, h5, h6⟩ := hv
      subst h4
      rw [h1, show r' = [] from h6]
      have h2' : DR _ _ _ _ := h2
      simp only [DR] at h2'
      obtain ⟨t, rfl⟩ := h2'
      have h5' : DR _ _ _ _ := h5
      simp only [DR] at h5'
      obtain ⟨u, rfl⟩ := h5'
      exact call_range_2 (post_new R (fun _ _ e => Heap.get?_push_of_some _ e) ⟨_, _, _, _, rfl, R.okNew (fresh_size _), Heap.get?_push_size _ rfl⟩)
    · cases q
  · cases q

theorem post_up {α β : Type} {RV : RVt α β} {b : β} {σ' : St} {μ2 : Mu} {s2 s3 : Shared} {y : α} (st : Step (wrt env) μ μ2 s s2) (z : Post X ρ μ2 env s2 RV b σ' y s3) : Post X ρ μ env s RV b σ' y s3 :=
  post_elim z fun μ3 st3 R3 v3 => ⟨μ3, st.trans st3, R3, v3⟩

/-- a call of a built-in function by its name -/
theorem Ev_BltB (ok : CxOk X) {f : Str} {b : String} {F : List V → M V} {p pos : Pos} {es : List Expr} {ms : List (M V)} (hv : gval X f = some (.builtin b)) (he : EvL X (n + 1) env es ms) (hst : es.all noStar = true) (hk : gKind env f = true)
    (hF : ∀ {A ρ μ σ s vs xs}, Ga (n + 1) A → Rel X ρ μ env σ s.heap → VRl s.heap (okOf ρ μ) μ vs xs → W X A ρ μ env s VRr (call (.builtin b) xs []) (F vs σ)) :
    Ev X (n + 1) env (.Call (.Name f p) es [] pos) (do let vs ← seqS ms; F vs) := by
  intro A ρ μ σ s ga R v σ' e
  refine mbind_elim e fun vs σ1 e1 q => ?_
  refine Call_name ok R hk hv (Calls.callWith_builtin (star_any hst) (wpAny_mono (W_args (ks := []) he hst .nil ga R e1 rfl) (fun ar s2 z => ?_) fun _ _ z => z))
  obtain ⟨μ2, st2, R2, v2, k2⟩ := z
  rw [show ar.kw = [] from k2, List.nil_append]
  exact wpAny_mono (hF ga R2 v2 v σ' q) (fun _ _ z => post_up st2 z) fun _ _ z => z
/-- a call of a type by its name -/
theorem Ev_BltT (ok : CxOk X) {f : Str} {b : String} {F : List V → M V} {p pos : Pos} {es : List Expr} {ms : List (M V)} (hv : gval X f = some (.type b)) (he : EvL X (n + 1) env es ms) (hst : es.all noStar = true) (hk : gKind env f = true)
    (hF : ∀ {A ρ μ σ s vs xs}, Ga (n + 1) A → Rel X ρ μ env σ s.heap → VRl s.heap (okOf ρ μ) μ vs xs → W X A ρ μ env s VRr (call (.type b) xs []) (F vs σ)) :
    Ev X (n + 1) env (.Call (.Name f p) es [] pos) (do let vs ← seqS ms; F vs) := by
  intro A ρ μ σ s ga R v σ' e
  refine mbind_elim e fun vs σ1 e1 q => ?_
  refine Call_name ok R hk hv (PyProof.Rows.callWith_type (star_any hst) (wpAny_mono (W_args (ks := []) he hst .nil ga R e1 rfl) (fun ar s2 z => ?_) fun _ _ z => z))
  obtain ⟨μ2, st2, R2, v2, k2⟩ := z
  rw [show ar.kw = [] from k2, List.nil_append]
  exact wpAny_mono (hF ga R2 v2 v σ' q) (fun _ _ z => post_up st2 z) fun _ _ z => z
/-- a call of a def of the top -/
theorem Ev_Fn (ok : CxOk X) (pok : PrmOk X n P) {f : Str} {p pos : Pos} {es : List Expr} {ms : List (M V)} (he : EvL X (n + 1) env es ms) (hst : es.all noStar = true) (hk : gKind env f = true) :
    Ev X (n + 1) env (.Call (.Name f p) es [] pos) (do let vs ← seqS ms; P.fn f vs) := by
  intro A ρ μ σ s ga R v σ' e
  refine mbind_elim e fun vs σ1 e1 q => ?_
  obtain ⟨a, o, fd, hg, ho, hd, hfn⟩ := pok.fn f vs σ1 (v, σ') q
  have hv : gval X f = some (.ref a) := by unfold gval; rw [hg]
  refine Call_name ok R hk hv (Calls.callWith_function (o := o) (fd := fd) (wpAny_mono (W_args (ks := []) he hst .nil ga R e1 rfl) (fun ar s2 z => ?_) fun _ _ z => z))
  obtain ⟨μ2, st2, R2, v2, k2⟩ := z
  rw [show ar.kw = [] from k2, List.nil_append]
  exact ⟨⟨R2.base _ _ ho, hd⟩, wpAny_mono (hfn env A ρ μ2 s2 ar.pos (ga.less (Nat.le_succ _)) R2 v2 v σ' q) (fun _ _ z => post_up st2 z) fun _ _ z => z⟩

end
end Mine
end

section
open PySem
set_option Elab.async false
set_option maxRecDepth 10000
namespace Mine

section
variable {X : Cx} {n : Nat} {env : Env} {P : Prm} {A : Around} {ρ : List Addr} {μ : Mu} {σ : St} {s : Shared}

theorem DRs.of_items {h : Heap} {ok : Addr → Prop} : ∀ {ds : List PyData} {vs : List Value}, vs.length = ds.length → (∀ (j : Nat) d v, ds[j]? = some d → vs[j]? = some v → DR h ok d v) → DRs h ok ds vs
  | [], vs, hl, _ => by simp only [DRs]; exact List.eq_nil_of_length_eq_zero hl
  | d :: ds, [], hl, _ => by simp at hl
  | d :: ds, v :: vs, hl, k => by
    simp only [DRs]
    exact ⟨v, vs, rfl, k 0 d v rfl rfl, DRs.of_items (by simpa using hl) fun j d' v' h1 h2 => k (j + 1) d' v' (by simpa using h1) (by simpa using h2)⟩

theorem intsD_length (lo hi : Int) : (intsD lo hi).length = (hi - lo).toNat := by simp [intsD]
theorem rangeSize_eq (lo hi : Int) : Builtin.Range.rangeSize lo hi 1 = ((hi - lo).toNat : Int) := by
  unfold Builtin.Range.rangeSize
  simp only [show (1 : Int) > 0 by decide, if_true, Int.ediv_one]
  split <;> omega

theorem small_range {lo hi : Int} (h : smallR lo hi = true) : Builtin.Range.small lo hi 1 = true ∧ (hi - lo).toNat ≤ big := by
  unfold smallR at h
  have h := of_decide_eq_true h
  refine ⟨?_, h.2.2⟩
  obtain ⟨h1, h2, h3⟩ := h
  unfold Builtin.Range.small
  rw [rangeSize_eq]
  unfold big at h3
  simp only [Builtin.Range.rangeFitsLong, Bool.and_eq_true, Bool.or_eq_true, decide_eq_true_eq, show (1 : Int) > 0 by decide, if_true]
  omega

/-- Headers(...) -/
theorem Ev_Make (ok : CxOk X) (pok : PrmOk X n P) {p pos : Pos} {es : List Expr} {ms : List (M V)} (he : EvL X (n + 1) env es ms) (hst : es.all noStar = true) (hk : gKind env (Str.ofString "Headers") = true) :
    Ev X (n + 1) env (.Call (.Name (Str.ofString "Headers") p) es [] pos) (do let vs ← seqS ms; P.make vs) := by
  intro A ρ μ σ s ga R r σ' q
  refine mbind_elim q fun vs σ1 e1 q1 => ?_
  have hv : gval X (Str.ofString "Headers") = some (.ref X.C) := by unfold gval; rw [pok.make.1]
  refine Call_name ok R hk hv (W.callWith_of (P := X.K.In) (by rw [star_any hst]; rfl) (W.keeps_K ok.keep) (wpAny_mono (W_args (ks := []) he hst .nil ga R e1 rfl) (fun ar s2 z => ?_) fun _ _ z => z))
  obtain ⟨μ2, st2, R2, h2, k2⟩ := z
  rw [show ar.kw = [] from k2, List.nil_append]
  refine ⟨R2.kin ok, wpAny_mono (pok.make.2 env A ρ μ2 σ1 s2 vs ar.pos (ga.less (Nat.le_succ _)) R2 h2 r σ' q1) (fun y s3 z => ?_) fun _ _ z => z⟩
  first | refine post_elim z fun μ3 st3 R3 v3 => ?_ | obtain ⟨μ3, st3, R3, v3⟩ := z
  exact ⟨μ3, st2.trans st3, R3, v3⟩

/-- type(x) is T -/
theorem W_typeN {v : V} {x : Value} {nm : Str} {σ' : St} (R : Rel X ρ μ env σ s.heap) (hv : VR s.heap (okOf ρ μ) μ v x) (e : typeN v σ = some (nm, σ')) {Q : Value → Shared → Prop} (k : ∀ T : String, nm = Str.ofString T → T ∈ ["str", "list", "int", "NoneType"] → Q (.type T) s) :
    σ' = σ ∧ wpAny (model X.prog X.w) A (call (.type "type") [x]) Q (fun _ _ => False) s := by
  cases v with
  | dat d =>
    cases d with
    | str w =>
      cases e
      simp only [VR, DR] at hv
      obtain ⟨_, t, rfl⟩ := hv
      exact ⟨rfl, call_type_of (typeIs_str s _ t) (by decide +kernel) (k "str" rfl (by decide))⟩
    | list ds =>
      cases e
      simp only [VR] at hv
      obtain ⟨a, vs, rfl, hL, _⟩ := list_of_LR (DR.lr hv)
      exact ⟨rfl, call_type_of hL.typeIs (by decide +kernel) (k "list" rfl (by decide))⟩
    | int i =>
      cases e
      simp only [VR, DR] at hv
      obtain ⟨t, rfl⟩ := hv
      exact ⟨rfl, call_type_of (typeIs_int s _ t) (by decide +kernel) (k "int" rfl (by decide))⟩
    | none =>
      cases e
      simp only [VR, DR] at hv
      subst hv
      exact ⟨rfl, call_type_of (typeIs_none s) (by decide +kernel) (k "NoneType" rfl (by decide))⟩
    | _ => cases e
  | obj i =>
    have e : (match σ.heap[i]? with | some (.lst _) => some (Str.ofString "list", σ) | some (.frz _) => some (Str.ofString "list", σ) | _ => none) = some (nm, σ') := e
    split at e
    · rename_i ds hi
      cases e
      obtain ⟨a, vs, m, rfl, _, hL, _⟩ := root_list R hv hi
      exact ⟨rfl, call_type_of ⟨_, hL, rfl⟩ (by decide +kernel) (k "list" rfl (by decide))⟩
    · rename_i ds hi
      cases e
      obtain ⟨a, h1, rfl⟩ := hv
      obtain ⟨p, h2, vs, m, _, h5, _⟩ := R.objs i _ hi
      rw [root_some h2] at h1
      cases h1
      exact ⟨rfl, call_type_of ⟨_, h5, rfl⟩ (by decide +kernel) (k "list" rfl (by decide))⟩
    · cases e
  | rng lo hi => cases e
  | emp => cases e

noncomputable def typS (op : CmpOp) (m : M V) (t : Str) : M V := do
  let v ← m
  let n ← typeN v
  match op with
  | .Is => mpure (.dat (.bool (n = t)))
  | .IsNot => mpure (.dat (.bool !(n = t)))
  | _ => mfail

noncomputable def typOk (env : Env) (e : Expr) (t : Str) : Bool := noStar e && gKind env (Str.ofString "type") && gKind env t && (t == Str.ofString "str" || t == Str.ofString "list")

theorem typ_eq {T U : String} (h1 : T ∈ ["str", "list", "int", "NoneType"]) (h2 : U = "str" ∨ U = "list") : (Value.type T == Value.type U) = decide (Str.ofString T = Str.ofString U) := by
  simp only [List.mem_cons, List.not_mem_nil, or_false] at h1
  rcases h2 with rfl | rfl <;> rcases h1 with rfl | rfl | rfl | rfl <;> decide

theorem typ_core (ok : CxOk X) {p pos tp : Pos} {op : CmpOp} {e : Expr} {t : Str} {m : M V} (he : Ev X n env e m) (hc : typOk env e t = true) (ga : Ga n A) (R : Rel X ρ μ env σ s.heap) {r : V} {σ' : St} (q : typS op m t σ = some (r, σ')) :
    wpAny (model X.prog X.w) A (eval (.Call (.Name (Str.ofString "type") p) [e] [] pos) env) (fun a s₁ => wpAny (model X.prog X.w) A (eval (.Name t tp) env) (fun b s₂ => wpAny (model X.prog X.w) A (compareOp op a b) (Post X ρ μ env s VRr r σ') (fun _ _ => False) s₂) (fun _ _ => False) s₁) (fun _ _ => False) s := by
  unfold typOk at hc
  simp only [Bool.and_eq_true, Bool.or_eq_true, beq_iff_eq] at hc
  obtain ⟨⟨⟨h1, h2⟩, h3⟩, h4⟩ := hc
  have hst' : [e].all noStar = true := by simp [h1]
  unfold typS at q
  refine mbind_elim q fun v σ1 e1 q1 => ?_
  refine mbind_elim q1 fun nm σ2 e2 q2 => ?_
  have e1' : seqS [m] σ = some ([v], σ1) := by
    show (m >>= fun v => _) σ = _
    rw [bind_eq]; unfold mbind; rw [e1]; rfl
  refine Call_name ok R h2 (val_type ok) (PyProof.Rows.callWith_type (star_any hst') (wpAny_mono (W_args (ks := []) (EvL.cons he .nil) hst' .nil ga R e1' rfl) (fun ar s2 z => ?_) fun _ _ z => z))
  obtain ⟨μ2, st2, R2, ⟨x, rr, g1, g2, g3⟩, k2⟩ := z
  rw [show ar.kw = [] from k2, List.nil_append, g1, show rr = [] from g3]
  have hs := (W_typeN (A := A) (Q := fun _ _ => True) R2 g2 e2 (fun _ _ _ => trivial)).1
  refine And.right (W_typeN (A := A) R2 g2 e2 fun T hT hm => ?_)
  have hU : ∃ U : String, (U = "str" ∨ U = "list") ∧ t = Str.ofString U ∧ gval X t = some (.type U) := by
    rcases h4 with rfl | rfl
    · exact ⟨"str", .inl rfl, rfl, val_str ok⟩
    · exact ⟨"list", .inr rfl, rfl, val_list ok⟩
  obtain ⟨U, hU1, rfl, hU2⟩ := hU
  refine Name_glob ok R2 h3 hU2 ?_
  subst hT hs
  have hb := typ_eq hm hU1
  cases op <;> first | cases q2 | skip
  · refine wpAny_is_plain rfl ?_
    rw [hb]
    exact ⟨μ2, st2, R2, by show DR _ _ _ _; simp only [DR]⟩
  · refine wpAny_isNot_plain rfl ?_
    rw [hb]
    exact ⟨μ2, st2, R2, by show DR _ _ _ _; simp only [DR]⟩

theorem Te_Typ (ok : CxOk X) {p pos tp cp : Pos} {op : CmpOp} {e : Expr} {t : Str} {m : M V} (he : Ev X n env e m) (hc : typOk env e t = true) :
    Te X n env (.Compare (.Call (.Name (Str.ofString "type") p) [e] [] pos) [op] [.Name t tp] cp) (do let v ← typS op m t; truthS v) := by
  intro A ρ μ σ s ga R r σ' q
  refine mbind_elim q fun v σ1 e1 q1 => ?_
  refine wpAny_isTrue_Compare1 (wpAny_mono (typ_core ok he hc ga R e1) (fun _ _ z => wpAny_mono z (fun _ _ z => wpAny_mono z (fun c s3 z => ?_) fun _ _ z => z) fun _ _ z => z) fun _ _ z => z) (by cases op <;> rfl)
  first | refine post_elim z fun μ3 st3 R3 v3 => ?_ | obtain ⟨μ3, st3, R3, v3⟩ := z
  refine wpAny_mono (W_truthS R3 v3 r σ' q1) (fun c s3 z => ?_) fun _ _ z => z
  first | refine post_elim z fun μ4 st4 R4 v4 => ?_ | obtain ⟨μ4, st4, R4, v4⟩ := z
  exact ⟨μ4, st3.trans st4, R4, v4⟩

/-- self._headers -/
theorem find_hdr (ok : CxOk X) {t : Tok} {k : Nat} {al : Addr} : W.findObj X.K X.C (some (instDict X.w.params t k al)) hdrKey = some (.value (.ref al)) := by
  obtain ⟨cd, h1, h2⟩ := W.any_some ok.hasD
  unfold W.findObj
  rw [h1, Option.bind_some, ok.hd, Option.bind_some]
  show (W.ownOf cd (some (instDict X.w.params t k al)) hdrKey).bind _ = _
  unfold W.ownOf
  rw [h2]
  have hl : W.lookIn hdrKey (instDict X.w.params t k al) = some (some (.ref al)) := by
    unfold W.lookIn instDict
    have : (Value.str hdrKey t).isStr hdrKey = true := by unfold Value.isStr; simp
    simp [this]
  simp only [if_true, hl]
  rfl

theorem Ev_Attr (ok : CxOk X) {x : Str} {p pos : Pos} {name : Str} : Ev X n env (.Attribute (.Name x p) name pos) (do let ov ← nameS x; attrS ov name) := by
  intro A ρ μ σ s ga R r σ' q
  refine mbind_elim q fun ov σ1 e1 q1 => ?_
  refine PyProof.Rows.Attribute_name (wpAny_mono (Ev_Name (n := n) A ρ μ σ s ga R ov σ1 e1) (fun y s1 z => ?_) fun _ _ z => z)
  first | refine post_elim z fun μ1 st1 R1 v1 => ?_ | obtain ⟨μ1, st1, R1, v1⟩ := z
  unfold attrS at q1
  split at q1
  · rename_i i
    split at q1
    · rename_i l hi
      split at q1
      · rename_i hn
        cases q1
        subst hn
        obtain ⟨a, d, od, rfl, hr, I, hd, al, t, k, h3, rfl⟩ := inst_at R1 v1 hi
        refine W.get_value (R1.kin ok) I ok.ga (find_hdr ok) rfl ?_
        exact ⟨μ1, st1.trans (.grow (h' := s1.heap) fun _ _ e => e), R1, al, h3, rfl⟩
      · cases q1
    · cases q1
  · cases q1

end
end Mine
end

section
open PySem
set_option Elab.async false
set_option maxRecDepth 10000
namespace Mine

section
variable {X : Cx} {n : Nat} {env : Env} {P : Prm} {A : Around} {ρ : List Addr} {μ : Mu} {σ : St} {s : Shared} {h h' : Heap}

/-- the frame turns -/
theorem Rel.store (R : Rel X ρ μ env σ h) {c : Addr} (hc : c ∈ Mine.own env) (hs : Heap.SameBut c h h') (hl : ∃ o, h'.get? c = some o) {loc' : Str → Option V}
    (fr : ∃ m cm, FrameR env h' m cm ∧ ∀ x v, loc' x = some v → ∃ val, valOf env m cm x = some val ∧ VR h (okOf ρ μ) μ v val) : Rel X ρ μ env ⟨loc', σ.heap⟩ h' := by
  have k : ∀ b o, b ≠ c → h.get? b = some o → h'.get? b = some o := fun b o hb e => (hs.2 b hb).trans e
  have hcr := R.own c hc
  have kok : ∀ a ob, okOf ρ μ a → h.get? a = some ob → h'.get? a = some ob ∧ okOf ρ μ a := fun a ob q e => ⟨k a ob (fun hm => q.1 (hm ▸ hcr)) e, q⟩
  refine ⟨fun b ob e => k b ob (fun hm => ?_) (R.base b ob e), R.freshR, R.freshM, fun a ha => ?_, fun a ha => ?_, R.nod, R.dis, R.own, R.above, ?_, R.len, R.inj, ?_, R.frz⟩
  · subst hm; rw [R.freshR b hcr] at e; cases e
  · by_cases hm : a = c
    · subst hm; exact hl
    · obtain ⟨ob, e⟩ := R.liveR a ha; exact ⟨ob, k a ob hm e⟩
  · obtain ⟨ob, e⟩ := R.liveM a ha
    exact ⟨ob, k a ob (fun hm => R.dis c hcr (hm ▸ ha)) e⟩
  · obtain ⟨m, cm, F, l⟩ := fr
    refine ⟨m, cm, F, fun x v e => ?_⟩
    obtain ⟨val, h1, h2⟩ := l x v e
    exact ⟨val, h1, h2.mono (fun _ _ e => e) kok⟩
  · intro j oj e
    obtain ⟨q, h1, h2⟩ := R.objs j oj e
    refine ⟨q, h1, h2.mono (fun _ _ e => e) kok fun b hb ob e' => k b ob (fun hm => ?_) e'⟩
    subst hm
    rcases List.mem_cons.mp hb with rfl | hb
    · rcases h2.root_mem with h3 | ⟨ds, rfl⟩
      · exact R.dis _ hcr (foot_get h1 h3)
      · obtain ⟨vs, n, _, h4, _⟩ := h2
        exact R.frzOff h4 hc
    · exact R.dis _ hcr (foot_get h1 hb)

noncomputable def stOk (env : Env) (x : Str) : Bool := env.kindOf x == some .local || (env.kindOf x == some .cell && (env.cells.lookup x).isSome && env.func.isSome)

theorem Step.store {c : Addr} {tk : Nat} (hc : c ∈ Mine.wrt env) (hs : Heap.SameBut c s.heap h') (hl : ∃ o, h'.get? c = some o) : Step (Mine.wrt env) μ μ s { s with heap := h', toks := tk } :=
  ⟨⟨h', tk, rfl⟩, fun b o e _ ho => (hs.2 b (fun q => ho (q ▸ hc))).trans e, fun b o e => by
    by_cases q : b = c
    · subst q; exact hl
    · exact ⟨o, (hs.2 b q).trans e⟩, List.prefix_refl _, fun _ h => .inl h⟩

theorem cell_mem {x : Str} {c : Addr} (e : env.cells.lookup x = some c) : c ∈ Mine.own env := .tail _ (List.mem_map.mpr ⟨_, mem_of_lookup e, rfl⟩)

theorem cells_ne_locals (F : FrameR env h m cm) {c : Addr} (hc : ∃ n, (n, c) ∈ env.cells) : c ≠ env.locals := by
  rintro rfl
  obtain ⟨n, hn⟩ := hc
  obtain ⟨o, es, ep, h1, h2, _⟩ := F.ns
  obtain ⟨v, o', h3, h4⟩ := F.cells n _ hn
  rw [h1] at h3; cases h3
  rw [h2] at h4; cases h4

theorem IsCell.keep {c d : Addr} {v : Option Value} (hs : Heap.SameBut c h h') (hne : d ≠ c) (e : h.IsCell d v) : h'.IsCell d v := by
  obtain ⟨o, h1, h2⟩ := e
  exact ⟨o, (hs.2 d hne).trans h1, h2⟩

theorem pair_ne {l : List (Str × Addr)} (hp : l.Pairwise fun x y => x.2 ≠ y.2) {n n' : Str} {c : Addr} (h1 : (n, c) ∈ l) (h2 : (n', c) ∈ l) : n = n' := by
  induction hp with
  | nil => cases h1
  | cons ha _ ih =>
    rcases List.mem_cons.mp h1 with e1 | g1
    · rcases List.mem_cons.mp h2 with e2 | g2
      · rw [← e1] at e2; cases e2; rfl
      · exact absurd (by rw [← e1]) (ha _ g2)
    · rcases List.mem_cons.mp h2 with e2 | g2
      · exact absurd (by rw [← e2]) (ha _ g1)
      · exact ih g1 g2

/-- a name is bound -/
theorem W_setLoc {x : Str} {v : V} {y : Value} (hk : stOk env x = true) (R : Rel X ρ μ env σ s.heap) (hv : VR s.heap (okOf ρ μ) μ v y) : W X A ρ μ env s EqR (bindName env x y) (setLoc x v σ) := by
  intro u σ' e
  cases e
  obtain ⟨m, cm, F, l⟩ := R.frame
  unfold stOk at hk
  simp only [Bool.or_eq_true, Bool.and_eq_true, beq_iff_eq] at hk
  refine wpAny_bindName ?_
  rcases hk with hk | ⟨⟨hk, hc⟩, hfn⟩
  · refine wpAny_storeName_local hk F.ns (fun h' hn hs => ?_) (by rw [F.kind]; rfl)
    have hlv : ∃ o, h'.get? env.locals = some o := by obtain ⟨o, _, _, h1, _⟩ := hn; exact ⟨o, h1⟩
    refine ⟨μ, .store (.head _) hs hlv, R.store (.head _) hs hlv ⟨_, cm, ⟨F.kind, F.globals, F.builtins, hn, fun n c e => ?_, fun n c e => ?_, F.apart⟩, fun z w e => ?_⟩, rfl⟩
    · exact IsCell.keep hs (cells_ne_locals F ⟨n, mem_of_lookup e⟩) (F.cell n c e)
    · obtain ⟨w, q⟩ := F.cells n c e; exact ⟨w, IsCell.keep hs (cells_ne_locals F ⟨n, e⟩) q⟩
    · unfold upd at e
      split at e
      · rename_i hz
        cases e
        subst hz
        refine ⟨y, ?_, hv⟩
        unfold valOf; rw [hk]; simp
      · rename_i hz
        obtain ⟨val, h1, h2⟩ := l z w e
        refine ⟨val, ?_, h2⟩
        unfold valOf at h1 ⊢
        split at h1
        · simp only [if_neg hz]; exact h1
        · exact h1
        · cases h1
  · obtain ⟨c, hc⟩ := Option.isSome_iff_exists.mp hc
    refine wpAny_storeName_cell F.kind hk hc (F.cell x c hc) fun h' hn hs => ?_
    have hcm := cell_mem hc
    have hlv : ∃ o, h'.get? c = some o := by obtain ⟨o, h1, _⟩ := hn; exact ⟨o, h1⟩
    have hcl : env.locals ≠ c := fun q => cells_ne_locals F ⟨x, mem_of_lookup hc⟩ q.symm
    refine ⟨μ, .store (by unfold wrt; rw [if_pos hfn]; exact hcm) hs hlv, R.store hcm hs hlv ⟨m, fun z => if z = x then some y else cm z, ⟨F.kind, F.globals, F.builtins, F.ns.sameBut hs hcl, fun n c' e => ?_, fun n c' e => ?_, F.apart⟩, fun z w e => ?_⟩, rfl⟩
    · by_cases hz : n = x
      · subst hz; rw [hc] at e; cases e; simp only [if_true]; exact hn
      · simp only [if_neg hz]
        refine IsCell.keep hs (fun q => ?_) (F.cell n c' e)
        subst q
        exact hz (pair_ne F.apart (mem_of_lookup e) (mem_of_lookup hc))
    · by_cases q : c' = c
      · subst q; exact ⟨_, hn⟩
      · obtain ⟨w, q'⟩ := F.cells n c' e; exact ⟨w, IsCell.keep hs q q'⟩
    · unfold upd at e
      split at e
      · rename_i hz
        cases e
        subst hz
        refine ⟨y, ?_, hv⟩
        unfold valOf; rw [hk]; simp [hc]
      · rename_i hz
        obtain ⟨val, h1, h2⟩ := l z w e
        refine ⟨val, ?_, h2⟩
        unfold valOf at h1 ⊢
        split at h1
        · exact h1
        · simp only [if_neg hz]; exact h1
        · cases h1

end
end Mine
end

section
open PySem
set_option Elab.async false
set_option maxRecDepth 10000
namespace Mine

section
variable {X : Cx} {n : Nat} {env : Env} {P : Prm} {A : Around} {ρ : List Addr} {μ : Mu} {σ : St} {s : Shared}

end
end Mine
end

section
open PySem
set_option Elab.async false
set_option maxRecDepth 10000
namespace Mine

section
variable {X : Cx} {n : Nat} {env : Env} {P : Prm} {A : Around} {ρ : List Addr} {μ : Mu} {σ : St} {s : Shared}

theorem taker_hdr (ok : CxOk X) : W.takerIn X.K X.C hdrKey = some none := by
  unfold W.takerIn; rw [ok.hd]; rfl

theorem putName_empty (p : Params) (t : Tok) (al : Addr) : Obj.putName hdrKey (PyData.keyHash p hdrKey) (.str hdrKey t) (.ref al) W.emptyDict = instDict p t 1 al := by
  rw [Obj.putName_eq]; simp [Obj.putNameByArray, instDict]

/-- self._headers = l -/
theorem W_setAttrS (ok : CxOk X) {o v : V} {name : Str} {x z : Value} (R : Rel X ρ μ env σ s.heap) (ho : VR s.heap (okOf ρ μ) μ o x) (hv : VR s.heap (okOf ρ μ) μ v z) :
    W X A ρ μ env s EqR (setAttr x name z) (setAttrS o name v σ) := by
  intro u σ' e
  unfold setAttrS at e
  split at e
  · rename_i i l
    split at e
    · rename_i ds hi hl
      split at e
      · rename_i hn
        cases e
        subst hn
        obtain ⟨al, hal, rfl⟩ := hv
        obtain ⟨a, h1, rfl⟩ := ho
        obtain ⟨p, h2, d, h4, h5, h6⟩ := R.objs i _ hi
        rw [root_some h2] at h1
        cases h1
        obtain ⟨hh, g, dr, tk, os⟩ := s
        have K : X.K.In hh := R.kin ok
        have I : W.InstAt hh p.1 (W.instObj X.C d) X.C (some W.emptyDict) := ⟨h5, rfl, rfl, h6⟩
        refine W.set_plain K I ok.sa ?_
        refine W.osa_open K I ok.po (taker_hdr ok) fun b => ?_
        obtain ⟨cd, hc, hd'⟩ := W.any_some ok.hasD
        have L := W.looks_clsIn (M := model X.prog X.w) K hc
        refine wpAny_bind (wpAny_pure (wpAny_bind (wpAny_bind (wpAny_loadPart h5 (wpAny_bind (L.at ?_))))))
        rw [hd']
        refine wpAny_pure (a := some d) (wpAny_bind (wpAny_pure (wpAny_bind ?_)))
        unfold nsSet
        refine wpAny_bind (wpAny_bind (wpAny_askSetting (wpAny_pure (wpAny_bind (wpAny_mkText (wpAny_bind (wpAny_loadPart h6 ?_)))))))
        dsimp only
        rw [aRefKeyMayBeTheName_at, show (!(#[] : Array DictEntry).any (·.key.isStr hdrKey) && (#[] : Array DictEntry).any (·.refKey)) = false by simp]
        refine wpAny_updatePart h6 ?_
        have hpd : p.1 ≠ d := fun q => by
          have h5' : hh.get? p.1 = _ := h5
          have h6' : hh.get? d = _ := h6
          rw [q, h6'] at h5'; cases h5'
        have D' : (hh.update d (Obj.putName hdrKey (PyData.keyHash X.w.params hdrKey) (.str hdrKey (tk + 1)) (.ref al))).get? d = some (instDict X.w.params (tk + 1) 1 al) := by
          rw [Heap.get?_update_self _ h6 (by rw [putName_empty]; rfl), putName_empty]
        refine wpAny_bind (wpAny_lookBehind D' (pastItsLine_dict (by rw [sizeLine_eq]; show 1 ≤ _; decide)) (wpAny_pure ?_))
        have kf : ∀ b ob, b ∉ p.2 → hh.get? b = some ob → (hh.update d (Obj.putName hdrKey (PyData.keyHash X.w.params hdrKey) (.str hdrKey (tk + 1)) (.ref al))).get? b = some ob := by
          intro b ob hb e
          rw [h4] at hb
          exact (Heap.get?_update_other _ _ (fun q => hb (by rw [q]; simp))).trans e
        have h5' : (hh.update d (Obj.putName hdrKey (PyData.keyHash X.w.params hdrKey) (.str hdrKey (tk + 1)) (.ref al))).get? p.1 = some (W.instObj X.C d) := (Heap.get?_update_other _ _ (Ne.symm hpd)).trans h5
        have hl : ∀ b ∈ p.2, ∃ ob, (hh.update d (Obj.putName hdrKey (PyData.keyHash X.w.params hdrKey) (.str hdrKey (tk + 1)) (.ref al))).get? b = some ob := by
          intro b hb
          rw [h4] at hb
          simp only [List.mem_cons, List.not_mem_nil, or_false] at hb
          rcases hb with rfl | rfl
          · exact ⟨_, h5'⟩
          · exact ⟨_, D'⟩
        exact ⟨μ, .setObj h2 kf hl, R.setObj h2 (fun _ q => nomatch q) kf hl ⟨d, h4, h5', al, tk + 1, 1, hal, D'⟩, rfl⟩
      · cases e
    · cases e
  · cases e


/-! targets -/
noncomputable def As (X : Cx) (n : Nat) (env : Env) (t : Expr) (f : V → M Unit) : Prop :=
  ∀ A ρ μ σ s v x, Ga n A → Rel X ρ μ env σ s.heap → VR s.heap (okOf ρ μ) μ v x → W X A ρ μ env s EqR (assign t env x) (f v σ)

theorem As_Name {x : Str} {p : Pos} (hk : stOk env x = true) : As X n env (.Name x p) (setLoc x) := by
  intro A ρ μ σ s v y ga R hv
  show W X A ρ μ env s EqR (standAt p >>= fun _ => bindName env x y) _
  exact W_standAt (W_setLoc hk R hv)

theorem W_release {RV : RVt Unit Unit} {t : Sem Unit} {vs ks : List Value} {r : Option (Unit × St)} (h : W X A ρ μ env s RV t r) : W X A ρ μ env s RV (t >>= fun _ => release vs ks) r := by
  intro b σ' e
  exact wpAny_bind (wpAny_mono (h b σ' e) (fun _ _ z => wpAny_release z) fun _ _ z => z)

theorem As_Attr (ok : CxOk X) {o : Expr} {name : Str} {p : Pos} {mo : M V} (ho : Ev X n env o mo) : As X n env (.Attribute o name p) (fun v => do let ov ← mo; setAttrS ov name v) := by
  intro A ρ μ σ s v y ga R hv
  rw [arm_assign_Attribute]
  refine W_bind (W_holding (ho A ρ μ σ s ga R)) fun μ₁ s₁ a σ₁ x st₁ R₁ v₁ => W_standAt (W_release (W_holding (W_setAttrS ok R₁ v₁ (VR.step R st₁ hv))))

/-- a pair is unpacked -/
theorem As_Tuple {t u : Expr} {p : Pos} {k : Nat} {f g : V → M Unit} (ht : As X n env t f) (hu : As X n env u g) (hst : (noStar t && noStar u) = true) : As X n env (.Tuple [t, u] k p) (fun v => match v with
    | .dat (.tuple [a, b]) => (do f (.dat a); g (.dat b))
    | _ => mfail) := by
  intro A ρ μ σ s v y ga R hv w σ' e
  rw [Bool.and_eq_true] at hst
  cases v with
  | dat d =>
    cases d with
    | tuple l =>
      match l, e, hv with
      | [a, b], e, hv =>
        have hv : DR _ _ _ _ := hv
        simp only [DR, DRs] at hv
        obtain ⟨r, o, vs, m, rfl, hok, g1, g2, g3, x, _, g4, hx, x2, _, g6, hx2, g7⟩ := hv
        subst g7 g6
        refine mbind_elim e fun _ σ1 e1 e2 => ?_
        have hvs : vs = #[x, x2] := Array.toList_inj.mp g4
        subst hvs
        have hea : ∀ e : Expr, noStar e = true → ∀ r, assignEach (e :: r) env = (false, assign e env) :: assignEach r env := fun e he r => by cases e <;> first | rfl | cases he
        have hT : s.heap.IsTuple r #[x, x2] := ⟨o, g1, g2, m, g3⟩
        refine wpAny_assign_Tuple ga.handled hT (by rw [hea t hst.1, hea u hst.2]; rfl) (by rw [hea t hst.1, hea u hst.2]; rfl) fun h' he => ?_
        rw [hea t hst.1, hea u hst.2]
        have k1 : ∀ b o, s.heap.get? b = some o → h'.get? b = some o := fun b o e => he b o (Nat.ne_of_lt (Heap.lt_size e)) e
        have st0 : Step (wrt env) μ μ s { s with heap := h' } := .grow (tk := s.toks) k1
        have R0 : Rel X ρ μ env σ h' := R.ext k1
        refine wpAny_assignInOrder_more ?_
        refine wpAny_mono (ht A ρ μ σ { s with heap := h' } (.dat a) x ga R0 (VR.step R st0 (v := .dat a) hx) _ σ1 e1) (fun _ s1 z => ?_) fun _ _ z => z
        first | refine post_elim z fun μ1 st1 R1 _ => ?_ | obtain ⟨μ1, st1, R1, _⟩ := z
        refine wpAny_assignInOrder_more ?_
        refine wpAny_mono (hu A ρ μ1 σ1 s1 (.dat b) x2 ga R1 (VR.step (s := { s with heap := h' }) R0 st1 (VR.step R st0 (v := .dat b) hx2)) _ σ' e2) (fun _ s2 z => ?_) fun _ _ z => z
        first | refine post_elim z fun μ2 st2 R2 _ => ?_ | obtain ⟨μ2, st2, R2, _⟩ := z
        exact wpAny_assignInOrder_none ⟨μ2, (st0.trans st1).trans st2, R2, rfl⟩
      | [], e, _ => cases e
      | [_], e, _ => cases e
      | _ :: _ :: _ :: _, e, _ => cases e
    | _ => cases e
  | _ => cases e

end
end Mine
end

section
open PySem
set_option Elab.async false
set_option maxRecDepth 10000
namespace Mine

noncomputable def FlR : RVt Flow Fl := fun h ok μ f x => match f with
  | .next => x = .next
  | .brk => x = .brk
  | .cont => x = .cont
  | .ret v => ∃ y, x = .ret y ∧ VR h ok μ v y

noncomputable def Ex (X : Cx) (n : Nat) (env : Env) (st : Stmt) (m : M Fl) : Prop := Tr X n env FlR (exec st env) m
noncomputable def Exs (X : Cx) (n : Nat) (env : Env) (st : List Stmt) (m : M Fl) : Prop := Tr X n env FlR (execs st env) m

section
variable {X : Cx} {n : Nat} {env : Env} {P : Prm} {A : Around} {ρ : List Addr} {μ : Mu} {σ : St} {s : Shared}

theorem Rel.notInter (R : Rel X ρ μ env σ s.heap) : interactive env = false := by
  obtain ⟨m, cm, F, _⟩ := R.frame
  unfold interactive; rw [F.kind]; rfl

noncomputable def noComp : Expr → Bool
  | .ListComp .. => false
  | .SetComp .. => false
  | .DictComp .. => false
  | _ => true
theorem swaps_no {e : Expr} (h : noComp e = true) (t : Option Expr) (l : Nat) : swapsWith e t l env = pure false := by
  cases e <;> first | rfl | cases h

theorem Ex_Expr {e : Expr} {pos : Pos} {m : M V} (he : Ev X n env e m) (hc : noComp e = true) : Ex X n env (.Expr e pos) (do let _ ← m; mpure .next) := by
  intro A ρ μ σ s ga R r σ' q
  refine mbind_elim q fun v σ1 e1 q1 => ?_
  cases q1
  refine wpAny_Expr_any (wpAny_mono (he A ρ μ σ s ga R v _ e1) (fun y s1 z => ?_) fun _ _ z => z) R.notInter (swaps_no hc _ _)
  first | refine post_elim z fun μ1 st1 R1 _ => ?_ | obtain ⟨μ1, st1, R1, _⟩ := z
  exact ⟨μ1, st1, R1, rfl⟩

theorem Ex_Return {e : Expr} {pos : Pos} {m : M V} (he : Ev X n env e m) : Ex X n env (.Return (some e) pos) (do let v ← m; mpure (.ret v)) := fun A ρ μ σ s ga R => by
  rw [arm_exec_Return]
  exact W_standAt (W_bind (he A ρ μ σ s ga R) fun μ₁ s₁ a σ₁ x st₁ R₁ v₁ => W_pure R₁ ⟨x, rfl, v₁⟩)

noncomputable def swq : Expr → Expr → Bool
  | .Tuple .., .Tuple .. => false
  | .List .., .Tuple .. => false
  | _, _ => true
theorem swapped_no {t e : Expr} (h : swq t e = true) : swappedStores [t] e env = pure none := by
  cases t <;> first | rfl | (cases e <;> first | rfl | cases h)

theorem Ex_Assign {t e : Expr} {pos : Pos} {m : M V} {f : V → M Unit} (he : Ev X n env e m) (ht : As X n env t f) (h1 : noStar t = true) (h2 : swapsWith e (some t) pos.line env = pure false) (h3 : swappedStores [t] e env = pure none) :
    Ex X n env (.Assign [t] e pos) (do let v ← m; f v; mpure .next) := by
  intro A ρ μ σ s ga R r σ' q
  refine mbind_elim q fun v σ1 e1 q1 => ?_
  refine mbind_elim q1 fun u σ2 e2 q2 => ?_
  cases q2
  have hea : assignEach [t] env = [(false, assign t env)] := by cases t <;> first | rfl | cases h1
  refine wpAny_Assign_stores (wpAny_mono (he A ρ μ σ s ga R v σ1 e1) (fun y s1 z => ?_) fun _ _ z => z) h2 h3
  first | refine post_elim z fun μ1 st1 R1 v1 => ?_ | obtain ⟨μ1, st1, R1, v1⟩ := z
  rw [hea]
  refine wpAny_mono (ht A ρ μ1 σ1 s1 v y ga R1 v1 u _ e2) (fun _ s2 z => ?_) fun _ _ z => z
  first | refine post_elim z fun μ2 st2 R2 _ => ?_ | obtain ⟨μ2, st2, R2, _⟩ := z
  exact ⟨μ2, st1.trans st2, R2, rfl⟩

noncomputable def augOk : Operator → Bool
  | .Add => true
  | .Sub => true
  | _ => false

theorem W_inplace {op : Operator} {a b d : PyData} {x y : Value} (ho : augOk op = true) (R : Rel X ρ μ env σ s.heap) (ha : DR s.heap (okOf ρ μ) a x) (hb : DR s.heap (okOf ρ μ) b y) (e : binD op a b = some d) :
    wpAny (model X.prog X.w) A (inplaceOp op x y) (Post X ρ μ env s VRr (.dat d) σ) (fun _ _ => False) s := by
  cases op with
  | Add =>
    cases a with
    | int i => cases b with
      | int j =>
        cases e
        simp only [DR] at ha hb; obtain ⟨t, rfl⟩ := ha; obtain ⟨u, rfl⟩ := hb
        exact PyProof.Rows.iadd_int (post_tok R _ VR_int)
      | _ => cases e
    | str x' => cases b with
      | str y' =>
        have e' : (if x'.length + y'.length ≤ big then some (PyData.str (x' ++ y')) else none) = some d := e
        split at e'
        · rename_i hl
          cases e'
          simp only [DR] at ha hb; obtain ⟨q1, t, rfl⟩ := ha; obtain ⟨q2, u, rfl⟩ := hb
          refine PyProof.Rows.iadd_str (fun t' tk => post_tok R _ (VR_str ?_)) (Nat.le_trans hl big_le)
          unfold asc at *
          show List.all ((x'.cps ++ y'.cps).toList) pc = true
          rw [Array.toList_append, List.all_append, q1, q2]; rfl
        · cases e'
      | _ => cases e
    | _ => cases e
  | Sub =>
    cases a with
    | int i => cases b with
      | int j =>
        cases e
        simp only [DR] at ha hb; obtain ⟨t, rfl⟩ := ha; obtain ⟨u, rfl⟩ := hb
        exact PyProof.Rows.isub_int (post_tok R _ VR_int)
      | _ => cases e
    | _ => cases e
  | _ => cases ho

theorem binD_dbg {op : Operator} {b : Bool} {d : PyData} : binD op (.bool b) d = none := by cases op <;> rfl

theorem Ex_Aug {x : Str} {xp pos : Pos} {op : Operator} {e : Expr} {m : M V} (he : Ev X n env e m) (hk : stOk env x = true) (ho : augOk op = true) :
    Ex X n env (.AugAssign (.Name x xp) op e pos) (do
      let old ← nameS x
      let v ← m
      let a ← asDat old
      let b ← asDat v
      let d ← mopt (binD op a b)
      setLoc x (.dat d)
      mpure .next) := by
  intro A ρ μ σ s ga R r σ' q
  refine mbind_elim q fun old σ1 e1 q1 => ?_
  refine mbind_elim q1 fun v σ2 e2 q2 => ?_
  refine mbind_elim q2 fun a σ3 e3 q3 => ?_
  refine mbind_elim q3 fun b σ4 e4 q4 => ?_
  refine mbind_elim q4 fun d σ5 e5 q5 => ?_
  refine mbind_elim q5 fun u σ6 e6 q6 => ?_
  cases q6
  obtain ⟨e5', h5⟩ := mopt_some e5
  cases old with
  | dat old =>
    cases e3
    cases v with
    | dat v =>
      cases e4
      subst h5
      refine wpAny_AugAssign_Name ?_
      have hload : wpAny (model X.prog X.w) A (loadName env x) (fun y s' => s' = s ∧ σ1 = σ ∧ VR s.heap (okOf ρ μ) μ (.dat a) y) (fun _ _ => False) s := by
        unfold nameS at e1
        split at e1
        · cases e1; rw [binD_dbg] at e5'; cases e5'
        · unfold getLoc at e1
          obtain ⟨v', h1, h2⟩ := Option.map_eq_some_iff.mp e1
          cases h2
          obtain ⟨m', cm, F, l⟩ := R.frame
          obtain ⟨val, g1, g2⟩ := l x _ h1
          exact valOf_load (h := s.heap) F g1 ⟨rfl, rfl, g2⟩
      refine wpAny_mono hload (fun y s' z => ?_) fun _ _ z => z
      obtain ⟨rfl, rfl, v1⟩ := z
      refine wpAny_mono (he A ρ μ σ1 s' ga R _ _ e2) (fun y2 s2 z => ?_) fun _ _ z => z
      first | refine post_elim z fun μ2 st2 R2 v2 => ?_ | obtain ⟨μ2, st2, R2, v2⟩ := z
      refine wpAny_mono (W_inplace ho R2 (VR.step R st2 v1) v2 e5') (fun y3 s3 z => ?_) fun _ _ z => z
      first | refine post_elim z fun μ3 st3 R3 v3 => ?_ | obtain ⟨μ3, st3, R3, v3⟩ := z
      have zz := W_setLoc (A := A) hk R3 v3 u _ e6
      have zz' : wpAny (model X.prog X.w) A (storeName env x y3) (Post X ρ μ3 env s3 EqR u σ') (fun _ _ => False) s3 := by
        intro Γ p hΓ
        have := zz Γ p hΓ
        rw [Sem.wp_bindName] at this
        exact this
      refine wpAny_mono zz' (fun _ s4 z => ?_) fun _ _ z => z
      first | refine post_elim z fun μ4 st4 R4 _ => ?_ | obtain ⟨μ4, st4, R4, _⟩ := z
      exact ⟨μ4, (st2.trans st3).trans st4, R4, rfl⟩
    | obj j => cases e4
    | rng j k => cases e4
    | emp => cases e4
  | obj j => cases e3
  | rng j k => cases e3
  | emp => cases e3

theorem Ex_If {t : Expr} {b o : List Stmt} {pos : Pos} {mt : M Bool} {mb mo : M Fl} (ht : Te X n env t mt) (hb : Exs X n env b mb) (ho : Exs X n env o mo) :
    Ex X n env (.If t b o pos) (do let c ← mt; bif c then mb else mo) := by
  intro A ρ μ σ s ga R
  rw [arm_exec_If]
  refine W_standAt (W_bind (ht A ρ μ σ s ga R) fun μ₁ s₁ c σ₁ x st₁ R₁ v₁ => ?_)
  have : x = c := v₁
  subst this
  exact W_cond (fun _ => hb A ρ μ₁ σ₁ s₁ ga R₁) fun _ => ho A ρ μ₁ σ₁ s₁ ga R₁

theorem Exs_nil : Exs X n env [] (mpure .next) := fun A ρ μ σ s ga R => W_pure R rfl
theorem Exs_cons {st : Stmt} {r : List Stmt} {m k : M Fl} (h : Ex X n env st m) (hr : Exs X n env r k) : Exs X n env (st :: r) (do let f ← m; match f with | .next => k | f => mpure f) := by
  intro A ρ μ σ s ga R
  rw [arm_execs_cons]
  refine W_bind (h A ρ μ σ s ga R) fun μ₁ s₁ f σ₁ x st₁ R₁ v₁ => ?_
  cases f with
  | next => rw [show x = Flow.next from v₁]; exact hr A ρ μ₁ σ₁ s₁ ga R₁
  | brk => rw [show x = Flow.brk from v₁]; exact W_pure R₁ rfl
  | cont => rw [show x = Flow.cont from v₁]; exact W_pure R₁ rfl
  | ret v => obtain ⟨y, rfl, hy⟩ := v₁; exact W_pure R₁ ⟨y, rfl, hy⟩

end
end Mine
end

section
open PySem
set_option Elab.async false
set_option maxRecDepth 10000
namespace Mine

section
variable {X : Cx} {n : Nat} {env : Env} {P : Prm} {A : Around} {ρ : List Addr} {μ μ' : Mu} {σ : St} {s : Shared} {h h' : Heap}

theorem root_back (pre : μ <+: μ') {i : Nat} (hi : i < μ.length) : root μ' i = root μ i := by
  obtain ⟨r, rfl⟩ := pre
  unfold root
  rw [List.getElem?_append_left hi]
theorem get_back (pre : μ <+: μ') {i : Nat} (hi : i < μ.length) : μ'[i]? = μ[i]? := by
  obtain ⟨r, rfl⟩ := pre
  rw [List.getElem?_append_left hi]

theorem VR.cut (pre : μ <+: μ') {v : V} {x : Value} (hv : VR h (okOf ρ μ') μ' v x) (ho : okV μ.length v = true) : VR h (okOf ρ μ) μ v x := by
  have kok : ∀ a ob, okOf ρ μ' a → h.get? a = some ob → h.get? a = some ob ∧ okOf ρ μ a := fun a ob q e => ⟨e, q.1, fun hm => q.2 (foot_prefix pre hm)⟩
  cases v with
  | dat d => exact DR.mono kok hv
  | obj i =>
    obtain ⟨a, h1, h2⟩ := hv
    exact ⟨a, by rw [← root_back pre (of_decide_eq_true ho)]; exact h1, h2⟩
  | rng lo hi =>
    obtain ⟨r, t, u, w, h1, h2, h3⟩ := hv
    exact ⟨r, t, u, w, h1, (kok r _ h2 h3).2, h3⟩
  | emp =>
    obtain ⟨a, n, h1, h0, h2, h3⟩ := hv
    exact ⟨a, n, h1, h0, (kok a _ h2 h3).2, h3⟩

/-- what is behind n is forgotten -/
theorem Rel.cut (R : Rel X ρ μ' env σ h) (pre : μ <+: μ') {σ₁ : St} (e : cutM μ.length σ = some σ₁) : Rel X ρ μ env σ₁ h := by
  unfold cutM at e
  split at e
  · rename_i hall
    cases e
    have hlen : μ.length ≤ σ.heap.length := by rw [← R.len]; exact pre.length_le
    have hf : ∀ a, a ∈ foot μ → a ∈ foot μ' := fun a ha => foot_prefix pre ha
    have kok : ∀ a ob, okOf ρ μ' a → h.get? a = some ob → h.get? a = some ob ∧ okOf ρ μ a := fun a ob q e => ⟨e, q.1, fun hm => q.2 (hf a hm)⟩
    refine ⟨R.base, R.freshR, fun a ha => R.freshM a (hf a ha), R.liveR, fun a ha => R.liveM a (hf a ha), ?_, fun a ha hm => R.dis a ha (hf a hm), R.own, R.above, ?_, ?_, fun i j a h1 h2 => R.inj i j a (root_prefix pre h1) (root_prefix pre h2), ?_, ?_⟩
    · obtain ⟨r, rfl⟩ := pre
      have := R.nod
      rw [foot_append, List.nodup_append] at this
      exact this.1
    · obtain ⟨m, cm, F, l⟩ := R.frame
      refine ⟨m, cm, F, fun x v ex => ?_⟩
      obtain ⟨h1, h2⟩ := Option.filter_eq_some_iff.mp ex
      obtain ⟨val, h3, h4⟩ := l x v h1
      exact ⟨val, h3, h4.cut pre h2⟩
    · simp [Nat.min_eq_left hlen]
    · intro i o hi
      have hi' : i < μ.length := by
        have := (List.getElem?_eq_some_iff.mp hi).1
        rw [List.length_take] at this; omega
      have hi2 : σ.heap[i]? = some o := by rwa [List.getElem?_take_of_lt hi'] at hi
      have hoo : okO μ.length o = true := List.all_eq_true.mp hall o (List.mem_of_getElem? hi)
      obtain ⟨p, h1, h2⟩ := R.objs i o hi2
      refine ⟨p, by rw [← get_back pre hi']; exact h1, ?_⟩
      cases o with
      | lst ds => obtain ⟨vs, m, g1, g2, g3⟩ := h2; exact ⟨vs, m, g1, g2, DRs.mono kok g3⟩
      | frz ds => obtain ⟨vs, m, g1, g2, g3⟩ := h2; exact ⟨vs, m, g1, g2, DRs.mono kok g3⟩
      | inst l =>
        obtain ⟨d, g1, g2, g3⟩ := h2
        refine ⟨d, g1, g2, ?_⟩
        cases l with
        | none => exact g3
        | some k =>
          obtain ⟨al, t, m, g4, g5⟩ := g3
          exact ⟨al, t, m, by rw [← root_back pre (of_decide_eq_true hoo)]; exact g4, g5⟩
      | dctS kvs => exact DctR.mono kok (fun _ e => e) h2
      | dctI kvs => exact DctR.mono kok (fun _ e => e) h2
    · intro i ds hi a ha
      have hi' : i < μ.length := by
        have := (List.getElem?_eq_some_iff.mp hi).1
        rw [List.length_take] at this; omega
      have hi2 : σ.heap[i]? = some (.frz ds) := by rwa [List.getElem?_take_of_lt hi'] at hi
      exact R.frz i ds hi2 a (by rw [root_back pre hi']; exact ha)
  · cases e

theorem Step.cut {ow : List Addr} {s s' : Shared} (st : Step ow μ μ' s s') : Step ow μ μ s s' := ⟨st.same, st.keep, st.live, List.prefix_refl _, fun _ h => .inl h⟩

theorem FlR.cut (pre : μ <+: μ') {f : Fl} {x : Flow} (hv : FlR h (okOf ρ μ') μ' f x) (ho : okF μ.length f = true) : FlR h (okOf ρ μ) μ f x := by
  cases f with
  | ret v => obtain ⟨y, h1, h2⟩ := hv; exact ⟨y, h1, h2.cut pre ho⟩
  | _ => exact hv

theorem post_cut {f : Fl} {x : Flow} {s' : Shared} {σ' σ₁ : St} (z : Post X ρ μ env s FlR f σ' x s') (ho : okF μ.length f = true) (e : cutM μ.length σ' = some σ₁) :
    Step (Mine.wrt env) μ μ s s' ∧ Rel X ρ μ env σ₁ s'.heap ∧ FlR s'.heap (okOf ρ μ) μ f x := by
  first | refine post_elim z fun μ1 st R v => ?_ | obtain ⟨μ1, st, R, v⟩ := z
  exact ⟨st.cut, R.cut st.pre e, v.cut st.pre ho⟩

theorem scopeM_some {m : M Fl} {f : Fl} {σ' : St} (e : scopeM m σ = some (f, σ')) : ∃ σ₁, m σ = some (f, σ₁) ∧ okF σ.heap.length f = true ∧ cutM σ.heap.length σ₁ = some σ' := by
  unfold scopeM at e
  split at e
  · cases e
  · rename_i g σ1 hm
    split at e
    · rename_i ho
      obtain ⟨σ2, h1, h2⟩ := Option.map_eq_some_iff.mp e
      cases h2
      exact ⟨σ1, hm, ho, h1⟩
    · cases e

/-- reserved things are let go -/
theorem Rel.leave {wr : List Addr} (R : Rel X (wr ++ ρ) μ env σ h) (hw : ∀ a ∈ Mine.own env, a ∈ ρ) (hwo : ∀ a ∈ wr, a ∉ ρ) (hz : ∀ a ∈ wr, ∀ j, root μ j ≠ some a) (k : ∀ b o, b ∉ wr → h.get? b = some o → h'.get? b = some o) : Rel X ρ μ env σ h' := by
  have kok : ∀ a ob, okOf (wr ++ ρ) μ a → h.get? a = some ob → h'.get? a = some ob ∧ okOf ρ μ a := fun a ob q e => ⟨k a ob (fun hm => q.1 (List.mem_append_left _ hm)) e, fun hm => q.1 (List.mem_append_right _ hm), q.2⟩
  have ka : ∀ a ∈ ρ, a ∉ wr := fun a ha hm => hwo a hm ha
  have kf : ∀ a ∈ foot μ, a ∉ wr := fun a ha hm => R.dis a (List.mem_append_left _ hm) ha
  refine ⟨fun b o e => k b o (fun hm => ?_) (R.base b o e), fun a ha => R.freshR a (List.mem_append_right _ ha), R.freshM, fun a ha => ?_, fun a ha => ?_, R.nod, fun a ha => R.dis a (List.mem_append_right _ ha), hw, R.above, ?_, R.len, R.inj, ?_, ?_⟩
  · rw [R.freshR b (List.mem_append_left _ hm)] at e; cases e
  · obtain ⟨o, e⟩ := R.liveR a (List.mem_append_right _ ha); exact ⟨o, k a o (ka a ha) e⟩
  · obtain ⟨o, e⟩ := R.liveM a ha; exact ⟨o, k a o (kf a ha) e⟩
  · obtain ⟨m, cm, F, l⟩ := R.frame
    refine ⟨m, cm, F.at fun b hb o e => k b o (ka b (hw b hb)) e, fun x v e => ?_⟩
    obtain ⟨val, h1, h2⟩ := l x v e
    exact ⟨val, h1, h2.mono (fun _ _ e => e) kok⟩
  · intro j oj e
    obtain ⟨q, h1, h2⟩ := R.objs j oj e
    refine ⟨q, h1, h2.mono (fun _ _ e => e) kok fun b hb ob e' => k b ob (fun hm => ?_) e'⟩
    rcases List.mem_cons.mp hb with rfl | hb
    · rcases h2.root_mem with h3 | ⟨ds, rfl⟩
      · exact kf _ (foot_get h1 h3) hm
      · exact hz _ hm j (root_some h1)
    · exact kf _ (foot_get h1 hb) hm
  · intro i ds e a ha
    rcases List.mem_append.mp (R.frz i ds e a ha) with hm | hm
    · exact absurd ha (hz _ hm i)
    · exact hm

/-! for -/
noncomputable def plainIt (T : String) : Bool := !(["enumerate", "zip", "dict_itemiterator", "dict_reverseitemiterator", "odict_iterator", "itertools.zip_longest", "itertools.pairwise"].contains T)

noncomputable def ItAt (h : Heap) (I : Addr) : Prop := ∃ o T vs, h.get? I = some o ∧ o.cls = .type T ∧ o.data = .fields vs ∧ plainIt T = true

theorem letOwned {tgt : Expr} {I : Addr} {v : Value} {Q : Unit → Shared → Prop} {E : Value → Shared → Prop} (hI : ItAt s.heap I) (q : Q () s) : wpAny (model X.prog X.w) A (letOwnedTupleGo tgt (.ref I) v) Q E s := by
  obtain ⟨o, T, vs, h1, h2, h3, h4⟩ := hI
  unfold plainIt at h4
  rw [Bool.not_eq_true'] at h4
  have body : wpAny (model X.prog X.w) A (do
    let (.ref r, .ref a) := ((.ref I : Value), v) | return
    let o ← load r
    match o.cls, o.data with
    | .type n, .fields vs =>
      if ["enumerate", "zip", "dict_itemiterator", "dict_reverseitemiterator", "odict_iterator", "itertools.zip_longest", "itertools.pairwise"].contains n && vs[0]? == some (rawInt a) then
        rule "for.unpacks-the-owned-tuple"
        updateField r 0 .none
    | _, _ => pure () : Sem Unit) Q E s := by
    cases v with
    | ref a =>
      refine wpAny_bind (wpAny_load h1 ?_)
      rw [h2, h3]
      dsimp only
      rw [h4, Bool.false_and, if_neg (by decide)]
      exact wpAny_pure q
    | _ => exact wpAny_pure q
  unfold letOwnedTupleGo
  split
  · exact body
  · exact body
  · exact wpAny_pure q

/-- a walk over data -/
structure Itr (X : Cx) (A : Around) (ow : List Addr) (μ : Mu) (h₀ : Heap) (ok : Addr → Prop) (I : Addr) (ds : List V) (h₁ : Heap) : Prop where
  fresh : h₀.get? I = none
  keep : ∀ b o, h₀.get? b = some o → h₁.get? b = some o
  walk : ∃ fp P St, Walks X.prog X.w A I fp [I] ds.length P St ∧ I ∈ fp ∧ (∀ b ∈ fp, b ≠ I → b ∉ foot μ ∧ b ∉ ow ∧ ∃ o, h₀.get? b = some o) ∧ St 0 h₁ ∧ (∀ i v, i < ds.length → P i v → ∃ d, ds[i]? = some d ∧ VR h₀ ok μ d v) ∧ (∀ i h, St i h → ItAt h I)

theorem Itr.dat {X : Cx} {A : Around} {ow : List Addr} {μ : Mu} {h₀ h₁ : Heap} {ok : Addr → Prop} {I : Addr} {ds : List PyData} (f : h₀.get? I = none) (k : ∀ b o, h₀.get? b = some o → h₁.get? b = some o)
    (w : ∃ fp P St, Walks X.prog X.w A I fp [I] ds.length P St ∧ I ∈ fp ∧ (∀ b ∈ fp, b ≠ I → b ∉ foot μ ∧ b ∉ ow ∧ ∃ o, h₀.get? b = some o) ∧ St 0 h₁ ∧ (∀ i v, i < ds.length → P i v → ∃ d, ds[i]? = some d ∧ DR h₀ ok d v) ∧ (∀ i h, St i h → ItAt h I)) : Itr X A ow μ h₀ ok I (ds.map .dat) h₁ := by
  refine ⟨f, k, ?_⟩
  rw [List.length_map]
  obtain ⟨fp, P, St, h1, h2, h3, h4, h5, h6⟩ := w
  refine ⟨fp, P, St, h1, h2, h3, h4, fun i v hi hv => ?_, h6⟩
  obtain ⟨d, g1, g2⟩ := h5 i v hi hv
  exact ⟨.dat d, by rw [List.getElem?_map, g1]; rfl, g2⟩
theorem For_loop {tgt : Expr} {body : List Stmt} {bind : V → M Unit} {mb : M Fl} (hb : As X n env tgt bind) (hB : Exs X n env body mb) (ga : Ga n A) (R : Rel X ρ μ env σ s.heap) {I : Addr} {ds : List V} {h₁ : Heap} {tk : Nat}
    (it : Itr X A (own env) μ s.heap (okOf ρ μ) I ds h₁) {f : Fl} {σ' : St} (e : forS bind mb ds σ = some (f, σ')) :
    codeAny (model X.prog X.w) A (.forLoop tgt (.ref I) body [] env) (fun r s' => match r with | .ok x => Post X ρ μ env s FlR f σ' x s' | .error _ => False) { s with heap := h₁, toks := tk } := by
  obtain ⟨fp, P, Ss, hW, hIf, hfp, hst, hP, hlive⟩ := it.walk
  have hIρ : I ∉ ρ := fun hm => by obtain ⟨o, e⟩ := R.liveR I hm; rw [it.fresh] at e; cases e
  have hIμ : I ∉ foot μ := fun hm => by obtain ⟨o, e⟩ := R.liveM I hm; rw [it.fresh] at e; cases e
  have hIo : I ∉ own env := fun hm => hIρ (R.own I hm)
  have hIr : ∀ a ∈ [I], ∀ j, root μ j ≠ some a := all1 fun j hj => by
    obtain ⟨o, e⟩ := R.rootLive hj
    rw [it.fresh] at e; cases e
  have R₁ : Rel X ([I] ++ ρ) μ env σ h₁ := Rel.reserve (R.ext it.keep) (h₂ := s.heap) (all1 it.fresh) R it.keep (all1 (by obtain ⟨o, _, _, q, _⟩ := hlive 0 h₁ hst; exact ⟨o, q⟩))
  have leave : ∀ {σ₂ : St} {h₂ h₃ : Heap}, Rel X ([I] ++ ρ) μ env σ₂ h₂ → ItAt h₂ I → (∀ b o, b ∉ [I] → h₂.get? b = some o → h₃.get? b = some o) → Rel X ρ μ env σ₂ h₃ := fun r i k =>
    r.leave R.own (all1 hIρ) hIr k
  refine codeAny_forLoop_any (fun k s' => ∃ i σ₁, k = ds.length + 1 - i ∧ i ≤ ds.length ∧ Step (wrt env) μ μ s s' ∧ Rel X ([I] ++ ρ) μ env σ₁ s'.heap ∧ Ss i s'.heap ∧ forS bind mb (ds.drop i) σ₁ = some (f, σ')) ?_ (ds.length + 1)
    ⟨0, σ, rfl, Nat.zero_le _, .grow it.keep, R₁, hst, e⟩
  rintro k s' ⟨i, σ₁, rfl, hi, st, R₂, hSt, e₂⟩
  by_cases hlt : i < ds.length
  · refine hW.item i s' _ _ hlt hSt fun v h₂ tk₂ hv hSt₂ hk₂ => ?_
    obtain ⟨d, hd, hdr⟩ := hP i v hlt hv
    have hdrop : ds.drop i = d :: ds.drop (i + 1) := by
      rw [List.drop_eq_getElem_cons hlt]
      rw [List.getElem?_eq_getElem hlt] at hd
      cases hd; rfl
    rw [hdrop] at e₂
    simp only [forS] at e₂
    have it₂ := hlive _ _ hSt₂
    have R₃ : Rel X ([I] ++ ρ) μ env σ₁ h₂ := R₂.setRes (wr := [I]) (fun a ha => List.mem_append_left _ ha) (all1 hIo) (all1 (by obtain ⟨o, _, _, q, _⟩ := it₂; exact ⟨o, q⟩)) hIr hk₂
    have st₃ : Step (wrt env) μ μ s { s' with heap := h₂, toks := tk₂ } := by
      obtain ⟨hh, tt, es⟩ := st.same
      refine ⟨⟨h₂, tk₂, by rw [es]⟩, fun b o q1 q2 q3 => hk₂ b o (fun hm => ?_) (st.keep b o q1 q2 q3), fun b o q1 => ?_, List.prefix_refl _, fun _ h => .inl h⟩
      · exact nomatch (List.mem_singleton.mp hm ▸ q1).symm.trans it.fresh
      · obtain ⟨o', q'⟩ := st.live b o q1
        exact ⟨o', hk₂ b o' (fun hm => nomatch (List.mem_singleton.mp hm ▸ q1).symm.trans it.fresh) q'⟩
    have hv₃ : VR h₂ (okOf ([I] ++ ρ) μ) μ d v := VR.mono (fun _ _ e => e) (fun a o ok q => ⟨st₃.keep a o q ok.2 (fun hm => ok.1 (R.own a (wrt_own hm))), fun hm => by
      rcases List.mem_append.mp hm with hm | hm
      · exact nomatch (List.mem_singleton.mp hm ▸ q).symm.trans it.fresh
      · exact ok.1 hm, ok.2⟩) hdr
    cases hs : scopeM (do bind d; mb) σ₁ with
    | none => rw [hs] at e₂; cases e₂
    | some r =>
      obtain ⟨f2, σ₃⟩ := r
      rw [hs] at e₂
      obtain ⟨σm, g1, g2, g3⟩ := scopeM_some hs
      rw [← R₂.len] at g2 g3
      refine mbind_elim g1 fun u σb g4 g5 => ?_
      refine letOwned it₂ ?_
      refine wpAny_mono (hb A _ μ σ₁ { s' with heap := h₂, toks := tk₂ } d v ga R₃ hv₃ u σb g4) (fun _ s₄ z => ?_) fun _ _ z => z.elim
      first | refine post_elim z fun μ₄ st₄ R₄ _ => ?_ | obtain ⟨μ₄, st₄, R₄, _⟩ := z
      refine wpAny_mono (hB A _ μ₄ σb s₄ ga R₄ _ _ g5) (fun x s₅ z => ?_) fun _ _ z => z.elim
      first | refine post_elim z fun μ₅ st₅ R₅ v₅ => ?_ | obtain ⟨μ₅, st₅, R₅, v₅⟩ := z
      obtain ⟨st₆, R₆, v₆⟩ := post_cut (s := { s' with heap := h₂, toks := tk₂ }) ⟨μ₅, st₄.trans st₅, R₅, v₅⟩ g2 g3
      have hSt₆ : Ss (i + 1) s₅.heap := hW.frame _ _ _ hSt₂ fun b hb o q => by
        by_cases hbI : b = I
        · exact st₆.keep b o q (hbI ▸ hIμ) fun hm => hIo (hbI ▸ wrt_own hm)
        · exact st₆.keep b o q (hfp b hb hbI).1 fun hm => (hfp b hb hbI).2.1 (wrt_own hm)
      have it₆ := hlive _ _ hSt₆
      have st₇ := st₃.trans st₆
      cases f2 with
      | next =>
        rw [show x = Flow.next from v₆]
        exact ⟨ds.length + 1 - (i + 1), by omega, i + 1, σ₃, rfl, hlt, st₇, R₆, hSt₆, e₂⟩
      | cont =>
        rw [show x = Flow.cont from v₆]
        exact ⟨ds.length + 1 - (i + 1), by omega, i + 1, σ₃, rfl, hlt, st₇, R₆, hSt₆, e₂⟩
      | brk =>
        rw [show x = Flow.brk from v₆]
        cases e₂
        exact ⟨μ, st₇, leave R₆ it₆ fun _ _ _ e => e, rfl⟩
      | ret v =>
        obtain ⟨y, rfl, hy⟩ := v₆
        cases e₂
        refine ⟨μ, st₇, leave R₆ it₆ fun _ _ _ e => e, y, rfl, hy.mono (fun _ _ e => e) fun a o ok q => ⟨q, fun hm => ok.1 (List.mem_append_right _ hm), ok.2⟩⟩
  · have hin : i = ds.length := by omega
    subst hin
    rw [List.drop_length] at e₂
    cases e₂
    refine hW.done s' _ _ hSt fun h₂ tk₂ hk₂ => ?_
    refine wpAny_execs_nil ⟨μ, ?_, leave R₂ (hlive _ _ hSt) hk₂, rfl⟩
    obtain ⟨hh, tt, es⟩ := st.same
    refine ⟨⟨h₂, tk₂, by rw [es]⟩, fun b o q1 q2 q3 => hk₂ b o (fun hm => ?_) (st.keep b o q1 q2 q3), fun b o q1 => ?_, List.prefix_refl _, fun _ h => .inl h⟩
    · exact nomatch (List.mem_singleton.mp hm ▸ q1).symm.trans it.fresh
    · obtain ⟨o', q'⟩ := st.live b o q1
      exact ⟨o', hk₂ b o' (fun hm => nomatch (List.mem_singleton.mp hm ▸ q1).symm.trans it.fresh) q'⟩

end
end Mine
end

section
open PySem
set_option Elab.async false
set_option maxRecDepth 10000
namespace Mine

section
variable {X : Cx} {n : Nat} {env : Env} {P : Prm} {A : Around} {ρ : List Addr} {μ μ' : Mu} {σ : St} {s : Shared} {h h' : Heap}

theorem foot_cons (p : Addr × List Addr) (μ : Mu) : foot (p :: μ) = p.2 ++ foot μ := by simp [foot]

theorem foot_set (a : Addr) (fp : List Addr) : ∀ {μ : Mu} {i : Nat} {p : Addr × List Addr}, μ[i]? = some p → (foot μ).Nodup → fp.Nodup → (∀ b ∈ fp, b ∈ p.2 ∨ b ∉ foot μ) →
    (∀ b, b ∈ foot (μ.set i (a, fp)) ↔ (b ∈ foot μ ∧ b ∉ p.2) ∨ b ∈ fp) ∧ (foot (μ.set i (a, fp))).Nodup
  | [], i, p, e, _, _, _ => by simp at e
  | q :: μ, 0, p, e, hn, hf, hc => by
    simp at e; subst e
    rw [foot_cons, List.nodup_append] at hn
    obtain ⟨h1, h2, h3⟩ := hn
    simp only [List.set_cons_zero, foot_cons]
    refine ⟨fun b => ?_, ?_⟩
    · simp only [List.mem_append]
      constructor
      · rintro (hb | hb)
        · exact .inr hb
        · exact .inl ⟨.inr hb, fun hq => h3 b hq b hb rfl⟩
      · rintro (⟨hb | hb, hq⟩ | hb)
        · exact absurd hb hq
        · exact .inr hb
        · exact .inl hb
    · rw [List.nodup_append]
      refine ⟨hf, h2, fun x hx y hy hxy => ?_⟩
      subst hxy
      rcases hc x hx with hh | hh
      · exact h3 x hh x hy rfl
      · exact hh (by rw [foot_cons]; exact List.mem_append_right _ hy)
  | q :: μ, i + 1, p, e, hn, hf, hc => by
    simp at e
    rw [foot_cons, List.nodup_append] at hn
    obtain ⟨h1, h2, h3⟩ := hn
    have hpm : ∀ b ∈ p.2, b ∈ foot μ := fun b hb => foot_get e hb
    obtain ⟨ih1, ih2⟩ := foot_set a fp e h2 hf (fun b hb => by
      rcases hc b hb with hh | hh
      · exact .inl hh
      · exact .inr fun hm => hh (by rw [foot_cons]; exact List.mem_append_right _ hm))
    simp only [List.set_cons_succ, foot_cons]
    refine ⟨fun b => ?_, ?_⟩
    · simp only [List.mem_append, ih1]
      constructor
      · rintro (hb | (⟨hb, hq⟩ | hb))
        · exact .inl ⟨.inl hb, fun hq => h3 b hb b (hpm b hq) rfl⟩
        · exact .inl ⟨.inr hb, hq⟩
        · exact .inr hb
      · rintro (⟨hb | hb, hq⟩ | hb)
        · exact .inl hb
        · exact .inr (.inl ⟨hb, hq⟩)
        · exact .inr (.inr hb)
    · rw [List.nodup_append]
      refine ⟨h1, ih2, fun x hx y hy hxy => ?_⟩
      subst hxy
      rcases (ih1 x).mp hy with ⟨hb, _⟩ | hb
      · exact h3 x hx x hb rfl
      · rcases hc x hb with hh | hh
        · exact h3 x hx x (hpm x hh) rfl
        · exact hh (by rw [foot_cons]; exact List.mem_append_left _ hx)

theorem root_set {i : Nat} {p : Addr × List Addr} (e : μ[i]? = some p) (fp : List Addr) (j : Nat) : root (μ.set i (p.1, fp)) j = root μ j := by
  unfold root
  rw [List.getElem?_set]
  split
  · rename_i hij
    subst hij
    rw [if_pos (List.getElem?_eq_some_iff.mp e).1, e]; rfl
  · rfl

/-- a list is laid by -/
theorem Rel.freeze (R : Rel X ρ μ env σ h) {i : Nat} {a : Addr} {ds : List PyData} (hi : σ.heap[i]? = some (.lst ds)) (hp : μ[i]? = some (a, [a])) :
    Rel X ([a] ++ ρ) (μ.set i (a, [])) env ⟨σ.loc, σ.heap.set i (.frz ds)⟩ h := by
  obtain ⟨fs, fn⟩ := foot_set a [] hp R.nod (by simp) (by simp)
  have hfs : ∀ b, b ∈ foot (μ.set i (a, [])) ↔ b ∈ foot μ ∧ b ≠ a := fun b => by rw [fs]; simp
  have ham : a ∈ foot μ := foot_get hp (by simp)
  have haρ : a ∉ ρ := fun hm => R.dis a hm ham
  have hrt : ∀ j, root (μ.set i (a, [])) j = root μ j := root_set hp []
  have kok : ∀ b ob, okOf ρ μ b → h.get? b = some ob → h.get? b = some ob ∧ okOf ([a] ++ ρ) (μ.set i (a, [])) b := fun b ob q e => ⟨e, fun hm => by
    rcases List.mem_append.mp hm with hm | hm
    · simp at hm; subst hm; exact q.2 ham
    · exact q.1 hm, fun hm => q.2 ((hfs b).mp hm).1⟩
  have hpr : ∀ j b, root μ j = some b → root (μ.set i (a, [])) j = some b := fun j b e => by rw [hrt]; exact e
  refine ⟨R.base, fun b hb => ?_, fun b hb => R.freshM b ((hfs b).mp hb).1, fun b hb => ?_, fun b hb => R.liveM b ((hfs b).mp hb).1, fn, fun b hb hm => ?_, fun b hb => List.mem_append_right _ (R.own b hb), R.above, ?_, by simp [R.len], fun j k b h1 h2 => R.inj j k b (by rw [← hrt]; exact h1) (by rw [← hrt]; exact h2), ?_, ?_⟩
  · rcases List.mem_append.mp hb with hb | hb
    · simp at hb; subst hb; exact R.freshM b ham
    · exact R.freshR b hb
  · rcases List.mem_append.mp hb with hb | hb
    · simp at hb; subst hb; exact R.liveM b ham
    · exact R.liveR b hb
  · rcases List.mem_append.mp hb with hb | hb
    · simp at hb; subst hb; exact ((hfs b).mp hm).2 rfl
    · exact R.dis b hb ((hfs b).mp hm).1
  · obtain ⟨m, cm, F, l⟩ := R.frame
    refine ⟨m, cm, F, fun x v e => ?_⟩
    obtain ⟨val, h1, h2⟩ := l x v e
    exact ⟨val, h1, h2.mono hpr kok⟩
  · intro j o e
    rw [List.getElem?_set] at e
    split at e
    · rename_i hij
      subst hij
      split at e
      · cases e
        obtain ⟨p, h1, vs, m, h2, h3, h4⟩ := R.objs i _ hi
        rw [hp] at h1; cases h1
        refine ⟨(a, []), ?_, vs, m, rfl, h3, DRs.mono kok h4⟩
        rw [List.getElem?_set_self (List.getElem?_eq_some_iff.mp hp).1]
      · cases e
    · rename_i hij
      obtain ⟨p, h1, h2⟩ := R.objs j o e
      refine ⟨p, by rw [List.getElem?_set_ne hij]; exact h1, h2.mono hpr kok fun _ _ _ e => e⟩
  · intro j es e b hb
    rw [List.getElem?_set] at e
    rw [hrt] at hb
    split at e
    · rename_i hij
      subst hij
      split at e
      · cases e
        rw [root_some hp] at hb; cases hb
        simp
      · cases e
    · exact List.mem_append_right _ (R.frz j es e b hb)

/-- and taken up again -/
theorem Rel.thaw {i : Nat} {a : Addr} {ds : List PyData} {vs : Array Value} {m : Nat} (R : Rel X ([a] ++ ρ) μ env σ h) (hp : μ[i]? = some (a, [])) (ha : a ∉ ρ) (ho : ∀ b ∈ Mine.own env, b ∈ ρ)
    (hL : h.get? a = some { cls := .type "list", data := .seq vs m }) (hd : DRs h (okOf ([a] ++ ρ) μ) ds vs.toList) :
    Rel X ρ (μ.set i (a, [a])) env ⟨σ.loc, σ.heap.set i (.lst ds)⟩ h ∧ (∀ b, okOf ([a] ++ ρ) μ b → okOf ρ (μ.set i (a, [a])) b) ∧ (∀ b, b ∈ foot (μ.set i (a, [a])) → b ∈ foot μ ∨ b = a) := by
  have haμ : a ∉ foot μ := R.dis a (by simp)
  obtain ⟨fs, fn⟩ := foot_set a [a] hp R.nod (by simp) (fun b hb => by simp at hb; subst hb; exact .inr haμ)
  have hfs : ∀ b, b ∈ foot (μ.set i (a, [a])) ↔ b ∈ foot μ ∨ b = a := fun b => by rw [fs]; simp
  have hrt : ∀ j, root (μ.set i (a, [a])) j = root μ j := root_set hp [a]
  have hok : ∀ b, okOf ([a] ++ ρ) μ b → okOf ρ (μ.set i (a, [a])) b := fun b q => ⟨fun hm => q.1 (List.mem_append_right _ hm), fun hm => by
    rcases (hfs b).mp hm with hm | hm
    · exact q.2 hm
    · subst hm; exact q.1 (by simp)⟩
  have kok : ∀ b ob, okOf ([a] ++ ρ) μ b → h.get? b = some ob → h.get? b = some ob ∧ okOf ρ (μ.set i (a, [a])) b := fun b ob q e => ⟨e, hok b q⟩
  have hpr : ∀ j b, root μ j = some b → root (μ.set i (a, [a])) j = some b := fun j b e => by rw [hrt]; exact e
  refine ⟨⟨R.base, fun b hb => R.freshR b (List.mem_append_right _ hb), fun b hb => ?_, fun b hb => R.liveR b (List.mem_append_right _ hb), fun b hb => ?_, fn, fun b hb hm => ?_, ho, R.above, ?_, by simp [R.len], fun j k b h1 h2 => R.inj j k b (by rw [← hrt]; exact h1) (by rw [← hrt]; exact h2), ?_, ?_⟩, hok, fun b hb => (hfs b).mp hb⟩
  · rcases (hfs b).mp hb with hb | hb
    · exact R.freshM b hb
    · subst hb; exact R.freshR b (by simp)
  · rcases (hfs b).mp hb with hb | hb
    · exact R.liveM b hb
    · subst hb; exact R.liveR b (by simp)
  · rcases (hfs b).mp hm with hm | hm
    · exact R.dis b (List.mem_append_right _ hb) hm
    · subst hm; exact ha hb
  · obtain ⟨m, cm, F, l⟩ := R.frame
    refine ⟨m, cm, F, fun x v e => ?_⟩
    obtain ⟨val, h1, h2⟩ := l x v e
    exact ⟨val, h1, h2.mono hpr kok⟩
  · intro j o e
    rw [List.getElem?_set] at e
    split at e
    · rename_i hij
      subst hij
      split at e
      · cases e
        refine ⟨(a, [a]), ?_, vs, m, rfl, hL, DRs.mono kok hd⟩
        rw [List.getElem?_set_self (List.getElem?_eq_some_iff.mp hp).1]
      · cases e
    · rename_i hij
      obtain ⟨p, h1, h2⟩ := R.objs j o e
      refine ⟨p, by rw [List.getElem?_set_ne hij]; exact h1, h2.mono hpr kok fun _ _ _ e => e⟩
  · intro j es e b hb
    rw [List.getElem?_set] at e
    rw [hrt] at hb
    split at e
    · split at e
      · cases e
      · cases e
    · rename_i hij
      rcases List.mem_append.mp (R.frz j es e b hb) with hm | hm
      · simp at hm; subst hm
        exact absurd (R.inj i j b (by rw [root_some hp]) hb) hij
      · exact hm

/-- from the laid-by world back -/
theorem thaw_core (R : Rel X ρ μ env σ s.heap) {i : Nat} {ds : List PyData} (hi : σ.heap[i]? = some (.lst ds)) {a : Addr} (hp : μ[i]? = some (a, [a])) {μ₁ : Mu} {s' : Shared} {σ' : St}
    (st : Step (wrt env) (μ.set i (a, [])) μ₁ s s') {ρ' : List Addr} (hρ : ∀ b ∈ ρ', b ∈ ρ ∨ s.heap.get? b = none) (hoρ : ∀ b ∈ own env, b ∈ ρ') (R' : Rel X ([a] ++ ρ') μ₁ env σ' s'.heap) :
    ∃ μ₂, Step (wrt env) μ μ₂ s s' ∧ Rel X ρ' μ₂ env ⟨σ'.loc, σ'.heap.set i (.lst ds)⟩ s'.heap ∧ (∀ b, okOf ([a] ++ ρ') μ₁ b → okOf ρ' μ₂ b) ∧ (∀ j b, root μ₁ j = some b → root μ₂ j = some b) := by
  have ham : a ∈ foot μ := foot_get hp (by simp)
  have haρ : a ∉ ρ := fun hm => R.dis a hm ham
  obtain ⟨p, h1, vs, m, h2, h3, h4⟩ := R.objs i _ hi
  rw [hp] at h1; cases h1
  have haρ' : a ∉ ρ' := fun hm => by
    rcases hρ a hm with hm | hm
    · exact haρ hm
    · have h3' : s.heap.get? a = _ := h3
      rw [hm] at h3'; cases h3'
  obtain ⟨fs, fn⟩ := foot_set a [] hp R.nod (by simp) (by simp)
  have hfs : ∀ b, b ∈ foot (μ.set i (a, [])) ↔ b ∈ foot μ ∧ b ≠ a := fun b => by rw [fs]; simp
  have hlt : i < μ.length := (List.getElem?_eq_some_iff.mp hp).1
  have hao : a ∉ own env := R.frzOff h3
  have hp1 : μ₁[i]? = some (a, []) := by
    obtain ⟨r, hr⟩ := st.pre
    rw [← hr, List.getElem?_append_left (by simpa using hlt), List.getElem?_set_self hlt]
  have hL : s'.heap.get? a = some { cls := .type "list", data := .seq vs m } := st.keep a _ h3 (fun hm => ((hfs a).mp hm).2 rfl) (fun hm => hao (wrt_own hm))
  have hd : DRs s'.heap (okOf ([a] ++ ρ') μ₁) ds vs.toList := DRs.mono (fun b o q e => by
    have q0 : b ∉ [a] ++ ρ' := fun hm => by
      rcases List.mem_append.mp hm with hm | hm
      · simp at hm; subst hm; exact q.2 ham
      · rcases hρ b hm with hm | hm
        · exact q.1 hm
        · rw [e] at hm; cases hm
    have q1 : okOf ([a] ++ ρ') (μ.set i (a, [])) b := ⟨q0, fun hm => q.2 ((hfs b).mp hm).1⟩
    exact st.ok (ρ := [a] ++ ρ') (fun x hx => List.mem_append_right _ (hoρ x (wrt_own hx))) b o q1 e) h4
  obtain ⟨RR, hok, hft⟩ := R'.thaw hp1 haρ' hoρ hL hd
  refine ⟨_, ⟨st.same, fun b o e hm ho => st.keep b o e (fun hm' => hm ((hfs b).mp hm').1) ho, st.live, ?_, fun b hb => ?_⟩, RR, hok, fun j b e => by rw [root_set hp1]; exact e⟩
  · obtain ⟨r, hr⟩ := st.pre
    refine ⟨r, ?_⟩
    rw [← hr, List.set_append_left _ _ (by simpa using hlt), List.set_set]
    congr 1
    apply List.ext_getElem?
    intro j
    rw [List.getElem?_set]
    split
    · rename_i hij
      subst hij
      first | (rw [if_pos hlt, hp]) | exact hp | (simp [hlt, hp])
    · rfl
  · rcases hft b hb with hm | hm
    · rcases st.new b hm with h | h
      · exact .inl ((hfs b).mp h).1
      · exact .inr h
    · subst hm; exact .inl ham


/-! what may be walked over -/
theorem Itr_list {ax : Addr} {vs : Array Value} {ds : List PyData} {k : Nat} (ga : Ga k A) (hL : s.heap.IsList ax vs) (hds : DRs s.heap (okOf ρ μ) ds vs.toList) (h1 : ax ∉ foot μ) (h2 : ax ∉ own env) :
    Itr X A (own env) μ s.heap (okOf ρ μ) s.heap.objs.size (ds.map .dat) (s.heap.push { cls := .type "list_iterator", data := .fields #[.ref ax, .int 0 0] }) := by
  have ln := hds.length
  rw [Array.length_toList] at ln
  have hne : ax ≠ s.heap.objs.size := by obtain ⟨o, ho, _⟩ := hL; exact Nat.ne_of_lt (Heap.lt_size ho)
  have hW := Walks.list (prog := X.prog) (w := X.w) ga.handled s.heap.objs.size ax hne vs
  rw [ln] at hW
  refine Itr.dat (fresh_size _) (fun _ _ e => Heap.get?_push_of_some _ e) ⟨_, _, _, hW, by simp, fun b hb hbI => ?_, ⟨⟨_, Heap.get?_push_size _ rfl, rfl, rfl⟩, hL.at fun o e => Heap.get?_push_of_some _ e⟩, fun i v hi hv => ?_, fun i h st => ?_⟩
  · simp at hb
    rcases hb with rfl | rfl
    · exact absurd rfl hbI
    · exact ⟨h1, h2, by obtain ⟨o, ho, _⟩ := hL; exact ⟨o, ho⟩⟩
  · obtain ⟨d, hd, hr⟩ := hds.getV (k := i) (v := v) (by rw [Array.getElem?_toList]; exact hv)
    exact ⟨d, hd, hr⟩
  · obtain ⟨o, g1, g2, g3⟩ := st.1
    exact ⟨o, _, _, g1, g2, g3, by decide⟩

theorem Itr_tuple {ax : Addr} {vs : Array Value} {ds : List PyData} {k : Nat} (ga : Ga k A) (hL : s.heap.IsTuple ax vs) (hds : DRs s.heap (okOf ρ μ) ds vs.toList) (h1 : ax ∉ foot μ) (h2 : ax ∉ own env) :
    Itr X A (own env) μ s.heap (okOf ρ μ) s.heap.objs.size (ds.map .dat) (s.heap.push { cls := .type "tuple_iterator", data := .fields #[.ref ax, .int 0 0] }) := by
  have ln := hds.length
  rw [Array.length_toList] at ln
  have hne : ax ≠ s.heap.objs.size := by obtain ⟨o, ho, _⟩ := hL; exact Nat.ne_of_lt (Heap.lt_size ho)
  have hW := Walks.tuple (prog := X.prog) (w := X.w) ga.handled s.heap.objs.size ax hne vs
  rw [ln] at hW
  refine Itr.dat (fresh_size _) (fun _ _ e => Heap.get?_push_of_some _ e) ⟨_, _, _, hW, by simp, fun b hb hbI => ?_, ⟨⟨_, Heap.get?_push_size _ rfl, rfl, rfl⟩, by obtain ⟨o, ho, r⟩ := hL; exact ⟨o, Heap.get?_push_of_some _ ho, r⟩⟩, fun i v hi hv => ?_, fun i h st => ?_⟩
  · simp at hb
    rcases hb with rfl | rfl
    · exact absurd rfl hbI
    · exact ⟨h1, h2, by obtain ⟨o, ho, _⟩ := hL; exact ⟨o, ho⟩⟩
  · obtain ⟨d, hd, hr⟩ := hds.getV (k := i) (v := v) (by rw [Array.getElem?_toList]; exact hv)
    exact ⟨d, hd, hr⟩
  · obtain ⟨o, g1, g2, g3⟩ := st.1
    exact ⟨o, _, _, g1, g2, g3, by decide⟩

theorem asc128 {x : Str} (ha : asc x = true) : x.cps.all (· < 128) = true := by
  rw [← Array.all_toList, List.all_eq_true]
  intro c hc
  have := asc_lt ha c hc
  exact decide_eq_true (by omega)

theorem Itr_str {x : Str} {t : Tok} {k : Nat} (ga : Ga k A) (ha : asc x = true) :
    Itr X A (own env) μ s.heap (okOf ρ μ) s.heap.objs.size ((chars x).map .dat) (s.heap.push { cls := .type "str_ascii_iterator", data := .fields #[.str x t, .int 0 0] }) := by
  have hW := Walks.strAscii (prog := X.prog) (w := X.w) ga.handled s.heap.objs.size x t
  have hlen : x.cps.size = (chars x).length := by simp [chars]
  rw [hlen] at hW
  refine Itr.dat (fresh_size _) (fun _ _ e => Heap.get?_push_of_some _ e) ⟨_, _, _, hW, by simp, fun b hb hbI => ?_, ⟨_, Heap.get?_push_size _ rfl, rfl, rfl⟩, fun i v hi hv => ?_, fun i h st => ?_⟩
  · simp at hb; exact absurd hb hbI
  · obtain ⟨c, u, h1, rfl⟩ := hv
    refine ⟨.str ⟨#[c]⟩, ?_, ?_⟩
    · unfold chars
      rw [List.getElem?_map, Array.getElem?_toList, h1]; rfl
    · simp only [DR]
      refine ⟨?_, u, rfl⟩
      unfold asc at ha ⊢
      rw [List.all_eq_true] at ha
      simp only [List.all_cons, List.all_nil, Bool.and_true]
      exact ha c (mem_of_at h1)
  · obtain ⟨o, g1, g2, g3⟩ := st
    exact ⟨o, _, _, g1, g2, g3, by decide⟩

theorem Itr_range {lo hi : Int} {k : Nat} (ga : Ga k A) :
    Itr X A (own env) μ s.heap (okOf ρ μ) s.heap.objs.size ((intsD lo hi).map .dat) (s.heap.push { cls := .type "range_iterator", data := .fields #[rawInt lo, rawInt (Builtin.Range.rangeSize lo hi 1), rawInt 1] }) := by
  have hW := Walks.range (prog := X.prog) (w := X.w) ga.handled s.heap.objs.size lo 1 (intsD lo hi).length
  refine Itr.dat (fresh_size _) (fun _ _ e => Heap.get?_push_of_some _ e) ⟨_, _, _, hW, by simp, fun b hb hbI => ?_, ?_, fun i v hi hv => ?_, fun i h st => ?_⟩
  · simp at hb; exact absurd hb hbI
  · have : (s.heap.push { cls := .type "range_iterator", data := .fields #[rawInt lo, rawInt (Builtin.Range.rangeSize lo hi 1), rawInt 1] }).get? s.heap.objs.size = _ := Heap.get?_push_size _ rfl
    show IsRangeIter _ _ _ _ _
    unfold IsRangeIter
    rw [this, rangeSize_eq, intsD_length]
    simp
  · obtain ⟨t, rfl⟩ := hv
    refine ⟨.int (lo + i), ?_, by simp only [DR]; exact ⟨t, by simp⟩⟩
    rw [intsD_length] at hi
    unfold intsD
    rw [List.getElem?_map, List.getElem?_range hi]; rfl
  · exact ⟨_, _, _, st, rfl, rfl, by decide⟩


theorem Walk_any {α β : Type} {v : V} {x : Value} {m : List V → M β} {k : Nat} (ga : Ga k A) (T : Value → (α → Shared → Prop) → Shared → Prop) (hT : ∀ it Q Q' s', (∀ y s'', Q y s'' → Q' y s'') → T it Q s' → T it Q' s')
    (G : List Addr → Mu → β → St → α → Shared → Prop)
    (hG : ∀ {ρ : List Addr} {μ : Mu} {σ : St} {i : Nat} {ds : List PyData} {a : Addr}, Rel X ρ μ env σ s.heap → σ.heap[i]? = some (.lst ds) → μ[i]? = some (a, [a]) → ∀ r σ' y s', G ([a] ++ ρ) (μ.set i (a, [])) r σ' y s' → G ρ μ r ⟨σ'.loc, σ'.heap.set i (.lst ds)⟩ y s')
    (hm : ∀ {ρ : List Addr} {μ : Mu} {σ : St}, Rel X ρ μ env σ s.heap → ∀ I ds h₁ tk, Itr X A (own env) μ s.heap (okOf ρ μ) I ds h₁ → ∀ r σ', m ds σ = some (r, σ') → T (.ref I) (G ρ μ r σ') { s with heap := h₁, toks := tk })
    (R : Rel X ρ μ env σ s.heap) (hv : VR s.heap (okOf ρ μ) μ v x) {r : β} {σ' : St} (e : walkV m v σ = some (r, σ')) :
    wpAny (model X.prog X.w) A (pyIter x) (fun it s₂ => T it (G ρ μ r σ') s₂) (fun _ _ => False) s := by
  cases v with
  | dat d =>
    simp only [walkV] at e
    cases hd : itemsD d with
    | some ds =>
      rw [hd] at e
      unfold itemsD at hd
      split at hd
      · cases hd
        simp only [VR, DR] at hv
        obtain ⟨a, o, vs, nn, rfl, ok, h2, h3, h4, h5⟩ := hv
        have hL : s.heap.IsList a vs := ⟨o, h2, h3, nn, h4⟩
        refine wpAny_pyIter_list hL ?_
        exact hm R _ _ _ s.toks (Itr_list ga hL h5 ok.2 (fun hm => ok.1 (R.own _ hm))) r σ' e
      · cases hd
        simp only [VR, DR] at hv
        obtain ⟨a, o, vs, nn, rfl, ok, h2, h3, h4, h5⟩ := hv
        have hL : s.heap.IsTuple a vs := ⟨o, h2, h3, nn, h4⟩
        refine wpAny_pyIter_tuple hL ?_
        exact hm R _ _ _ s.toks (Itr_tuple ga hL h5 ok.2 (fun hm => ok.1 (R.own _ hm))) r σ' e
      · cases hd
        simp only [VR, DR] at hv
        obtain ⟨ha, t, rfl⟩ := hv
        refine wpAny_pyIter_ascii (asc128 ha) ?_
        exact hm R _ _ _ s.toks (Itr_str ga ha) r σ' e
      · cases hd
    | none => rw [hd] at e; cases e
  | rng lo hi =>
    simp only [walkV] at e
    split at e
    · rename_i hs
      obtain ⟨a, t, u, w, rfl, ok, hr⟩ := hv
      refine wpAny_pyIter_range hr (small_range hs).1 ?_
      exact hm R _ _ _ s.toks (Itr_range ga) r σ' e
    · cases e
  | emp => cases e
  | obj i =>
    simp only [walkV, frozenG] at e
    split at e
    · rename_i ds hi
      split at e
      · cases e
      · rename_i f σ2 h2
        cases e
        obtain ⟨p, g1, vs, mm, g2, g3, g4⟩ := R.objs i _ hi
        obtain ⟨a, h1, rfl⟩ := hv
        rw [root_some g1] at h1; cases h1
        have g1' : μ[i]? = some (p.1, [p.1]) := by rw [g1, ← g2]
        have Rf := R.freeze hi g1'
        obtain ⟨q, k1, ws, mm2, k2, k3, k4⟩ := Rf.objs i (.frz ds) (by rw [List.getElem?_set_self (List.getElem?_eq_some_iff.mp hi).1])
        have k1' : (μ.set i (p.1, []))[i]? = some (p.1, []) := by rw [List.getElem?_set_self (List.getElem?_eq_some_iff.mp g1).1]
        rw [k1'] at k1; cases k1
        have hL : s.heap.IsList p.1 ws := ⟨_, k3, rfl, mm2, rfl⟩
        refine wpAny_pyIter_list hL ?_
        refine hT _ _ _ _ (fun y s'' z => hG R hi g1' _ _ _ _ z) (hm Rf _ _ _ s.toks (Itr_list ga hL k4 (Rf.dis _ (by simp)) (Rf.frzOff k3)) _ _ h2)
    · rename_i ds hi
      obtain ⟨p, g1, vs, mm, g2, g3, g4⟩ := R.objs i _ hi
      obtain ⟨a, h1, rfl⟩ := hv
      rw [root_some g1] at h1; cases h1
      have hL : s.heap.IsList p.1 vs := ⟨_, g3, rfl, mm, rfl⟩
      refine wpAny_pyIter_list hL ?_
      exact hm R _ _ _ s.toks (Itr_list ga hL g4 (R.dis _ (R.frz i ds hi _ (root_some g1))) (R.frzOff g3)) _ _ e
    · cases e

/-- for -/
theorem Ex_For {tgt it : Expr} {body : List Stmt} {pos : Pos} {bind : V → M Unit} {mb : M Fl} {mi : M V} (hi : Ev X n env it mi) (hb : As X n env tgt bind) (hB : Exs X n env body mb) (hset : ∀ x, foldedSetIterable it env x = pure x) :
    Ex X n env (.For tgt it body [] pos) (do let v ← mi; forV bind mb v) := by
  intro A ρ μ σ s ga R f σ' e
  refine mbind_elim e fun v σ1 e1 q => ?_
  refine wpAny_For (wpAny_mono (hi A ρ μ σ s ga R v σ1 e1) (fun x s1 z => ?_) fun _ _ z => z) hset
  first | refine post_elim z fun μ1 st1 R1 v1 => ?_ | obtain ⟨μ1, st1, R1, v1⟩ := z
  refine wpAny_mono (Walk_any (α := Flow) ga (fun it Q s' => codeAny (model X.prog X.w) A (.forLoop tgt it body [] env) (fun r s'' => match r with | .ok x => Q x s'' | .error _ => False) s') (fun it Q Q' s' hq z => codeAny_mono z fun r s'' y => ?_)
    (fun ρ μ r σ' => Post X ρ μ env s1 FlR r σ') (fun R hi hp r σ' y s' z => ?_) (fun R I ds h₁ tk itr r σ' e => For_loop hb hB ga R itr e) R1 v1 q) (fun it s2 z => codeAny_mono z fun r s'' y => ?_) fun _ _ z => z
  · cases r with
    | ok x => exact hq _ _ y
    | error x => exact y
  · first | refine post_elim z fun μ2 st2 R2 v2 => ?_ | obtain ⟨μ2, st2, R2, v2⟩ := z
    obtain ⟨μ3, st3, R3, hok, hrt⟩ := thaw_core R hi hp st2 (fun _ h => .inl h) R.own R2
    refine ⟨μ3, st3, R3, ?_⟩
    cases r with
    | ret w => obtain ⟨y', h1, h2⟩ := v2; exact ⟨y', h1, h2.mono hrt fun a o q e => ⟨e, hok a q⟩⟩
    | _ => exact v2
  · cases r with
    | ok x =>
      obtain ⟨μ2, st2, R2, v2⟩ := y
      exact ⟨μ2, st1.trans st2, R2, v2⟩
    | error x => exact y.elim

end
end Mine
end

section
open PySem
set_option Elab.async false
set_option maxRecDepth 10000
namespace Mine

section
variable {X : Cx} {n : Nat} {env : Env} {P : Prm} {A : Around} {ρ : List Addr} {μ μ' : Mu} {σ : St} {s : Shared} {h h' : Heap}

/-- a list just made, still reserved -/
noncomputable def FreshR (X : Cx) (ρ : List Addr) (μ : Mu) (env : Env) (s : Shared) (ds : List PyData) (σ' : St) : Value → Shared → Prop := fun x s' =>
  ∃ a vs m, x = .ref a ∧ s.heap.get? a = none ∧ Step (wrt env) μ μ s s' ∧ Rel X ([a] ++ ρ) μ env σ' s'.heap ∧ s'.heap.get? a = some { cls := .type "list", data := .seq vs m } ∧ DRs s'.heap (okOf ([a] ++ ρ) μ) ds vs.toList

theorem Rel.noRoot (R : Rel X ρ μ env σ h) {wr : List Addr} (hf : ∀ a ∈ wr, h.get? a = none) : ∀ a ∈ wr, ∀ j, root μ j ≠ some a := fun a ha j hj => by
  obtain ⟨o, e⟩ := R.rootLive hj
  rw [hf a ha] at e; cases e
theorem Rel.notIn (R : Rel X ρ μ env σ h) {a : Addr} (hf : h.get? a = none) : a ∉ ρ ∧ a ∉ foot μ := R.okNew hf

theorem FreshR.dat' {ρ' : List Addr} (R : Rel X ρ μ env σ s.heap) {ds : List PyData} {σ' : St} {x : Value} {s' : Shared} (ho : ∀ b ∈ own env, b ∈ ρ') (hρ : ∀ b ∈ ρ', b ∈ ρ ∨ ∀ vs m, s'.heap.get? b ≠ some { cls := .type "list", data := .seq vs m })
    (f : FreshR X ρ' μ env s ds σ' x s') : Post X ρ' μ env s VRr (.dat (.list ds)) σ' x s' := by
  obtain ⟨a, vs, m, rfl, hf, st, R', hL, hd⟩ := f
  have hfs : ∀ b ∈ [a], s.heap.get? b = none := fun b hb => by simp at hb; subst hb; exact hf
  have ha : a ∉ ρ' := fun hm => by
    rcases hρ a hm with h | h
    · exact (R.notIn hf).1 h
    · exact h vs m hL
  refine ⟨μ, st, R'.leave ho (fun b hb => by simp at hb; subst hb; exact ha) (R.noRoot hfs) fun _ _ _ e => e, ?_⟩
  show DR _ _ _ _
  simp only [DR]
  exact ⟨a, _, vs, m, rfl, ⟨ha, (R.notIn hf).2⟩, hL, rfl, rfl, DRs.mono (fun b o q e => ⟨e, fun hm => q.1 (List.mem_append_right _ hm), q.2⟩) hd⟩
theorem FreshR.dat (R : Rel X ρ μ env σ s.heap) {ds : List PyData} {σ' : St} {x : Value} {s' : Shared} (f : FreshR X ρ μ env s ds σ' x s') : Post X ρ μ env s VRr (.dat (.list ds)) σ' x s' :=
  FreshR.dat' R R.own (fun _ h => .inl h) f

/-- a reserved list becomes an object -/
theorem Rel.adopt {a : Addr} {ds : List PyData} {vs : Array Value} {m : Nat} (R : Rel X ([a] ++ ρ) μ env σ h) (ha : a ∉ ρ) (ho : ∀ b ∈ Mine.own env, b ∈ ρ) (hr : ∀ j, root μ j ≠ some a) (hL : h.get? a = some { cls := .type "list", data := .seq vs m })
    (hd : DRs h (okOf ([a] ++ ρ) μ) ds vs.toList) : Rel X ρ (μ ++ [(a, [a])]) env ⟨σ.loc, σ.heap ++ [.lst ds]⟩ h := by
  have hfl : ∀ b, b ∈ foot (μ ++ [(a, [a])]) ↔ b ∈ foot μ ∨ b = a := fun b => by rw [foot_append, List.mem_append]; simp [foot]
  have haμ : a ∉ foot μ := R.dis a (by simp)
  have hok : ∀ b o, okOf ([a] ++ ρ) μ b → h.get? b = some o → h.get? b = some o ∧ okOf ρ (μ ++ [(a, [a])]) b := fun b o q e => ⟨e, fun hm => q.1 (List.mem_append_right _ hm), fun hm => by
    rcases (hfl b).mp hm with hm | hm
    · exact q.2 hm
    · subst hm; exact q.1 (by simp)⟩
  have hpre : ∀ i b, root μ i = some b → root (μ ++ [(a, [a])]) i = some b := fun i b => root_prefix (List.prefix_append _ _)
  have hcase : ∀ j b, root (μ ++ [(a, [a])]) j = some b → root μ j = some b ∨ (j = μ.length ∧ b = a) := fun j b hj => by
    unfold root at hj ⊢
    rw [List.getElem?_append] at hj
    split at hj
    · exact .inl hj
    · right
      have hj' : j = μ.length := by
        obtain ⟨p, h1, _⟩ := Option.map_eq_some_iff.mp hj
        have := (List.getElem?_eq_some_iff.mp h1).1
        simp at this; omega
      subst hj'
      simp at hj
      exact ⟨rfl, hj.symm⟩
  refine ⟨R.base, fun b hb => R.freshR b (List.mem_append_right _ hb), fun b hb => ?_, fun b hb => R.liveR b (List.mem_append_right _ hb), fun b hb => ?_, ?_, fun b hb hm => ?_, ho, R.above, ?_, by simp [R.len], fun i j b hi hj => ?_, fun i o e => ?_, fun i es e b hb => ?_⟩
  · rcases (hfl b).mp hb with hb | hb
    · exact R.freshM b hb
    · subst hb; exact R.freshR b (by simp)
  · rcases (hfl b).mp hb with hb | hb
    · exact R.liveM b hb
    · subst hb; exact R.liveR b (by simp)
  · rw [foot_append, List.nodup_append]
    refine ⟨R.nod, by simp [foot], fun x hx y hy => ?_⟩
    simp [foot] at hy
    rintro rfl; subst hy
    exact haμ hx
  · rcases (hfl b).mp hm with hm | hm
    · exact R.dis b (List.mem_append_right _ hb) hm
    · subst hm; exact ha hb
  · obtain ⟨m, cm, F, l⟩ := R.frame
    refine ⟨m, cm, F, fun x v e => ?_⟩
    obtain ⟨val, h1, h2⟩ := l x v e
    exact ⟨val, h1, h2.mono hpre hok⟩
  · rcases hcase i b hi with h1 | ⟨h1, h2⟩ <;> rcases hcase j b hj with h3 | ⟨h3, h4⟩
    · exact R.inj i j b h1 h3
    · subst h4; exact (hr i h1).elim
    · subst h2; exact (hr j h3).elim
    · rw [h1, h3]
  · rw [List.getElem?_append] at e
    split at e
    · rename_i hi
      obtain ⟨p, h1, h2⟩ := R.objs i o e
      exact ⟨p, by rw [List.getElem?_append_left (by rw [R.len]; exact hi)]; exact h1, h2.mono hpre hok fun b _ ob q => q⟩
    · rename_i hi
      have hi' : i = σ.heap.length := by
        have := (List.getElem?_eq_some_iff.mp e).1
        simp at this; omega
      subst hi'
      simp at e; subst e
      refine ⟨(a, [a]), ?_, vs, m, rfl, hL, DRs.mono hok hd⟩
      rw [← R.len, List.getElem?_append_right (Nat.le_refl _)]; simp
  · rw [List.getElem?_append] at e
    split at e
    · rename_i hi
      have hb' : root μ i = some b := by
        unfold root at hb ⊢
        rwa [List.getElem?_append_left (by rw [R.len]; exact hi)] at hb
      rcases List.mem_append.mp (R.frz i es e b hb') with hm | hm
      · simp at hm; subst hm; exact absurd hb' (hr i)
      · exact hm
    · rename_i hi
      have hi' : i = σ.heap.length := by
        have := (List.getElem?_eq_some_iff.mp e).1
        simp at this; omega
      subst hi'
      simp at e

theorem FreshR.obj' {ρ' : List Addr} (R : Rel X ρ μ env σ s.heap) {ds : List PyData} {σ' : St} {x : Value} {s' : Shared} (ho : ∀ b ∈ own env, b ∈ ρ') (hρ : ∀ b ∈ ρ', b ∈ ρ ∨ ∀ vs m, s'.heap.get? b ≠ some { cls := .type "list", data := .seq vs m })
    (f : FreshR X ρ' μ env s ds σ' x s') : Post X ρ' μ env s VRr (.obj σ'.heap.length) ⟨σ'.loc, σ'.heap ++ [.lst ds]⟩ x s' := by
  obtain ⟨a, vs, m, rfl, hf, st, R', hL, hd⟩ := f
  have hfs : ∀ b ∈ [a], s.heap.get? b = none := fun b hb => by simp at hb; subst hb; exact hf
  have ha : a ∉ ρ' := fun hm => by
    rcases hρ a hm with h | h
    · exact (R.notIn hf).1 h
    · exact h vs m hL
  refine ⟨μ ++ [(a, [a])], ⟨st.same, st.keep, st.live, List.prefix_append _ _, fun b hb => ?_⟩, R'.adopt ha ho (fun j => R.noRoot hfs a (by simp) j) hL hd, ?_⟩
  · rw [foot_append, List.mem_append] at hb
    rcases hb with hb | hb
    · exact .inl hb
    · simp [foot] at hb; subst hb; exact .inr hf
  · exact ⟨a, by rw [← R'.len]; exact root_last, rfl⟩
/-! the frame of a comprehension -/
noncomputable def clsC (cells : List (Str × Addr)) : List (Str × NameKind) → List (Str × Addr) → List (Str × Addr)
  | [], acc => acc
  | (n, k) :: r, acc => if k == .free then clsC cells r ((n, (cells.lookup n).getD 0) :: acc) else clsC cells r acc

noncomputable def compOk (env : Env) (sc : Scope) : Bool := sc.kind == .function && sc.names.all (fun p => p.2 != .cell && (p.2 != .local || sc.names.lookup p.1 == some .local) &&
  (p.2 != .free || (sc.names.lookup p.1 == some .free && env.kindOf p.1 == some .cell && (env.cells.lookup p.1).isSome))) && decide ((sc.names.map (·.1)).Nodup)

theorem closure_go {env : Env} : ∀ {names : List (Str × NameKind)} {acc : List (Str × Addr)}, (∀ p ∈ names, p.2 = .free → (env.cells.lookup p.1).isSome = true) →
    (forIn names acc fun x r => if x.2 == .free then cellOf env x.1 >>= fun c => pure (ForInStep.yield ((x.1, c) :: r)) else pure (ForInStep.yield r) : Sem (List (Str × Addr))) = pure (clsC env.cells names acc)
  | [], acc, _ => rfl
  | (nm, k) :: r, acc, hk => by
    rw [List.forIn_cons]
    unfold clsC
    cases hf : (k == NameKind.free) with
    | true =>
      simp only [hf, if_true]
      obtain ⟨c, hc⟩ := Option.isSome_iff_exists.mp (hk (nm, k) (.head _) (by simpa using hf))
      have e1 : cellOf env nm = pure c := by unfold cellOf; rw [hc]
      rw [e1]
      simp only [pure_bind]
      rw [closure_go fun p hp => hk p (.tail _ hp), hc]; rfl
    | false =>
      simp only [hf, Bool.false_eq_true, if_false, pure_bind]
      exact closure_go fun p hp => hk p (.tail _ hp)

theorem closure_eq {env : Env} {sc : Scope} (hk : ∀ p ∈ sc.names, p.2 = .free → (env.cells.lookup p.1).isSome = true) : closureFor sc env = pure (clsC env.cells sc.names []) := by
  have e := closure_go (acc := []) hk
  unfold closureFor
  simp only [bind_pure]
  exact e


theorem clsC_mem {cells : List (Str × Addr)} : ∀ {names : List (Str × NameKind)} {acc : List (Str × Addr)} {p : Str × Addr}, p ∈ clsC cells names acc → p ∈ acc ∨ ((p.1, NameKind.free) ∈ names ∧ p.2 = (cells.lookup p.1).getD 0)
  | [], _, _, h => .inl h
  | (nm, k) :: r, acc, p, h => by
    unfold clsC at h
    split at h
    · rename_i hk
      rcases clsC_mem h with h | ⟨h1, h2⟩
      · rcases List.mem_cons.mp h with rfl | h
        · have hk' : k = .free := by simpa using hk
          subst hk'
          exact .inr ⟨.head _, rfl⟩
        · exact .inl h
      · exact .inr ⟨.tail _ h1, h2⟩
    · rcases clsC_mem h with h | ⟨h1, h2⟩
      · exact .inl h
      · exact .inr ⟨.tail _ h1, h2⟩

theorem clsC_keys {cells : List (Str × Addr)} : ∀ {names : List (Str × NameKind)} {acc : List (Str × Addr)}, (clsC cells names acc).map (·.1) = ((names.filter (·.2 == .free)).map (·.1)).reverse ++ acc.map (·.1)
  | [], _ => rfl
  | (nm, k) :: r, acc => by
    unfold clsC
    cases hk : (k == NameKind.free) with
    | true => simp only [hk, if_true, List.filter_cons, List.map_cons, List.reverse_cons]; rw [clsC_keys]; simp
    | false => simp only [hk, Bool.false_eq_true, if_false, List.filter_cons]; exact clsC_keys

theorem lookup_isSome {l : List (Str × Addr)} {x : Str} (h : x ∈ l.map (·.1)) : (l.lookup x).isSome = true := by
  induction l with
  | nil => simp at h
  | cons p l ih =>
    rw [List.lookup_cons]
    cases q : (x == p.1) with
    | true => rfl
    | false =>
      rw [List.map_cons] at h
      rcases List.mem_cons.mp h with rfl | h
      · simp at q
      · exact ih h

theorem lookup_relabel_free {env : Env} (hk : env.scope.kind = .function) : ∀ {names : List (Str × NameKind)} {x : Str}, names.lookup x = some .free → env.kindOf x = some .cell →
    (names.map fun (n, k) => if (k == NameKind.free && env.scope.kind == .function && env.kindOf n == some .cell) then (n, NameKind.cell) else (n, k)).lookup x = some .cell
  | [], _, h, _ => by simp at h
  | (nm, k) :: r, x, h, hc => by
    have ih := @lookup_relabel_free env hk r x
    show List.lookup x ((if (k == NameKind.free && env.scope.kind == .function && env.kindOf nm == some .cell) = true then (nm, NameKind.cell) else (nm, k)) :: _) = _
    cases hx : x == nm with
    | true =>
      have hxe : x = nm := by simpa using hx
      subst hxe
      simp only [List.lookup_cons, hx] at h
      cases h
      rw [if_pos (by rw [hk, hc]; rfl)]
      simp [List.lookup_cons]
    | false =>
      simp only [List.lookup_cons, hx] at h
      by_cases hcc : (k == NameKind.free && env.scope.kind == .function && env.kindOf nm == some .cell) = true
      · rw [if_pos hcc]; simp only [List.lookup_cons, hx]; exact ih h hc
      · rw [if_neg hcc]; simp only [List.lookup_cons, hx]; exact ih h hc

noncomputable def cenvOf (sc : Scope) (C : Addr) (env : Env) : Env := compEnvC sc (clsC env.cells sc.names []) C env

theorem compOk_parts {env : Env} {sc : Scope} (h : compOk env sc = true) : sc.kind = .function ∧ (∀ p ∈ sc.names, p.2 ≠ .cell) ∧ (∀ p ∈ sc.names, p.2 = .local → sc.names.lookup p.1 = some .local) ∧
    (∀ p ∈ sc.names, p.2 = .free → sc.names.lookup p.1 = some .free ∧ env.kindOf p.1 = some .cell ∧ (env.cells.lookup p.1).isSome = true) ∧ (sc.names.map (·.1)).Nodup := by
  unfold compOk at h
  simp only [Bool.and_eq_true, beq_iff_eq, decide_eq_true_eq, List.all_eq_true] at h
  obtain ⟨⟨h1, h2⟩, h3⟩ := h
  refine ⟨h1, fun p hp => ?_, fun p hp hl => ?_, fun p hp hl => ?_, h3⟩
  · have := (h2 p hp).1.1; simpa using this
  · have := (h2 p hp).1.2
    rw [hl] at this
    simpa using this
  · have := (h2 p hp).2
    rw [hl] at this
    rw [Bool.or_eq_true] at this
    rcases this with q | q
    · exact absurd q (by decide)
    · simp only [Bool.and_eq_true, beq_iff_eq] at q
      exact ⟨q.1.1, q.1.2, q.2⟩

theorem cl_in {env : Env} {sc : Scope} (h : compOk env sc = true) {nm : Str} {c : Addr} (hm : (nm, c) ∈ clsC env.cells sc.names []) : env.cells.lookup nm = some c ∧ sc.names.lookup nm = some .free := by
  rcases clsC_mem hm with h1 | ⟨h1, h2⟩
  · cases h1
  · obtain ⟨_, _, _, h3, _⟩ := compOk_parts h
    obtain ⟨g1, g2, g3⟩ := h3 _ h1 rfl
    obtain ⟨c', hc⟩ := Option.isSome_iff_exists.mp g3
    refine ⟨?_, g1⟩
    have h2' : c = (env.cells.lookup nm).getD 0 := h2
    rw [hc] at h2' ⊢
    exact congrArg some h2'.symm

theorem lookup_mem_key {l : List (Str × NameKind)} {x : Str} {k : NameKind} (h : l.lookup x = some k) : (x, k) ∈ l := by
  induction l with
  | nil => simp at h
  | cons p l ih =>
    rw [List.lookup_cons] at h
    cases q : (x == p.1) with
    | true =>
      rw [q] at h; cases h
      have : x = p.1 := by simpa using q
      rw [this]; exact .head _
    | false => rw [q] at h; exact .tail _ (ih h)

/-- the comprehension's frame is one -/
theorem frame_comp {C : Addr} {m cm : Str → Option Value} {sc : Scope} (F : FrameR env h m cm) (hc : compOk env sc = true) (hC : h.Ns C fun _ => none) : FrameR (cenvOf sc C env) h (fun _ => none) cm where
  kind := (compOk_parts hc).1
  globals := F.globals
  builtins := F.builtins
  ns := hC
  cell := fun nm c e => F.cell nm c (cl_in hc (mem_of_lookup e)).1
  cells := fun nm c e => ⟨_, F.cell nm c (cl_in hc e).1⟩
  apart := by
    have hnd : ((clsC env.cells sc.names []).map (·.1)).Nodup := by
      rw [clsC_keys]
      simp only [List.map_nil, List.append_nil]
      refine List.pairwise_reverse.mpr (List.Pairwise.imp (fun hh => Ne.symm hh) ?_)
      exact List.Nodup.sublist (List.Sublist.map _ List.filter_sublist) (compOk_parts hc).2.2.2.2
    rw [List.nodup_iff_pairwise_ne, List.pairwise_map] at hnd
    refine List.Pairwise.imp_of_mem ?_ hnd
    intro a b ha hb hne hab
    obtain ⟨a1, a2⟩ := a
    obtain ⟨b1, b2⟩ := b
    cases hab
    exact hne (pair_ne F.apart (mem_of_lookup (cl_in hc ha).1) (mem_of_lookup (cl_in hc hb).1))

theorem vis_val {C : Addr} {m cm : Str → Option Value} {sc : Scope} {σl : Str → Option V} (F : FrameR env h m cm) (hc : compOk env sc = true) {x : Str} {v : V} (e : vis sc σl x = some v) : σl x = some v ∧ ∀ val, valOf env m cm x = some val → valOf (cenvOf sc C env) (fun _ => none) cm x = some val := by
  unfold vis at e
  split at e
  · rename_i hf
    refine ⟨e, fun val hv => ?_⟩
    have hm := lookup_mem_key hf
    obtain ⟨_, _, _, h3, _⟩ := compOk_parts hc
    obtain ⟨g1, g2, g3⟩ := h3 _ hm rfl
    have hk : (cenvOf sc C env).kindOf x = some .cell := lookup_relabel_free F.kind hf g2
    unfold valOf at hv ⊢
    rw [g2] at hv
    rw [hk]
    simp only [g3, if_true] at hv
    have hs : ((cenvOf sc C env).cells.lookup x).isSome = true := lookup_isSome (by
      show x ∈ (clsC env.cells sc.names []).map (·.1)
      rw [clsC_keys]
      simp only [List.map_nil, List.append_nil, List.mem_reverse, List.mem_map, List.mem_filter]
      exact ⟨(x, .free), ⟨hm, rfl⟩, rfl⟩)
    simp only [hs, if_true]
    exact hv
  · cases e

end
end Mine
end

section
open PySem
set_option Elab.async false
set_option maxRecDepth 10000
namespace Mine

section
variable {X : Cx} {n : Nat} {env : Env} {P : Prm} {A : Around} {ρ : List Addr} {μ μ' : Mu} {σ : St} {s : Shared} {h h' : Heap}

noncomputable abbrev testsOf (ifs : List Expr) (env : Env) : Sem Bool := forIn ifs true fun c r => if r = true then do let ok ← isTrue c env (eval c env); pure (ForInStep.yield ok) else pure (ForInStep.yield r)

theorem compLoop_any {R : Result → Shared → Prop} {elt target iter : Expr} {ifs : List Expr} {scope : Scope} {pos : Pos} {it acc : Value} {env : Env} (I : Nat → Shared → Prop)
    (turn : ∀ n s, I n s → wpAny (model X.prog X.w) A (pyNext it) (fun r s₁ => match r with
      | none => R (.ok .next) s₁
      | some v => wpAny (model X.prog X.w) A (letOwnedTupleGo target it v) (fun _ s₁' => wpAny (model X.prog X.w) A (assign target env v) (fun _ s₂ =>
          wpAny (model X.prog X.w) A (testsOf ifs env) (fun ok s₃ =>
            if ok = true then wpAny (model X.prog X.w) A (eval elt env) (fun x s₄ =>
              wpAny (model X.prog X.w) A (call (.builtin "list.append") [acc, x]) (fun _ s₅ => ∃ m, m < n ∧ I m s₅) (fun _ _ => False) s₄) (fun _ _ => False) s₃
            else ∃ m, m < n ∧ I m s₃) (fun _ _ => False) s₂) (fun _ _ => False) s₁') (fun _ _ => False) s₁) (fun _ _ => False) s)
    (n : Nat) (h : I n s) : codeAny (model X.prog X.w) A (.compLoop (.ListComp elt [⟨target, iter, ifs, 0⟩] scope pos) 0 it acc env) R s := by
  refine codeAny_loop rfl I (fun n s hI => ?_) n h
  show wpAny _ A ((compTurn (.ListComp elt [⟨target, iter, ifs, 0⟩] scope pos) 0 it acc env).onRaise (fun x => do noteFrame x env; theTreesLotGoes x)) _ _ s
  refine wpAny_noted ?_
  rw [compTurn_list]
  refine wpAny_bind (wpAny_standAt (wpAny_bind (wpAny_mono (turn n s hI) (fun r s₁ h₁ => ?_) fun _ _ h' => h'.elim)))
  cases r with
  | none => exact wpAny_pure h₁
  | some v =>
    refine wpAny_bind (wpAny_mono h₁ (fun _ s₁' h₁ => ?_) fun _ _ h' => h'.elim)
    refine wpAny_bind (wpAny_mono h₁ (fun _ s₂ h₂ => wpAny_bind (wpAny_mono h₂ (fun ok s₃ h₃ => ?_) fun _ _ h' => h'.elim)) fun _ _ h' => h'.elim)
    cases ok with
    | false => exact wpAny_pure ⟨rfl, h₃⟩
    | true =>
      exact wpAny_bind (wpAny_bind (wpAny_mono h₃ (fun x s₄ h₄ => wpAny_bind (wpAny_mono h₄ (fun _ s₅ h₅ => wpAny_pure (wpAny_pure ⟨rfl, h₅⟩)) fun _ _ h' => h'.elim)) fun _ _ h' => h'.elim))

/-- the tests -/
theorem forIn_false {env : Env} : ∀ {ifs : List Expr}, (forIn ifs false fun c r => if r = true then do let ok ← isTrue c env (eval c env); pure (ForInStep.yield ok) else pure (ForInStep.yield r) : Sem Bool) = pure false
  | [] => rfl
  | _ :: _ => by
    rw [List.forIn_cons]
    simp only [Bool.false_eq_true, if_false, pure_bind]
    exact forIn_false

theorem Tr_tests : ∀ {ifs : List Expr} {ms : List (M Bool)}, TeL X n env ifs ms → Tr X n env EqR (testsOf ifs env) (allS ms)
  | [], _, .nil => fun A ρ μ σ s ga R => W_pure R rfl
  | c :: ifs, _, .cons (m := m) (ms := ms) h hs => by
    intro A ρ μ σ s ga R
    have ih := Tr_tests hs
    unfold testsOf
    rw [List.forIn_cons]
    simp only [if_true, bind_assoc, pure_bind]
    show W X A ρ μ env s EqR _ ((m >>= fun b => if b = true then allS ms else mpure false) σ)
    refine W_bind (h A ρ μ σ s ga R) fun μ₁ s₁ b σ₁ x st₁ R₁ v₁ => ?_
    have : x = b := v₁
    subst this
    cases x with
    | true => exact ih A ρ μ₁ σ₁ s₁ ga R₁
    | false =>
      show W X A ρ μ₁ env s₁ EqR (forIn ifs false _) _
      rw [forIn_false]
      exact W_pure R₁ rfl

theorem Step.transF {wr : List Addr} {s₁ s₂ : Shared} (a : Step [] μ μ s s₁) (b : Step wr μ μ' s₁ s₂) (hf : ∀ x ∈ wr, s.heap.get? x = none) : Step [] μ μ s s₂ := by
  obtain ⟨h1, t1, e1⟩ := a.same
  obtain ⟨h2, t2, e2⟩ := b.same
  refine ⟨⟨h2, t2, by rw [e2, e1]⟩, fun x o e hm ho => ?_, fun x o e => ?_, List.prefix_refl _, fun _ h => .inl h⟩
  · refine b.keep x o (a.keep x o e hm ho) hm fun hw => ?_
    rw [hf x hw] at e; cases e
  · obtain ⟨o1, q⟩ := a.live x o e
    exact b.live x o1 q

/-- a change of things that were not there at first -/
theorem Step.fresh {wr : List Addr} {s₁ : Shared} {h₂ : Heap} {tk : Nat} (a : Step [] μ μ s s₁) (hf : ∀ x ∈ wr, s.heap.get? x = none) (k : ∀ b o, b ∉ wr → s₁.heap.get? b = some o → h₂.get? b = some o) : Step [] μ μ s { s₁ with heap := h₂, toks := tk } := by
  obtain ⟨h1, t1, e1⟩ := a.same
  refine ⟨⟨h₂, tk, by rw [e1]⟩, fun x o e hm ho => k x o (fun hw => ?_) (a.keep x o e hm ho), fun x o e => ?_, List.prefix_refl _, fun _ h => .inl h⟩
  · rw [hf x hw] at e; cases e
  · obtain ⟨o1, q⟩ := a.live x o e
    refine ⟨o1, k x o1 (fun hw => ?_) q⟩
    rw [hf x hw] at e; cases e

theorem Step.weak {ow : List Addr} {s₁ : Shared} (a : Step [] μ μ' s s₁) : Step ow μ μ' s s₁ := ⟨a.same, fun b o e hm _ => a.keep b o e hm (by simp), a.live, a.pre, a.new⟩


noncomputable def CompQ (X : Cx) (env : Env) (s : Shared) (ρ : List Addr) (μ : Mu) (es : List PyData) (σ' : St) (p : Addr × Value) (s' : Shared) : Prop :=
  s.heap.get? p.1 = none ∧ (∃ m, s'.heap.Ns p.1 m) ∧ FreshR X ([p.1] ++ ρ) μ env s es σ' p.2 s'

noncomputable def compT (X : Cx) (A : Around) (e : Expr) (sc : Scope) (env : Env) (it : Value) (Q : Addr × Value → Shared → Prop) (s : Shared) : Prop :=
  wpAny (model X.prog X.w) A (newList []) (fun acc s₃ => wpAny (model X.prog X.w) A (newFunctionEnv sc env.globals (clsC env.cells sc.names []) [] env.qual none .none (some env)) (fun cenv s₄ =>
    codeAny (model X.prog X.w) A (.compStart e 0 it acc { cenv with scope := relabel sc env }) (fun r s' => match r with | .ok _ => Q (cenv.locals, acc) s' | .error _ => False) s₄) (fun _ _ => False) s₃) (fun _ _ => False) s

theorem Comp_block {elt tgt iter : Expr} {ifs : List Expr} {sc : Scope} {pos : Pos} {bind : V → M Unit} {tests : List (M Bool)} {me : M V} (hc : compOk env sc = true)
    (hb : ∀ C, As X n (cenvOf sc C env) tgt bind) (ht : ∀ C, TeL X n (cenvOf sc C env) ifs tests) (he : ∀ C, Ev X n (cenvOf sc C env) elt me) (ga : Ga n A) (R : Rel X ρ μ env σ s.heap) {I : Addr} {ds : List V} {h₁ : Heap} {tk : Nat}
    (it : Itr X A (own env) μ s.heap (okOf ρ μ) I ds h₁) {es : List PyData} {σ' : St} (e : compS sc bind tests me ds σ = some (es, σ')) :
    compT X A (.ListComp elt [⟨tgt, iter, ifs, 0⟩] sc pos) sc env (.ref I) (CompQ X env s ρ μ es σ') { s with heap := h₁, toks := tk } := by
  obtain ⟨fp, P, Ss, hW, hIf, hfp, hst, hP, hlive⟩ := it.walk
  obtain ⟨hck, hcc, hcl, hcf, _⟩ := compOk_parts hc
  unfold compS at e
  split at e
  · cases e
  · rename_i es' σe hgo
    split at e
    · rename_i hbig
      cases e
      unfold compT
      refine wpAny_newObj_type (wpAny_newFunctionEnv hcc (by intro y hy; simp at hy) (fun h₂ hns₂ hsb₂ => ?_) hck)
      dsimp only at hns₂ hsb₂ ⊢
      generalize hH : h₁.push { cls := .type "list", dict := none, data := .seq ([] : List Value).toArray } = H at hns₂ hsb₂ ⊢
      generalize hCe : H.objs.size = C at hns₂ hsb₂ ⊢
      generalize hDe : h₁.objs.size = D at hns₂ hsb₂ ⊢
      have hCD : C = D + 1 := by rw [← hCe, ← hDe, ← hH, Heap.size_push]
      have hIs : I < D := by
        rw [← hDe]
        obtain ⟨o, _, _, q, _⟩ := hlive 0 h₁ hst
        exact Heap.lt_size q
      have hDC : D ≠ C := by rw [hCD]; exact Nat.ne_of_lt (Nat.lt_succ_self D)
      have hID : I ≠ D := Nat.ne_of_lt hIs
      have hIC : I ≠ C := by rw [hCD]; exact Nat.ne_of_lt (Nat.lt_succ_of_lt hIs)
      have hfr : ∀ b, D ≤ b → s.heap.get? b = none := fun b hb' => by
        cases q : s.heap.get? b with
        | none => rfl
        | some o =>
          have := Heap.lt_size (it.keep b o q)
          rw [hDe] at this; exact absurd this (Nat.not_lt.mpr hb')
      have hfC := hfr C (by rw [hCD]; exact Nat.le_succ D)
      have hfD := hfr D (Nat.le_refl _)
      have hwr : ∀ b ∈ [C, D, I], s.heap.get? b = none := all3 hfC hfD it.fresh
      have old₁ : ∀ b o, h₁.get? b = some o → h₂.get? b = some o := fun b o q => by
        have hlt := Heap.lt_size q
        rw [hDe] at hlt
        refine (hsb₂.2 b (by rw [hCD]; exact Nat.ne_of_lt (Nat.lt_succ_of_lt hlt))).trans (Heap.get?_push_of_some _ ?_)
        rw [← hH]; exact Heap.get?_push_of_some _ q
      have keep₂ : ∀ b o, s.heap.get? b = some o → h₂.get? b = some o := fun b o q => old₁ b o (it.keep b o q)
      have hD₂ : h₂.get? D = some { cls := .type "list", data := .seq #[] 0 } := by
        refine (hsb₂.2 D hDC).trans (Heap.get?_push_of_some _ ?_)
        rw [← hH, ← hDe]; exact Heap.get?_push_size _ rfl
      have hnsC : h₂.Ns C fun _ => none := hns₂
      have liveC : ∃ o, h₂.get? C = some o := by obtain ⟨o, _, _, q, _⟩ := hnsC; exact ⟨o, q⟩
      have hSt₂ : Ss 0 h₂ := hW.frame _ _ _ hst fun b _ o q => old₁ b o q
      have hl₂ : ∀ b ∈ [C, D, I], ∃ o, h₂.get? b = some o := all3 liveC ⟨_, hD₂⟩ (by obtain ⟨o, _, _, q, _⟩ := hlive 0 h₂ hSt₂; exact ⟨o, q⟩)
      have Rr : Rel X ([C, D, I] ++ ρ) μ env σ h₂ := Rel.reserve (R.ext keep₂) (h₂ := s.heap) hwr R keep₂ hl₂
      have hnoroot : ∀ b ∈ [C, D, I], ∀ j, root μ j ≠ some b := R.noRoot hwr
      have hnotρ : ∀ b ∈ [C, D, I], b ∉ ρ ∧ b ∉ foot μ := fun b hb' => R.notIn (hwr b hb')
      have hownc : ∀ b ∈ own (cenvOf sc C env), b ∈ [C] ++ ρ := fun b hb' => by
        rcases List.mem_cons.mp hb' with rfl | hb'
        · exact .head _
        · obtain ⟨⟨nm, c⟩, h1, rfl⟩ := List.mem_map.mp hb'
          exact List.mem_append_right _ (R.own _ (cell_mem (cl_in hc h1).1))
      have hwrtc : wrt (cenvOf sc C env) = [C] := rfl
      have habove : X.base.objs.size ≤ C := by
        have h1 := R.above
        obtain ⟨m, cm, F, _⟩ := R.frame
        obtain ⟨o, _, _, q, _⟩ := F.ns
        have h2 := Heap.lt_size (it.keep _ _ q)
        rw [hDe] at h2
        rw [hCD]; exact Nat.le_succ_of_le (Nat.le_of_lt (Nat.lt_of_le_of_lt h1 h2))
      have Rc : Rel X ([C, D, I] ++ ρ) μ (cenvOf sc C env) ⟨vis sc σ.loc, σ.heap⟩ h₂ := by
        refine Rr.reframe (fun b hb' => up3a (hownc b hb')) habove ?_
        · obtain ⟨m, cm, F, l⟩ := Rr.frame
          refine ⟨_, cm, frame_comp F hc hnsC, fun x v ev => ?_⟩
          obtain ⟨g1, g2⟩ := vis_val (C := C) F hc ev
          obtain ⟨val, g3, g4⟩ := l x v g1
          exact ⟨val, g2 val g3, g4⟩
      have loop : ∀ s₃ : Shared, s₃ = { s with heap := h₂, toks := tk + ([] : List (Str × Value)).length } →
          codeAny (model X.prog X.w) A (.compLoop (.ListComp elt [⟨tgt, iter, ifs, 0⟩] sc pos) 0 (.ref I) (.ref D) (cenvOf sc C env)) (fun r s' => match r with | .ok _ => CompQ X env s ρ μ es ⟨σ.loc, σe.heap⟩ (C, .ref D) s' | .error _ => False) s₃ := by
        rintro s₃ rfl
        refine compLoop_any (fun k s' => ∃ i σ₁ dn ys m rest, k = ds.length + 1 - i ∧ i ≤ ds.length ∧ Step [] μ μ s s' ∧ Rel X ([C, D, I] ++ ρ) μ (cenvOf sc C env) σ₁ s'.heap ∧ Ss i s'.heap ∧
          s'.heap.get? D = some { cls := .type "list", data := .seq ys m } ∧ DRs s'.heap (okOf ([C, D, I] ++ ρ) μ) dn ys.toList ∧ compGo bind tests me (ds.drop i) σ₁ = some (rest, σe) ∧ dn ++ rest = es) ?_ (ds.length + 1)
          ⟨0, _, [], #[], 0, es, rfl, Nat.zero_le _, .grow keep₂, Rc, hSt₂, hD₂, by simp [DRs], hgo, rfl⟩
        intro k s' H
        refine wrap fun G kG => ?_
        obtain ⟨i, σ₁, dn, ys, m, rest, hk, hi, st, R₂, hSt, hDl, hdn, hgo', hes⟩ := H
        by_cases hlt : i < ds.length
        · refine kG (hW.item i s' _ _ hlt hSt fun v h₃ tk₃ hv hSt₃ hk₃ => ?_)
          clear kG
          refine wrap fun G kG => ?_
          obtain ⟨d, hd, hdr⟩ := hP i v hlt hv
          have hdrop : ds.drop i = d :: ds.drop (i + 1) := by
            rw [List.drop_eq_getElem_cons hlt]
            rw [List.getElem?_eq_getElem hlt] at hd
            cases hd; rfl
          rw [hdrop] at hgo'
          simp only [compGo] at hgo'
          have it₃ := hlive _ _ hSt₃
          have hI1 : ∀ b ∈ [I], b ∈ [C, D, I] := all1 in3c
          have R₃ : Rel X ([C, D, I] ++ ρ) μ (cenvOf sc C env) σ₁ h₃ := R₂.setRes (wr := [I]) (fun a ha => List.mem_append_left _ (hI1 a ha)) (all1 fun hm => off1 hIC (hnotρ I in3c).1 (hownc I hm)) (all1 (by obtain ⟨o, _, _, q, _⟩ := it₃; exact ⟨o, q⟩)) (fun a ha => hnoroot a (hI1 a ha)) hk₃
          have st₃ : Step [] μ μ s { s' with heap := h₃, toks := tk₃ } := st.fresh (wr := [I]) (fun b hb' => hwr b (hI1 b hb')) hk₃
          have hD₃ : h₃.get? D = some { cls := .type "list", data := .seq ys m } := hk₃ D _ (notMem1 (Ne.symm hID)) hDl
          have hdn₃ : DRs h₃ (okOf ([C, D, I] ++ ρ) μ) dn ys.toList := DRs.mono (fun a o q e => ⟨hk₃ a o (fun hm => q.1 (List.mem_append_left _ (hI1 a hm))) e, q⟩) hdn
          have hv₃ : VR h₃ (okOf ([C, D, I] ++ ρ) μ) μ d v := VR.mono (fun _ _ e => e) (fun a o ok q => ⟨st₃.keep a o q ok.2 (by simp), fun hm => by
            rcases List.mem_append.mp hm with hm | hm
            · rw [hwr a hm] at q; cases q
            · exact ok.1 hm, ok.2⟩) hdr
          split at hgo'
          · cases hgo'
          · rename_i r σm hm
            split at hgo'
            · cases hgo'
            · rename_i σ₂ hcut
              split at hgo'
              · cases hgo'
              · rename_i rest' σe' hrest
                cases hgo'
                refine mbind_elim hm fun u σb g1 hm => ?_
                refine mbind_elim hm fun okk σt g2 hm => ?_
                rw [← R₂.len] at hcut
                refine kG (letOwned it₃ ?_)
                clear kG
                refine wpAny_mono (hb C A _ μ σ₁ { s' with heap := h₃, toks := tk₃ } d v ga R₃ hv₃ u σb g1) (fun _ s₄ z => ?_) fun _ _ z => z
                first | refine post_elim z fun μ₄ st₄ R₄ _ => ?_ | obtain ⟨μ₄, st₄, R₄, _⟩ := z
                refine wpAny_mono (Tr_tests (ht C) A _ μ₄ σb s₄ ga R₄ okk σt g2) (fun c s₅ z => ?_) fun _ _ z => z
                refine wrap fun G kG => ?_
                obtain ⟨μ₅, st₅, R₅, hc⟩ := z
                have st₅' := st₄.trans st₅
                -- what holds behind a turn
                have fin : ∀ {μ₆ : Mu} {s₆ : Shared}, Step (wrt (cenvOf sc C env)) μ μ₆ { s' with heap := h₃, toks := tk₃ } s₆ → Rel X ([C, D, I] ++ ρ) μ₆ (cenvOf sc C env) σm s₆.heap →
                    Step [] μ μ s s₆ ∧ Rel X ([C, D, I] ++ ρ) μ (cenvOf sc C env) σ₂ s₆.heap ∧ Ss (i + 1) s₆.heap ∧ s₆.heap.get? D = some { cls := .type "list", data := .seq ys m } ∧ DRs s₆.heap (okOf ([C, D, I] ++ ρ) μ) dn ys.toList := by
                  intro μ₆ s₆ st₆ R₆
                  have kp : ∀ b o, b ∉ foot μ → b ≠ C → h₃.get? b = some o → s₆.heap.get? b = some o := fun b o q1 q2 q3 => st₆.keep b o q3 q1 (by rw [hwrtc]; exact notMem1 q2)
                  refine ⟨st₃.transF st₆ (by rw [hwrtc]; exact all1 hfC), R₆.cut st₆.pre hcut, hW.frame _ _ _ hSt₃ fun b hb' o q => ?_, kp D _ (hnotρ D in3b).2 hDC hD₃, DRs.mono (fun a o q e => ⟨kp a o q.2 (fun hm => q.1 (hm ▸ List.mem_append_left _ in3a)) e, q⟩) hdn₃⟩
                  by_cases hbI : b = I
                  · exact kp b o (hbI ▸ (hnotρ I in3c).2) (hbI ▸ hIC) q
                  · obtain ⟨q1, q2, o', q3⟩ := hfp b hb' hbI
                    exact kp b o q1 (fun hm => nomatch (hm ▸ q3).symm.trans hfC) q
                rw [hc] at kG
                clear hc
                cases okk with
                | false =>
                  cases hm
                  obtain ⟨f1, f2, f3, f4, f5⟩ := fin st₅' R₅
                  rw [if_neg (by decide)] at kG
                  exact kG ⟨ds.length + 1 - (i + 1), by omega, i + 1, σ₂, dn, ys, m, _, rfl, hlt, f1, f2, f3, f4, f5, hrest, hes⟩
                | true =>
                  simp only [if_true] at hm kG
                  refine mbind_elim hm fun x σx g3 hm => ?_
                  refine mbind_elim hm fun dd σy g4 hm => ?_
                  cases hm
                  cases x with
                  | dat d' =>
                    cases g4
                    refine kG (wpAny_mono (he C A _ μ₅ σt s₅ ga R₅ _ _ g3) (fun y s₆ z => ?_) fun _ _ z => z)
                    clear kG
                    refine wrap fun G kG => ?_
                    first | refine post_elim z fun μ₆ st₆ R₆ v₆ => ?_ | obtain ⟨μ₆, st₆, R₆, v₆⟩ := z
                    have st₆' := st₅'.trans st₆
                    obtain ⟨f1, f2, f3, f4, f5⟩ := fin st₆' R₆
                    have hy : DR s₆.heap (okOf ([C, D, I] ++ ρ) μ) dd y := VR.cut (v := .dat dd) st₆'.pre v₆ rfl
                    have hlen := f5.length
                    rw [Array.length_toList] at hlen
                    have hle : dn.length ≤ big := by
                      have := congrArg List.length hes
                      rw [List.length_append] at this
                      omega
                    refine kG (wpAny_list_append_plain ⟨m, f4⟩ (fun h₇ hp hs => ?_) (by rw [hlen]; exact Nat.le_trans hle big_le))
                    obtain ⟨m', hp⟩ := hp
                    have k₇ := sameBut1 hs
                    have hD1 : ∀ b ∈ [D], b ∈ [C, D, I] := all1 in3b
                    refine ⟨ds.length + 1 - (i + 1), by omega, i + 1, σ₂, dn ++ [dd], ys.push y, m', rest', rfl, hlt, f1.fresh (tk := s₆.toks) (wr := [D]) (fun b hb' => hwr b (hD1 b hb')) k₇, f2.setRes (wr := [D]) (fun a ha => List.mem_append_left _ (hD1 a ha)) (all1 fun hm => off1 hDC (hnotρ D in3b).1 (hownc D hm)) (all1 ⟨_, hp⟩) (fun a ha => hnoroot a (hD1 a ha)) k₇, hW.frame _ _ _ f3 fun b hb' o q => ?_, hp, ?_, hrest, by simpa using hes⟩
                    · refine k₇ b o (fun hm => ?_) q
                      have hm := List.mem_singleton.mp hm
                      by_cases hbI : b = I
                      · exact hID (hbI.symm.trans hm)
                      · obtain ⟨q1, q2, o', q3⟩ := hfp b hb' hbI
                        exact nomatch (hm ▸ q3).symm.trans hfD
                    · have kk : ∀ a o, okOf ([C, D, I] ++ ρ) μ a → s₆.heap.get? a = some o → h₇.get? a = some o ∧ okOf ([C, D, I] ++ ρ) μ a := fun a o q e => ⟨k₇ a o (fun hm => q.1 (List.mem_append_left _ (hD1 a hm))) e, q⟩
                      have := (DRs.mono kk f5).append (DRs.one (DR.mono kk hy))
                      simpa using this
                  | obj j => cases g4
                  | rng j k => cases g4
                  | emp => cases g4
        · have hin : i = ds.length := by omega
          rw [hin, List.drop_length] at hgo'
          rw [hin] at hSt
          have hgo' : some (([] : List PyData), σ₁) = some (rest, σe) := hgo'
          refine kG (hW.done s' _ _ hSt fun h₃ tk₃ hk₃ => ?_)
          clear kG
          refine wrap fun G kG => ?_
          cases hgo'
          rw [List.append_nil] at hes
          have hI1 : ∀ b ∈ [I], b ∈ [C, D, I] := all1 in3c
          have st₃ : Step [] μ μ s { s' with heap := h₃, toks := tk₃ } := st.fresh (wr := [I]) (fun b hb' => hwr b (hI1 b hb')) hk₃
          have Rl : Rel X ([D] ++ ([C] ++ ρ)) μ (cenvOf sc C env) σe h₃ := by
            exact Rel.leave (wr := [I]) (R₂.congr fun a => perm3) (fun a ha => List.mem_append_right _ (hownc a ha)) (all1 (off1 hID (off1 hIC (hnotρ I in3c).1))) (fun a ha => hnoroot a (hI1 a ha)) hk₃
          rw [hes] at hdn
          refine kG ⟨hfC, ?_, D, ys, m, rfl, hfD, st₃.weak, Rl.reframe (fun a ha => List.mem_append_right _ (List.mem_append_right _ (R.own a ha))) R.above ?_, hk₃ D _ (notMem1 (Ne.symm hID)) hDl, ?_⟩
          · obtain ⟨m', cm', F', _⟩ := Rl.frame
            exact ⟨m', F'.ns⟩
          · obtain ⟨m', cm', F', l⟩ := R.frame
            refine ⟨m', cm', F'.at fun b hb' o q => st₃.keep b o q (R.dis b (R.own b hb')) (by simp), fun x v ev => ?_⟩
            obtain ⟨val, q1, q2⟩ := l x v ev
            exact ⟨val, q1, q2.mono (fun _ _ e => e) fun a o q e => ⟨st₃.keep a o e q.2 (by simp), off1 (fun hm => nomatch (hm ▸ e).symm.trans hfD) (off1 (fun hm => nomatch (hm ▸ e).symm.trans hfC) q.1), q.2⟩⟩
          · exact DRs.mono (fun a o q e => ⟨hk₃ a o (fun hm => q.1 (List.mem_append_left _ (hI1 a hm))) e, fun hm => q.1 (perm3.mpr (List.mem_append_right _ hm)), q.2⟩) hdn
      exact codeAny_compStart_list (loop _ rfl) (hW.self 0 _ _ _ hSt₂ (loop _ rfl))
    · cases e

end
end Mine
end

section
open PySem
set_option Elab.async false
set_option maxRecDepth 10000
namespace Mine

section
variable {X : Cx} {n : Nat} {env : Env} {P : Prm} {A : Around} {ρ : List Addr} {μ μ' : Mu} {σ : St} {s : Shared} {h h' : Heap}

theorem Step.freshO {ow wr : List Addr} {s₁ : Shared} {h₂ : Heap} {tk : Nat} (a : Step ow μ μ' s s₁) (hf : ∀ x ∈ wr, s.heap.get? x = none) (k : ∀ b o, b ∉ wr → s₁.heap.get? b = some o → h₂.get? b = some o) : Step ow μ μ' s { s₁ with heap := h₂, toks := tk } := by
  obtain ⟨h1, t1, e1⟩ := a.same
  refine ⟨⟨h₂, tk, by rw [e1]⟩, fun x o e hm ho => k x o (fun hw => ?_) (a.keep x o e hm ho), fun x o e => ?_, a.pre, a.new⟩
  · rw [hf x hw] at e; cases e
  · obtain ⟨o1, q⟩ := a.live x o e
    refine ⟨o1, k x o1 (fun hw => ?_) q⟩
    rw [hf x hw] at e; cases e

theorem ns_notList {C : Addr} {m : Str → Option Value} (hn : h.Ns C m) {vs : Array Value} {k : Nat} : h.get? C ≠ some { cls := .type "list", data := .seq vs k } := by
  obtain ⟨o, es, ep, h1, h2, _⟩ := hn
  intro q
  rw [q] at h1; cases h1; cases h2

theorem Rel.nsNoRoot (R : Rel X ρ μ env σ h) {C : Addr} (hC : C ∈ ρ) {m : Str → Option Value} (hn : h.Ns C m) (j : Nat) : root μ j ≠ some C := fun hj => by
  obtain ⟨o, es, ep, h1, h2, _⟩ := hn
  unfold root at hj
  obtain ⟨p, g1, rfl⟩ := Option.map_eq_some_iff.mp hj
  have hlt : j < σ.heap.length := by rw [← R.len]; exact (List.getElem?_eq_some_iff.mp g1).1
  obtain ⟨q, g2, g3⟩ := R.objs j _ (List.getElem?_eq_getElem hlt)
  rw [g1] at g2; cases g2
  generalize σ.heap[j] = ob at g3
  cases ob with
  | lst ds => obtain ⟨vs, n, _, h4, _⟩ := g3; rw [h4] at h1; cases h1; cases h2
  | frz ds => obtain ⟨vs, n, _, h4, _⟩ := g3; rw [h4] at h1; cases h1; cases h2
  | inst l => obtain ⟨d, _, h4, _⟩ := g3; rw [h4] at h1; cases h1; cases h2
  | dctS kvs => exact R.dis _ hC (foot_get g1 (by rw [g3.1]; exact .head _))
  | dctI kvs => exact R.dis _ hC (foot_get g1 (by rw [g3.1]; exact .head _))

theorem FreshR.leaveC (R : Rel X ρ μ env σ s.heap) {C : Addr} (hC : s.heap.get? C = none) {ds : List PyData} {σ' : St} {x : Value} {s' : Shared} {m : Str → Option Value} (hn : s'.heap.Ns C m) (f : FreshR X ([C] ++ ρ) μ env s ds σ' x s') (hs : Heap.SameBut C s'.heap h') :
    FreshR X ρ μ env s ds σ' x { s' with heap := h' } := by
  obtain ⟨a, vs, k, rfl, hf, st, R', hL, hd⟩ := f
  have hne : a ≠ C := fun q => by subst q; exact ns_notList hn hL
  have hCs : ∀ b ∈ [C], s.heap.get? b = none := fun b hb => by simp at hb; subst hb; exact hC
  have kk : ∀ b o, b ∉ [C] → s'.heap.get? b = some o → h'.get? b = some o := fun b o hb e => (hs.2 b (fun q => hb (by simp [q]))).trans e
  refine ⟨a, vs, k, rfl, hf, st.freshO (tk := s'.toks) hCs kk, ?_, kk a _ (by simpa using hne) hL, DRs.mono (fun b o q e => ⟨kk b o (fun hm => q.1 (by simp at hm; subst hm; simp)) e, fun hm => q.1 ?_, q.2⟩) hd⟩
  · refine Rel.leave (wr := [C]) (R'.congr fun b => ?_) (fun b hb => List.mem_append_right _ (R.own b hb)) (fun b hb hm => ?_) (R.noRoot hCs) kk
    · simp only [List.mem_append, List.mem_cons, List.not_mem_nil, or_false]
      constructor
      · rintro (q | q | q)
        · exact .inr (.inl q)
        · exact .inl q
        · exact .inr (.inr q)
      · rintro (q | q | q)
        · exact .inr (.inl q)
        · exact .inl q
        · exact .inr (.inr q)
    · simp at hb; subst hb
      rcases List.mem_append.mp hm with hm | hm
      · simp at hm; exact hne hm.symm
      · exact (R.notIn hC).1 hm
  · rcases List.mem_append.mp hm with hm | hm
    · exact List.mem_append_left _ hm
    · exact List.mem_append_right _ (List.mem_append_right _ hm)

noncomputable def FreshX (X : Cx) (ρ : List Addr) (μ : Mu) (env : Env) (s : Shared) (ds : List PyData) (σ' : St) : Value → Shared → Prop := fun x s' =>
  ∃ μ₁ s₁ σ₁, Step (wrt env) μ μ₁ s s₁ ∧ Rel X ρ μ₁ env σ₁ s₁.heap ∧ FreshR X ρ μ₁ env s₁ ds σ' x s'
theorem FreshX.dat {ds : List PyData} {σ' : St} {x : Value} {s' : Shared} (f : FreshX X ρ μ env s ds σ' x s') : Post X ρ μ env s VRr (.dat (.list ds)) σ' x s' := by
  obtain ⟨μ₁, s₁, σ₁, st, R, f⟩ := f
  obtain ⟨μ₂, st₂, R₂, v₂⟩ := f.dat R
  exact ⟨μ₂, st.trans st₂, R₂, v₂⟩
theorem compT_mono {e : Expr} {sc : Scope} {it : Value} {Q Q' : Addr × Value → Shared → Prop} (hq : ∀ y s', Q y s' → Q' y s') (z : compT X A e sc env it Q s) : compT X A e sc env it Q' s := by
  unfold compT at *
  refine wpAny_mono z (fun acc s₃ z => wpAny_mono z (fun cenv s₄ z => codeAny_mono z fun r s' z => ?_) fun _ _ z => z) fun _ _ z => z
  cases r with
  | ok f => exact hq _ _ z
  | error x => exact z

/-- a comprehension, whatever is done with its list -/
theorem Comp_core {elt tgt iter : Expr} {ifs : List Expr} {sc : Scope} {pos p : Pos} {bind : V → M Unit} {tests : List (M Bool)} {me mi : M V} (hc : compOk env sc = true) (hi : Ev X n env iter mi)
    (hb : ∀ C, As X n (cenvOf sc C env) tgt bind) (ht : ∀ C, TeL X n (cenvOf sc C env) ifs tests) (he : ∀ C, Ev X n (cenvOf sc C env) elt me) (hset : ∀ x, foldedSetIterable iter env x = pure x) (ga : Ga n A) (R : Rel X ρ μ env σ s.heap)
    {es : List PyData} {σ1 σ' : St} {v : V} (e1 : mi σ = some (v, σ1)) (e2 : compV sc bind tests me v σ1 = some (es, σ')) {use : Option (Value → Sem Unit)} {Q : Value → Shared → Prop}
    (hQ : ∀ μ₁ s₁ C acc s', Step (wrt env) μ μ₁ s s₁ → Rel X ρ μ₁ env σ1 s₁.heap → CompQ X env s₁ ρ μ₁ es σ' (C, acc) s' → ∀ f, compPost (model X.prog X.w) A (fun _ _ => False) use Q acc C (.ok f) s') :
    wpAny (model X.prog X.w) A (comprehension (.ListComp elt [⟨tgt, iter, ifs, 0⟩] sc pos) sc env p (newList []) false (eval iter env) use) Q (fun _ _ => False) s := by
  obtain ⟨hck, hcc, hcl, hcf, _⟩ := compOk_parts hc
  refine wpAny_comprehension_free (cl := clsC env.cells sc.names []) rfl hset (closure_eq fun p hp hf => (hcf p hp hf).2.2) hck hcl ?_
  refine wpAny_mono (hi A ρ μ σ s ga R v σ1 e1) (fun x s1 z => ?_) fun _ _ z => z
  first | refine post_elim z fun μ1 st1 R1 v1 => ?_ | obtain ⟨μ1, st1, R1, v1⟩ := z
  refine wpAny_mono (Walk_any (α := Addr × Value) ga (fun it Q s' => compT X A (.ListComp elt [⟨tgt, iter, ifs, 0⟩] sc pos) sc env it Q s') (fun it Q Q' s' hq z => compT_mono hq z)
    (fun ρ μ r σ' => CompQ X env s1 ρ μ r σ') (fun R hi hp r σ' y s' z => ?_) (fun R I ds h₁ tk itr r σ' e => Comp_block hc hb ht he ga R itr e) R1 v1 e2) (fun it s2 z => ?_) fun _ _ z => z
  · rename_i ρ2 μ2 σ2 i2 ds2 a2
    obtain ⟨hCf, hns, a, vs, k, hy, hf, st, R', hL, hd⟩ := z
    have hrho : ∀ b ∈ [a] ++ ([y.1] ++ ρ2), b ∈ ρ2 ∨ s1.heap.get? b = none := fun b hb => by
      simp only [List.mem_append, List.mem_cons, List.not_mem_nil, or_false] at hb
      rcases hb with hb | hb | hb
      · subst hb; exact .inr hf
      · subst hb; exact .inr hCf
      · exact .inl hb
    obtain ⟨μ3, st3, R3, hok, hrt⟩ := thaw_core (ρ' := [a] ++ ([y.1] ++ ρ2)) R hi hp st hrho (fun b hb => List.mem_append_right _ (List.mem_append_right _ (R.own b hb))) (R'.congr fun b => by
      simp only [List.mem_append, List.mem_cons, List.not_mem_nil, or_false]
      constructor
      · rintro (q | q | q | q)
        · exact .inr (.inl q)
        · exact .inr (.inr (.inl q))
        · exact .inl q
        · exact .inr (.inr (.inr q))
      · rintro (q | q | q | q)
        · exact .inr (.inr (.inl q))
        · exact .inl q
        · exact .inr (.inl q)
        · exact .inr (.inr (.inr q)))
    have hμ : μ2 = μ3 := st3.pre.eq_of_length (by
      have q1 := R3.len
      have q2 := R'.len
      simp only [List.length_set] at q1 q2
      rw [q1, q2])
    subst hμ
    refine ⟨hCf, hns, a, vs, k, hy, hf, st3, R3, hL, DRs.mono (fun b o q e => ⟨e, hok b ⟨fun hm => q.1 ?_, q.2⟩⟩) hd⟩
    simp only [List.mem_append, List.mem_cons, List.not_mem_nil, or_false] at hm ⊢
    rcases hm with q | q | q | q
    · exact .inr (.inr (.inl q))
    · exact .inl q
    · exact .inr (.inl q)
    · exact .inr (.inr (.inr q))
  · unfold compT at z
    refine wpAny_mono z (fun acc s₃ z => wpAny_mono z (fun cenv s₄ z => codeAny_mono z fun r s' z => ?_) fun _ _ z => z) fun _ _ z => z
    cases r with
    | ok f => exact hQ μ1 s1 cenv.locals acc s' st1 R1 z f
    | error x => exact z.elim


theorem Fl_ListComp {elt tgt iter : Expr} {ifs : List Expr} {sc : Scope} {pos : Pos} {bind : V → M Unit} {tests : List (M Bool)} {me mi : M V} (hc : compOk env sc = true) (hi : Ev X n env iter mi)
    (hb : ∀ C, As X n (cenvOf sc C env) tgt bind) (ht : ∀ C, TeL X n (cenvOf sc C env) ifs tests) (he : ∀ C, Ev X n (cenvOf sc C env) elt me) (hset : ∀ x, foldedSetIterable iter env x = pure x) (ga : Ga n A) (R : Rel X ρ μ env σ s.heap)
    {es : List PyData} {σ1 σ' : St} {v : V} (e1 : mi σ = some (v, σ1)) (e2 : compV sc bind tests me v σ1 = some (es, σ')) :
    wpAny (model X.prog X.w) A (eval (.ListComp elt [⟨tgt, iter, ifs, 0⟩] sc pos) env) (FreshX X ρ μ env s es σ') (fun _ _ => False) s := by
  rw [eval_ListComp]
  refine Comp_core hc hi hb ht he hset ga R e1 e2 fun μ₁ s₁ C acc s' st R₁ q f => ?_
  obtain ⟨hCf, ⟨m, hns⟩, fr⟩ := q
  exact ⟨m, hns, fun h' hs => ⟨μ₁, s₁, σ1, st, R₁, fr.leaveC R₁ hCf hns hs⟩⟩

/-- a name is bound to a comprehension's list, by the other road -/
theorem Ex_CompName {elt tgt iter : Expr} {ifs : List Expr} {sc : Scope} {pos yp spos : Pos} {y : Str} {bind : V → M Unit} {tests : List (M Bool)} {me mi : M V} (own? : Bool) (hc : compOk env sc = true) (hi : Ev X n env iter mi)
    (hb : ∀ C, As X n (cenvOf sc C env) tgt bind) (ht : ∀ C, TeL X n (cenvOf sc C env) ifs tests) (he : ∀ C, Ev X n (cenvOf sc C env) elt me) (hset : ∀ x, foldedSetIterable iter env x = pure x) (hy : stOk env y = true)
    (hsw : swapsWith (.ListComp elt [⟨tgt, iter, ifs, 0⟩] sc pos) (some (.Name y yp)) spos.line env = pure true) :
    Ex X n env (.Assign [.Name y yp] (.ListComp elt [⟨tgt, iter, ifs, 0⟩] sc pos) spos) (do
      let it ← mi
      let ds ← compV sc bind tests me it
      let v ← bif own? then newObj (.lst ds) else mpure (.dat (.list ds))
      setLoc y v
      mpure .next) := by
  intro A ρ μ σ s ga R r σ' q
  refine mbind_elim q fun v σ1 e1 q1 => ?_
  refine mbind_elim q1 fun ds σ2 e2 q2 => ?_
  refine mbind_elim q2 fun w σ3 e3 q3 => ?_
  refine mbind_elim q3 fun u σ4 e4 q4 => ?_
  cases q4
  rw [exec_Assign_Name_used _ _ _ _ hsw]
  refine wpAny_bind (wpAny_standAt (wpAny_bind ?_))
  show wpAny _ A (do let _ ← comprehension (.ListComp elt [⟨tgt, iter, ifs, 0⟩] sc pos) sc env _ (newList []) false (eval iter env) (some (assign (.Name y yp) env))) _ _ s
  refine wpAny_bind (wpAny_mono (Comp_core (use := some (assign (.Name y yp) env)) (Q := fun _ s' => Post X ρ μ env s FlR .next σ' .next s') hc hi hb ht he hset ga R e1 e2 fun μ₁ s₁ C acc s' st R₁ q f => ?_) (fun _ s' hq => wpAny_pure (wpAny_pure hq)) fun _ _ e => e)
  obtain ⟨hCf, ⟨m, hns⟩, fr⟩ := q
  -- the name is bound while the frame still lies there
  have hoC : ∀ b ∈ own env, b ∈ [C] ++ ρ := fun b hb => List.mem_append_right _ (R₁.own b hb)
  have hρC : ∀ b ∈ [C] ++ ρ, b ∈ ρ ∨ ∀ vs m, s'.heap.get? b ≠ some { cls := .type "list", data := .seq vs m } := fun b hb => by
    rcases List.mem_append.mp hb with hb | hb
    · simp at hb; subst hb; exact .inr fun vs k => ns_notList hns
    · exact .inl hb
  have hpost : Post X ([C] ++ ρ) μ₁ env s₁ VRr w σ3 acc s' := by
    cases own? with
    | true => cases e3; exact FreshR.obj' R₁ hoC hρC fr
    | false => cases e3; exact FreshR.dat' R₁ hoC hρC fr
  show wpAny _ A (assign (.Name y yp) env acc) _ _ s'
  obtain ⟨μ₂, st₂, R₂, v₂⟩ := hpost
  refine wpAny_mono (As_Name (n := n) (p := yp) hy A ([C] ++ ρ) μ₂ σ3 s' w acc ga R₂ v₂ u _ e4) (fun _ s'' z => ?_) fun _ _ z => z
  first | refine post_elim z fun μ₃ st₃ R₃ _ => ?_ | obtain ⟨μ₃, st₃, R₃, _⟩ := z
  have hCo : C ∉ own env := fun hm => (R₁.notIn hCf).1 (R₁.own C hm)
  obtain ⟨o, es, ep, h1, h2, h3⟩ := hns
  have hC'' : s''.heap.get? C = some o := st₃.keep C o h1 (R₂.dis C (by simp)) (fun hm => hCo (wrt_own hm))
  refine ⟨m, ⟨o, es, ep, hC'', h2, h3⟩, fun h' hs => ?_⟩
  have hCs : ∀ b ∈ [C], s₁.heap.get? b = none := fun b hb => by simp at hb; subst hb; exact hCf
  have kk : ∀ b o, b ∉ [C] → s''.heap.get? b = some o → h'.get? b = some o := fun b o hb e => (hs.2 b (fun q => hb (by simp [q]))).trans e
  refine ⟨μ₃, st.trans ((st₂.trans st₃).freshO (tk := s''.toks) hCs kk), Rel.leave R₃ R₁.own (fun b hb => (R₁.notIn (hCs b hb)).1) (fun b hb j hj => ?_) kk, rfl⟩
  simp at hb; subst hb
  exact R₃.nsNoRoot (List.mem_append_left _ (.head _)) ⟨o, es, ep, hC'', h2, h3⟩ j hj

end
end Mine
end

section
open PySem
set_option Elab.async false
set_option maxRecDepth 10000
namespace Mine

structure SameEnv (se env : Env) : Prop where
  scope : se.scope = env.scope
  cells : ∀ x, (se.cells.lookup x).isSome = (env.cells.lookup x).isSome
  func : se.func.isSome = env.func.isSome

theorem SameEnv.kindOf {se env : Env} (h : SameEnv se env) (x : Str) : se.kindOf x = env.kindOf x := by unfold Env.kindOf; rw [h.scope]
theorem SameEnv.gKind {se env : Env} (h : SameEnv se env) (x : Str) : Mine.gKind se x = Mine.gKind env x := by unfold Mine.gKind; rw [h.kindOf]
theorem SameEnv.stOk {se env : Env} (h : SameEnv se env) (x : Str) : Mine.stOk se x = Mine.stOk env x := by unfold Mine.stOk; rw [h.kindOf, h.cells, h.func]
theorem SameEnv.typOk {se env : Env} (h : SameEnv se env) (e : Expr) (x : Str) : Mine.typOk se e x = Mine.typOk env e x := by unfold Mine.typOk; rw [h.gKind, h.gKind]
theorem SameEnv.compOk {se env : Env} (h : SameEnv se env) (sc : Scope) : Mine.compOk se sc = Mine.compOk env sc := by
  unfold Mine.compOk
  have : (fun p : Str × NameKind => p.2 != .cell && (p.2 != .local || sc.names.lookup p.1 == some .local) && (p.2 != .free || (sc.names.lookup p.1 == some .free && se.kindOf p.1 == some .cell && (se.cells.lookup p.1).isSome))) =
      (fun p : Str × NameKind => p.2 != .cell && (p.2 != .local || sc.names.lookup p.1 == some .local) && (p.2 != .free || (sc.names.lookup p.1 == some .free && env.kindOf p.1 == some .cell && (env.cells.lookup p.1).isSome))) := by
    funext p; rw [h.kindOf, h.cells]
  rw [this]

theorem lookup_key {l : List (Str × Addr)} {x : Str} (h : (l.lookup x).isSome = true) : x ∈ l.map (·.1) := by
  obtain ⟨c, hc⟩ := Option.isSome_iff_exists.mp h
  exact List.mem_map.mpr ⟨_, mem_of_lookup hc, rfl⟩
theorem isSome_keys {l k : List (Str × Addr)} (h : l.map (·.1) = k.map (·.1)) (x : Str) : (l.lookup x).isSome = (k.lookup x).isSome := by
  rw [Bool.eq_iff_iff]
  exact ⟨fun q => lookup_isSome (by rw [← h]; exact lookup_key q), fun q => lookup_isSome (by rw [h]; exact lookup_key q)⟩

theorem SameEnv.comp {se env : Env} (h : SameEnv se env) (sc : Scope) (C : Addr) : SameEnv (cenvOf sc 0 se) (cenvOf sc C env) := by
  refine ⟨?_, fun x => ?_, rfl⟩
  · show relabel sc se = relabel sc env
    unfold relabel
    have : (fun p : Str × NameKind => if (p.2 == .free && se.scope.kind == .function && se.kindOf p.1 == some .cell) = true then (p.1, NameKind.cell) else (p.1, p.2)) =
        (fun p : Str × NameKind => if (p.2 == .free && env.scope.kind == .function && env.kindOf p.1 == some .cell) = true then (p.1, NameKind.cell) else (p.1, p.2)) := by
      funext p; rw [h.kindOf, h.scope]
    show { sc with names := sc.names.map fun p => _ } = { sc with names := sc.names.map fun p => _ }
    rw [this]
  · refine isSome_keys ?_ x
    show (clsC se.cells sc.names []).map (·.1) = (clsC env.cells sc.names []).map (·.1)
    rw [clsC_keys, clsC_keys]

noncomputable def noSet : Expr → Bool
  | .Set .. => false
  | _ => true
theorem folded_no {e : Expr} {env : Env} (h : noSet e = true) (x : Value) : foldedSetIterable e env x = pure x := by
  cases e <;> first | rfl | cases h

end Mine
end

section
open PySem
set_option Elab.async false
set_option maxRecDepth 10000
namespace Mine

/-! what the nodes compute, as programs of our own -/
noncomputable def thenM (a b : M Fl) : M Fl := do
  let f ← a
  match f with
  | .next => b
  | f => mpure f
noncomputable def endM : M Fl := mpure .next
noncomputable def retM (m : M V) : M Fl := do
  let v ← m
  mpure (.ret v)
noncomputable def exprM (m : M V) : M Fl := do
  let _ ← m
  mpure .next
noncomputable def asgM (x : Str) (m : M V) : M Fl := do
  let v ← m
  setLoc x v
  mpure .next
noncomputable def asgAttrM (o : M V) (name : Str) (m : M V) : M Fl := do
  let v ← m
  (do
    let ov ← o
    setAttrS ov name v)
  mpure .next
noncomputable def two (A B : V → M Unit) : V → M Unit
  | .dat (.tuple [a, b]) => do
    A (.dat a)
    B (.dat b)
  | _ => mfail
noncomputable def augM (x : Str) (op : Operator) (m : M V) : M Fl := do
  let old ← nameS x
  let v ← m
  let a ← asDat old
  let b ← asDat v
  let d ← mopt (binD op a b)
  setLoc x (.dat d)
  mpure .next
noncomputable def ifM (t : M Bool) (a b : M Fl) : M Fl := do
  let c ← t
  bif c then a else b
noncomputable def forM (bind : V → M Unit) (body : M Fl) (it : M V) : M Fl := do
  let v ← it
  forV bind body v

noncomputable def datM (d : PyData) : M V := mpure (.dat d)
noncomputable def binM (op : Operator) (a b : M V) : M V := do
  let x ← a
  let y ← b
  binS op x y
noncomputable def ifxM (t : M Bool) (a b : M V) : M V := do
  let c ← t
  bif c then a else b
noncomputable def lstM (Q : Prm) (ms : List (M V)) : M V := do
  let ds ← listS Q ms
  mpure (.dat (.list ds))
noncomputable def tupM (Q : Prm) (ms : List (M V)) : M V := do
  let ds ← listS Q ms
  mpure (.dat (.tuple ds))
noncomputable def genM (sc : Scope) (bind : V → M Unit) (tests : List (M Bool)) (elt it : M V) : M (List PyData) := do
  let v ← it
  compV sc bind tests elt v
noncomputable def lcM (sc : Scope) (bind : V → M Unit) (tests : List (M Bool)) (elt it : M V) : M V := do
  let ds ← genM sc bind tests elt it
  mpure (.dat (.list ds))
noncomputable def typM (op : CmpOp) (m : M V) (t : Str) : M V := do
  let v ← m
  let n ← typeN v
  match op with
  | .Is => mpure (.dat (.bool (n = t)))
  | .IsNot => mpure (.dat (.bool !(n = t)))
  | _ => mfail
noncomputable def cmpM (Q : Prm) (op : CmpOp) (a b : M V) : M V := do
  let x ← a
  let y ← b
  cmpS Q op x y
noncomputable def strM (f : Str → Str) (o : M V) : M V := do
  let ov ← o
  strF f ov
noncomputable def lmM (F : List PyData → List V → Option (PyData × List PyData)) (o : M V) (args : List (M V)) : M V := do
  let ov ← o
  lstG ov
  let vs ← seqS args
  lstF F ov vs
noncomputable def imM (Q : Prm) (o : M V) (name : Str) (args : List (M V)) (kws : List (Str × M V)) : M V := do
  let ov ← o
  instG ov
  let vs ← seqS args
  let ks ← kwS kws
  Q.mt name ov vs ks
noncomputable def mkM (Q : Prm) (ms : List (M V)) : M V := do
  let vs ← seqS ms
  Q.make vs
noncomputable def callM (Q : Prm) (f : Str) (ms : List (M V)) : M V := do
  let vs ← seqS ms
  Q.fn f vs
noncomputable def bltM (F : List V → M V) (ms : List (M V)) : M V := do
  let vs ← seqS ms
  F vs
noncomputable def attrM (o : M V) (name : Str) : M V := do
  let ov ← o
  attrS ov name
noncomputable def itemM (Q : Prm) (o i : M V) : M V := do
  let ov ← o
  let iv ← i
  itemS Q ov iv
noncomputable def truT (m : M V) : M Bool := do
  let v ← m
  truthS v
noncomputable def ownLstM (Q : Prm) (ms : List (M V)) : M V := do
  let ds ← listS Q ms
  newObj (.lst ds)
noncomputable def fscope (names : List (Str × NameKind)) : Scope := ⟨.function, names, false, false, []⟩

end Mine
end

section
open PySem
set_option Elab.async false
set_option maxRecDepth 10000
namespace Mine

theorem massoc {α β γ : Type} (m : M α) (f : α → M β) (g : β → M γ) : (m >>= f) >>= g = m >>= fun x => f x >>= g := by
  funext σ
  show mbind (mbind m f) g σ = mbind m (fun x => mbind (f x) g) σ
  unfold mbind
  cases m σ with
  | none => rfl
  | some p => rfl

/-! what a text computes, in every frame of its kind -/
noncomputable def EvR (X : Cx) (n : Nat) (se : Env) (e : Expr) (m : M V) : Prop := ∀ env, SameEnv se env → Ev X n env e m
noncomputable def TeR (X : Cx) (n : Nat) (se : Env) (e : Expr) (m : M Bool) : Prop := ∀ env, SameEnv se env → Te X n env e m
noncomputable def EvLR (X : Cx) (n : Nat) (se : Env) (e : List Expr) (m : List (M V)) : Prop := ∀ env, SameEnv se env → EvL X n env e m
noncomputable def TeLR (X : Cx) (n : Nat) (se : Env) (e : List Expr) (m : List (M Bool)) : Prop := ∀ env, SameEnv se env → TeL X n env e m
noncomputable def EvKR (X : Cx) (n : Nat) (se : Env) (e : List Keyword) (m : List (Str × M V)) : Prop := ∀ env, SameEnv se env → EvK X n env e m
noncomputable def AsR (X : Cx) (n : Nat) (se : Env) (e : Expr) (m : V → M Unit) : Prop := ∀ env, SameEnv se env → As X n env e m
noncomputable def ExR (X : Cx) (n : Nat) (se : Env) (e : Stmt) (m : M Fl) : Prop := ∀ env, SameEnv se env → Ex X n env e m
noncomputable def ExsR (X : Cx) (n : Nat) (se : Env) (e : List Stmt) (m : M Fl) : Prop := ∀ env, SameEnv se env → Exs X n env e m

section
variable {X : Cx} {n : Nat} {se : Env} {P : Prm} {e l r t b o i : Expr} {es : List Expr} {m a c d : M V} {ms : List (M V)} {pos p q : Pos} {x y f name : Str} {mt mb mc : M Bool}

theorem L_nil : EvLR X n se [] [] := fun _ _ => .nil
theorem L_cons (h : EvR X n se e m) (k : EvLR X n se es ms) : EvLR X n se (e :: es) (m :: ms) := fun v hs => .cons (h v hs) (k v hs)
theorem TL_nil : TeLR X n se [] [] := fun _ _ => .nil
theorem TL_cons {ms : List (M Bool)} (h : TeR X n se e mt) (k : TeLR X n se es ms) : TeLR X n se (e :: es) (mt :: ms) := fun v hs => .cons (h v hs) (k v hs)
theorem K_nil : EvKR X n se [] [] := fun _ _ => .nil
theorem K_cons {ks : List Keyword} {km : List (Str × M V)} (h : EvR X n se e m) (k : EvKR X n se ks km) : EvKR X n se (⟨some x, e, p⟩ :: ks) ((x, m) :: km) := fun v hs => .cons (h v hs) (k v hs)

theorem D_int {j : Int} {k : Nat} : EvR X n se (.Constant (.int j) k pos) (datM (.int j)) := fun _ _ => Ev_Constant
theorem D_bool {j : Bool} {k : Nat} : EvR X n se (.Constant (.bool j) k pos) (datM (.bool j)) := fun _ _ => Ev_Constant
theorem D_none {k : Nat} : EvR X n se (.Constant .none k pos) (datM .none) := fun _ _ => Ev_Constant
theorem D_str {k : Nat} (h : asc x = true) : EvR X n se (.Constant (.str x) k pos) (datM (.str x)) := fun v hs => by
  have e : constS (.str x) = datM (.str x) := if_pos h
  rw [← e]; exact Ev_Constant
theorem D_name : EvR X n se (.Name x pos) (nameS x) := fun _ _ => Ev_Name
theorem D_bin {op : Operator} (h : EvR X n se l a) (k : EvR X n se r c) : EvR X n se (.BinOp l op r pos) (binM op a c) := fun v hs => Ev_BinOp (h v hs) (k v hs)
theorem D_ifx (h : TeR X n se t mt) (k : EvR X n se b a) (j : EvR X n se o c) : EvR X n se (.IfExp t b o pos) (ifxM mt a c) := fun v hs => Ev_IfExp (h v hs) (k v hs) (j v hs)
theorem D_lst (h : EvLR X n se es ms) (hst : es.all noStar = true) : EvR X n se (.List es pos) (lstM P ms) := fun v hs => Ev_List (h v hs) hst
theorem D_tup {k : Nat} (h : EvLR X n se es ms) (hst : es.all noStar = true) : EvR X n se (.Tuple es k pos) (tupM P ms) := fun v hs => Ev_Tuple (h v hs) hst
theorem O_lst (h : EvLR X n se es ms) (hst : es.all noStar = true) : EvR X n se (.List es pos) (ownLstM P ms) := fun v hs A ρ μ σ s ga R r σ' q => by
  refine mbind_elim q fun ds σ1 e1 q1 => ?_
  cases q1
  exact wpAny_mono (Fl_List (h v hs) hst ga R e1) (fun _ _ f => f.obj) fun _ _ z => z

/-- a comprehension's parts -/
structure CompP (X : Cx) (n : Nat) (se : Env) (elt tgt iter : Expr) (ifs : List Expr) (sc : Scope) (bind : V → M Unit) (tests : List (M Bool)) (me mi : M V) : Prop where
  c : compOk se sc = true
  i : EvR X n se iter mi
  b : AsR X n (cenvOf sc 0 se) tgt bind
  t : TeLR X n (cenvOf sc 0 se) ifs tests
  e : EvR X n (cenvOf sc 0 se) elt me
  s : noSet iter = true
section
variable {elt tgt iter : Expr} {ifs : List Expr} {sc : Scope} {bind : V → M Unit} {tests : List (M Bool)} {me mi : M V}
theorem Fl_cp (cp : CompP X n se elt tgt iter ifs sc bind tests me mi) {env : Env} (hs : SameEnv se env) {A : Around} {ρ : List Addr} {μ : Mu} {σ : St} {s : Shared} (ga : Ga n A) (R : Rel X ρ μ env σ s.heap) {es : List PyData} {σ' : St} (q : genM sc bind tests me mi σ = some (es, σ')) :
    wpAny (model X.prog X.w) A (eval (.ListComp elt [⟨tgt, iter, ifs, 0⟩] sc pos) env) (FreshX X ρ μ env s es σ') (fun _ _ => False) s := by
  refine mbind_elim q fun v σ2 e2 e3 => ?_
  exact Fl_ListComp (by rw [← hs.compOk]; exact cp.c) (cp.i env hs) (fun C => cp.b _ (hs.comp sc C)) (fun C => cp.t _ (hs.comp sc C)) (fun C => cp.e _ (hs.comp sc C)) (folded_no cp.s) ga R e2 e3
theorem D_lc (cp : CompP X n se elt tgt iter ifs sc bind tests me mi) : EvR X n se (.ListComp elt [⟨tgt, iter, ifs, 0⟩] sc pos) (lcM sc bind tests me mi) := fun v hs A ρ μ σ s ga R r σ' q => by
  refine mbind_elim q fun ds σ1 e1 q1 => ?_
  cases q1
  exact wpAny_mono (Fl_cp cp hs ga R e1) (fun _ _ f => f.dat) fun _ _ z => z
noncomputable def swapB (env : Env) (sc : Scope) (y : Str) (yp p : Pos) : Bool := env.blockKind == .function && env.kindOf y == some .local && yp.line == p.line && !(sc.names.any fun (n, k) => n == y && (k == .local || k == .cell))
theorem swaps_comp {env : Env} {gens : List Comprehension} {yp : Pos} {k : Nat} : swapsWith (.ListComp elt gens sc p) (some (.Name y yp)) k env = pure (swapB env sc y yp p) := rfl

theorem X_asgLc {yp : Pos} (cp : CompP X n se elt tgt iter ifs sc bind tests me mi) (hy : stOk se y = true) : ExR X n se (.Assign [.Name y yp] (.ListComp elt [⟨tgt, iter, ifs, 0⟩] sc pos) p) (asgM y (lcM sc bind tests me mi)) := fun env hs => by
  have hy' : stOk env y = true := by rw [← hs.stOk]; exact hy
  cases hsw : swapB env sc y yp pos with
  | false => exact Ex_Assign (D_lc cp env hs) (As_Name hy') rfl (by rw [swaps_comp, hsw]) rfl
  | true =>
    have q := Ex_CompName (X := X) (n := n) (pos := pos) (yp := yp) (spos := p) false (by rw [← hs.compOk]; exact cp.c) (cp.i env hs) (fun C => cp.b _ (hs.comp sc C)) (fun C => cp.t _ (hs.comp sc C)) (fun C => cp.e _ (hs.comp sc C)) (folded_no cp.s) hy' (by rw [swaps_comp, hsw])
    have e : asgM y (lcM sc bind tests me mi) = (do
      let it ← mi
      let ds ← compV sc bind tests me it
      let v ← bif false then newObj (.lst ds) else mpure (.dat (.list ds))
      setLoc y v
      mpure .next) := by
      unfold asgM lcM genM
      simp only [massoc]
      rfl
    rw [e]; exact q
end

theorem D_cmp (ok : CxOk X) (pok : PrmOk X n P) {op : CmpOp} (h : EvR X (n + 1) se l a) (k : EvR X (n + 1) se r c) (hm : noMark op r = true) : EvR X (n + 1) se (.Compare l [op] [r] pos) (cmpM P op a c) := fun v hs => Ev_Compare ok pok (h v hs) (k v hs) hm
theorem D_item (ok : CxOk X) (pok : PrmOk X n P) (h : EvR X (n + 1) se o a) (k : EvR X (n + 1) se i c) (hm : noSlice i = true) : EvR X (n + 1) se (.Subscript o i pos) (itemM P a c) := fun v hs => Ev_Subscript ok pok (h v hs) (k v hs) hm
theorem D_im (ok : CxOk X) (pok : PrmOk X n P) {ks : List Keyword} {km : List (Str × M V)} (h : EvR X (n + 1) se o a) (k : EvLR X (n + 1) se es ms) (j : EvKR X (n + 1) se ks km) (hm : methOk o es ks p pos = true) :
    EvR X (n + 1) se (.Call (.Attribute o name p) es ks pos) (imM P a name ms km) := fun v hs => Ev_InstM ok pok (h v hs) (k v hs) (j v hs) hm
theorem D_sm {id : String} {f : Str → Str} (hS : SMok X name id f) (h : EvR X n se o a) (hm : methOk o [] [] p pos = true) : EvR X n se (.Call (.Attribute o name p) [] [] pos) (strM f a) := fun v hs => Ev_StrM hS (h v hs) hm
theorem D_lm {id : String} {F : List PyData → List V → Option (PyData × List PyData)} (hG : LGok X name id) (hF : LMok X id F) (h : EvR X n se o a) (k : EvLR X n se es ms) (hm : methOk o es [] p pos = true) :
    EvR X n se (.Call (.Attribute o name p) es [] pos) (lmM F a ms) := fun v hs => Ev_LstM hG hF (h v hs) (k v hs) hm
theorem D_call (ok : CxOk X) (pok : PrmOk X n P) (h : EvLR X (n + 1) se es ms) (hst : es.all noStar = true) (hk : gKind se f = true) : EvR X (n + 1) se (.Call (.Name f p) es [] pos) (callM P f ms) := fun v hs => Ev_Fn ok pok (h v hs) hst (by rw [← hs.gKind]; exact hk)
theorem D_len (ok : CxOk X) (pok : PrmOk X n P) (h : EvLR X (n + 1) se es ms) (hst : es.all noStar = true) (hk : gKind se (Str.ofString "len") = true) : EvR X (n + 1) se (.Call (.Name (Str.ofString "len") p) es [] pos) (bltM (lenB P) ms) := fun v hs => Ev_BltB ok (val_len ok) (h v hs) hst (by rw [← hs.gKind]; exact hk) fun ga R hv => W_lenB ok pok ga R hv
theorem D_strB (ok : CxOk X) (h : EvLR X (n + 1) se es ms) (hst : es.all noStar = true) (hk : gKind se (Str.ofString "str") = true) : EvR X (n + 1) se (.Call (.Name (Str.ofString "str") p) es [] pos) (bltM strB ms) := fun v hs => Ev_BltT ok (val_str ok) (h v hs) hst (by rw [← hs.gKind]; exact hk) fun ga R hv => W_strB R hv
theorem D_range (ok : CxOk X) (h : EvLR X (n + 1) se es ms) (hst : es.all noStar = true) (hk : gKind se (Str.ofString "range") = true) : EvR X (n + 1) se (.Call (.Name (Str.ofString "range") p) es [] pos) (bltM rangeB ms) := fun v hs => Ev_BltT ok (val_range ok) (h v hs) hst (by rw [← hs.gKind]; exact hk) fun ga R hv => W_rangeB R hv
theorem D_mk (ok : CxOk X) (pok : PrmOk X n P) (h : EvLR X (n + 1) se es ms) (hst : es.all noStar = true) (hk : gKind se (Str.ofString "Headers") = true) : EvR X (n + 1) se (.Call (.Name (Str.ofString "Headers") p) es [] pos) (mkM P ms) := fun v hs => Ev_Make ok pok (h v hs) hst (by rw [← hs.gKind]; exact hk)
theorem D_attr (ok : CxOk X) : EvR X n se (.Attribute (.Name x p) name pos) (attrM (nameS x) name) := fun _ _ => Ev_Attr ok

/-! tests -/
theorem T_cmp (ok : CxOk X) (pok : PrmOk X n P) {op : CmpOp} (h : EvR X (n + 1) se l a) (k : EvR X (n + 1) se r c) (hm : noMark op r = true) : TeR X (n + 1) se (.Compare l [op] [r] pos) (truT (cmpM P op a c)) := fun v hs => Te_Compare ok pok (h v hs) (k v hs) hm
theorem T_typ (ok : CxOk X) {op : CmpOp} {tp cp : Pos} (h : EvR X n se e m) (hc : typOk se e x = true) : TeR X n se (.Compare (.Call (.Name (Str.ofString "type") p) [e] [] pos) [op] [.Name x tp] cp) (truT (typM op m x)) := fun v hs => Te_Typ ok (h v hs) (by rw [← hs.typOk]; exact hc)
theorem T_plain (h : EvR X n se e m) (hp : plainTest e = true) : TeR X n se e (truT m) := fun v hs => Te_plain hp (h v hs)
/-! targets -/
theorem A_name (hk : stOk se x = true) : AsR X n se (.Name x p) (setLoc x) := fun v hs => As_Name (by rw [← hs.stOk]; exact hk)
theorem A_two {k : Nat} {A B : V → M Unit} (h : AsR X n se t A) (j : AsR X n se b B) (hst : (noStar t && noStar b) = true) : AsR X n se (.Tuple [t, b] k p) (two A B) := fun v hs => by
  have q := As_Tuple (k := k) (p := p) (h v hs) (j v hs) hst
  intro A' ρ μ σ s v z ga R hv
  have q := q A' ρ μ σ s v z ga R hv
  cases v with
  | dat d =>
    cases d with
    | tuple l =>
      match l, q with
      | [a, b], q => exact q
      | [], q => exact q
      | [_], q => exact q
      | _ :: _ :: _ :: _, q => exact q
    | _ => exact q
  | _ => exact q

/-! statements -/
theorem X_expr (h : EvR X n se e m) (hc : noComp e = true) : ExR X n se (.Expr e pos) (exprM m) := fun v hs => Ex_Expr (h v hs) hc
theorem X_ret (h : EvR X n se e m) : ExR X n se (.Return (some e) pos) (retM m) := fun v hs => Ex_Return (h v hs)
theorem X_fail {st : Stmt} : ExR X n se st mfail := fun v hs A ρ μ σ s ga R r σ' q => by cases q
theorem X_asg (h : EvR X n se e m) (hk : stOk se x = true) (hc : noComp e = true) : ExR X n se (.Assign [.Name x p] e pos) (asgM x m) := fun v hs =>
  Ex_Assign (h v hs) (A_name hk v hs) rfl (swaps_no hc _ _) (swapped_no rfl)
theorem X_asgAttr (ok : CxOk X) (h : EvR X n se e m) (k : EvR X n se o a) (hc : noComp e = true) : ExR X n se (.Assign [.Attribute o name p] e pos) (asgAttrM a name m) := fun v hs =>
  Ex_Assign (h v hs) (As_Attr ok (k v hs)) rfl (swaps_no hc _ _) (swapped_no rfl)
theorem X_aug {op : Operator} (h : EvR X n se e m) (hk : stOk se x = true) (ho : augOk op = true) : ExR X n se (.AugAssign (.Name x p) op e pos) (augM x op m) := fun v hs => Ex_Aug (h v hs) (by rw [← hs.stOk]; exact hk) ho
theorem X_if {ts fs : List Stmt} {mT mF : M Fl} (h : TeR X n se t mt) (k : ExsR X n se ts mT) (j : ExsR X n se fs mF) : ExR X n se (.If t ts fs pos) (ifM mt mT mF) := fun v hs => Ex_If (h v hs) (k v hs) (j v hs)
theorem X_for {ts : List Stmt} {mT : M Fl} {bind : V → M Unit} (h : EvR X n se e m) (k : AsR X n se t bind) (j : ExsR X n se ts mT) (hs' : noSet e = true) : ExR X n se (.For t e ts [] pos) (forM bind mT m) := fun v hs => Ex_For (h v hs) (k v hs) (j v hs) (folded_no hs')
theorem S_nil : ExsR X n se [] endM := fun _ _ => Exs_nil
theorem S_cons {st : Stmt} {rs : List Stmt} {mS mR : M Fl} (h : ExR X n se st mS) (k : ExsR X n se rs mR) : ExsR X n se (st :: rs) (thenM mS mR) := fun v hs => Exs_cons (h v hs) (k v hs)
end
end Mine
end

section
open PySem
set_option Elab.async false
set_option maxRecDepth 10000
namespace Mine

section
variable {X : Cx} {n : Nat} {se : Env} {P : Prm} {e t b : Expr} {m : M V} {pos p q : Pos} {x y : Str}

end
end Mine
end

section
open PySem
set_option Elab.async false
set_option maxRecDepth 10000
namespace Mine

theorem cellsFrom_keys : ∀ {names : List (Str × NameKind)} {k : Nat} {acc : List (Str × Addr)}, (cellsFrom k names acc).map (·.1) = ((names.filter (·.2 == .cell)).map (·.1)).reverse ++ acc.map (·.1)
  | [], _, _ => rfl
  | (nm, kd) :: r, k, acc => by
    unfold cellsFrom
    cases hk : (kd == NameKind.cell) with
    | true => simp only [hk, if_true, List.filter_cons, List.map_cons, List.reverse_cons]; rw [cellsFrom_keys]; simp
    | false => simp only [hk, Bool.false_eq_true, if_false, List.filter_cons]; exact cellsFrom_keys

theorem lookup_of_mem {l : List (Str × Addr)} (hn : (l.map (·.1)).Nodup) {x : Str} {c : Addr} (hm : (x, c) ∈ l) : l.lookup x = some c := by
  induction l with
  | nil => cases hm
  | cons p l ih =>
    rw [List.map_cons, List.nodup_cons] at hn
    rw [List.lookup_cons]
    rcases List.mem_cons.mp hm with e | hm
    · subst e; simp
    · have : (x == p.1) = false := by
        rw [Bool.eq_false_iff]; intro q
        have q := beq_iff_eq.mp q
        exact hn.1 (q ▸ List.mem_map.mpr ⟨_, hm, rfl⟩)
      rw [this]; exact ih hn.2 hm

theorem bindL_miss {k : Str → Option NameKind} : ∀ {binds : List (Str × Value)} {m : Str → Option Value} {x : Str}, x ∉ binds.map (·.1) → bindL k binds m x = m x
  | [], _, _, _ => rfl
  | (nm, v) :: r, m, x, h => by
    rw [List.map_cons, List.mem_cons, not_or] at h
    unfold bindL
    rw [bindL_miss h.2]
    split
    · exact if_neg h.1
    · rfl
theorem bindC_miss {k : Str → Option NameKind} : ∀ {binds : List (Str × Value)} {m : Str → Option Value} {x : Str}, x ∉ binds.map (·.1) → bindC k binds m x = m x
  | [], _, _, _ => rfl
  | (nm, v) :: r, m, x, h => by
    rw [List.map_cons, List.mem_cons, not_or] at h
    unfold bindC
    rw [bindC_miss h.2]
    split
    · rfl
    · exact if_neg h.1
theorem bindL_get {k : Str → Option NameKind} {x : Str} {val : Value} (hk : k x = some .local) : ∀ {binds : List (Str × Value)} {m : Str → Option Value}, (binds.map (·.1)).Nodup → binds.lookup x = some val → bindL k binds m x = some val
  | [], _, _, h => by simp at h
  | (nm, v) :: r, m, hn, h => by
    rw [List.map_cons, List.nodup_cons] at hn
    rw [List.lookup_cons] at h
    unfold bindL
    cases q : (x == nm) with
    | true =>
      rw [q] at h; cases h
      have q := beq_iff_eq.mp q
      subst q
      rw [bindL_miss hn.1, if_pos hk]; simp
    | false => rw [q] at h; exact bindL_get hk hn.2 h
theorem bindC_get {k : Str → Option NameKind} {x : Str} {val : Value} (hk : k x ≠ some .local) : ∀ {binds : List (Str × Value)} {m : Str → Option Value}, (binds.map (·.1)).Nodup → binds.lookup x = some val → bindC k binds m x = some val
  | [], _, _, h => by simp at h
  | (nm, v) :: r, m, hn, h => by
    rw [List.map_cons, List.nodup_cons] at hn
    rw [List.lookup_cons] at h
    unfold bindC
    cases q : (x == nm) with
    | true =>
      rw [q] at h; cases h
      have q := beq_iff_eq.mp q
      subst q
      rw [bindC_miss hn.1, if_neg hk]; simp
    | false => rw [q] at h; exact bindC_get hk hn.2 h

/-- names with values, abstract and real -/
theorem zip_val {h : Heap} {ok : Addr → Prop} {μ : Mu} {x : Str} {v : V} : ∀ {ps : List Str} {vs : List V} {xs : List Value}, VRl h ok μ vs xs → bindP ps vs x = some v → ∃ val, (ps.zip xs).lookup x = some val ∧ VR h ok μ v val
  | [], _, _, _, e => by simp [bindP] at e
  | p :: ps, [], _, _, e => by simp [bindP] at e
  | p :: ps, w :: vs, _, hv, e => by
    obtain ⟨y, r, rfl, h1, h2⟩ := hv
    unfold bindP at e
    rw [List.zip_cons_cons, List.lookup_cons] at e ⊢
    cases q : (x == p) with
    | true => rw [q] at e; cases e; exact ⟨y, rfl, h1⟩
    | false => rw [q] at e; exact zip_val h2 e

structure FnOk (X : Cx) (f : Addr) (fd : FuncData) (body : List Stmt) (ps : List Str) : Prop where
  at_ : ∃ o, X.base.get? f = some o ∧ o.data = .func fd
  code : X.base.CodeRec fd.code fd.qualname
  body : fd.body = .stmts body
  clo : fd.closure = []
  glob : fd.globals = mainGlobals
  blt : fd.builtins = builtinsNs
  kind : fd.scope.kind = .function
  co : fd.scope.isCoroutine = false
  gen : fd.scope.isGenerator = false
  nod : (fd.scope.names.map (·.1)).Nodup
  pnod : ps.Nodup
  pk : ∀ p ∈ ps, fd.scope.names.lookup p = some .local ∨ fd.scope.names.lookup p = some .cell

noncomputable def fnEnv (sc : Scope) : Env := { scope := sc, locals := 0, globals := 0, cells := cellsFrom 0 sc.names [], func := some 0 }

theorem fnEnv_same (fd : FuncData) (L a : Addr) : SameEnv (fnEnv fd.scope) (callEnvC fd L a) :=
  ⟨rfl, isSome_keys (by show (cellsFrom 0 fd.scope.names []).map (·.1) = (cellsFrom (L + 1) fd.scope.names []).map (·.1); rw [cellsFrom_keys, cellsFrom_keys]), rfl⟩

section
variable {X : Cx} {n : Nat} {env : Env} {P : Prm} {A : Around} {ρ : List Addr} {μ μ' : Mu} {σ : St} {s : Shared} {h h' : Heap}

theorem Rel.cellNoRoot (R : Rel X ρ μ env σ h) {C : Addr} {v : Option Value} (hn : h.IsCell C v) (j : Nat) : root μ j ≠ some C := fun hj => by
  obtain ⟨o, h1, h2⟩ := hn
  unfold root at hj
  obtain ⟨p, g1, rfl⟩ := Option.map_eq_some_iff.mp hj
  have hlt : j < σ.heap.length := by rw [← R.len]; exact (List.getElem?_eq_some_iff.mp g1).1
  obtain ⟨q, g2, g3⟩ := R.objs j _ (List.getElem?_eq_getElem hlt)
  rw [g1] at g2; cases g2
  generalize σ.heap[j] = ob at g3
  cases ob with
  | lst ds => obtain ⟨vs, n, _, h4, _⟩ := g3; rw [h4] at h1; cases h1; cases h2
  | frz ds => obtain ⟨vs, n, _, h4, _⟩ := g3; rw [h4] at h1; cases h1; cases h2
  | inst l => obtain ⟨d, _, h4, _⟩ := g3; rw [h4] at h1; cases h1; cases h2
  | dctS kvs => obtain ⟨o, _, _, h4, _, h5⟩ := DctR.live g3; rw [h4] at h1; cases h1; rw [h5] at h2; cases h2
  | dctI kvs => obtain ⟨o, _, _, h4, _, h5⟩ := DctR.live g3; rw [h4] at h1; cases h1; rw [h5] at h2; cases h2

theorem Step.transG {wr : List Addr} {s₁ s₂ : Shared} (a : Step [] μ μ s s₁) (b : Step wr μ μ' s₁ s₂) (hf : ∀ x ∈ wr, s.heap.get? x = none) : Step [] μ μ' s s₂ := by
  obtain ⟨h1, t1, e1⟩ := a.same
  obtain ⟨h2, t2, e2⟩ := b.same
  refine ⟨⟨h2, t2, by rw [e2, e1]⟩, fun x o e hm ho => ?_, fun x o e => ?_, b.pre, fun x hx => ?_⟩
  · refine b.keep x o (a.keep x o e hm ho) hm fun hw => ?_
    rw [hf x hw] at e; cases e
  · obtain ⟨o1, q⟩ := a.live x o e
    exact b.live x o1 q
  · rcases b.new x hx with h | h
    · exact .inl h
    · right
      cases q : s.heap.get? x with
      | none => rfl
      | some o =>
        obtain ⟨o1, q1⟩ := a.live x o q
        rw [h] at q1; cases q1

noncomputable def flowV : Flow → Value
  | .ret v => v
  | _ => .none

theorem FlR.val {ok : Addr → Prop} {fl : Fl} {x : Flow} (v2 : FlR h ok μ fl x) : VR h ok μ (retV fl) (flowV x) := by
  cases fl with
  | ret v => obtain ⟨y, h1, hy⟩ := v2; subst h1; exact hy
  | next => have h1 : x = Flow.next := v2; subst h1; simp only [VR, DR, retV, flowV]
  | brk => have h1 : x = Flow.brk := v2; subst h1; simp only [VR, DR, retV, flowV]
  | cont => have h1 : x = Flow.cont := v2; subst h1; simp only [VR, DR, retV, flowV]

set_option maxHeartbeats 1000000 in
/-- a def is entered -/
theorem Call_in (ok : CxOk X) {f : Addr} {fd : FuncData} {body : List Stmt} {ps : List Str} {mb : M Fl} (fo : FnOk X f fd body ps) (hB : ∀ env', SameEnv (fnEnv fd.scope) env' → Exs X (n + 1) env' body mb) (ga : Ga (n + 2) A) (R : Rel X ρ μ env σ s.heap)
    {vs : List V} {ys : List Value} (hv : VRl s.heap (okOf ρ μ) μ vs ys) {r : V} {σ' : St} (e : callB ps mb vs σ = some (r, σ')) {E : Value → Shared → Prop} :
    wpAny (model X.prog X.w) A.in1 (newFunctionEnv fd.scope fd.globals fd.closure (ps.zip ys) (fd.qualname ++ ".<locals>.") (some f) fd.code none fd.builtins)
      (fun ev s₂ => s₂.heap.NoLimit ∧ codeAny (model X.prog X.w) A (.func body ev) (fun q s' => match q with | .ok (.ret v) => Post X ρ μ env s VRr r σ' v s' | .ok _ => False | .error _ => False) s₂) E s := by
  unfold callB at e
  split at e
  · rename_i hlen
    cases hbody : mb ⟨bindP ps vs, σ.heap⟩ with
    | none => rw [hbody] at e; cases e
    | some p =>
      obtain ⟨fl, σ2⟩ := p
      rw [hbody] at e
      have hyl := hv.length
      have hzk : (ps.zip ys).map (·.1) = ps := by
        rw [List.map_fst_zip]
        omega
      rw [fo.clo]
      have hkeys : ∀ k, ((cellsFrom k fd.scope.names []).map (·.1)).Nodup := fun k => by
        rw [cellsFrom_keys]
        simp only [List.map_nil, List.append_nil]
        refine List.pairwise_reverse.mpr (List.Pairwise.imp (fun hh => Ne.symm hh) ?_)
        exact List.Nodup.sublist (List.Sublist.map _ List.filter_sublist) fo.nod
      have hcellin : ∀ k x, fd.scope.names.lookup x = some .cell → ((cellsFrom k fd.scope.names []).lookup x).isSome = true := fun k x hx => lookup_isSome (by
        rw [cellsFrom_keys]
        simp only [List.map_nil, List.append_nil, List.mem_reverse, List.mem_map, List.mem_filter]
        exact ⟨(x, .cell), ⟨lookup_mem_key hx, rfl⟩, rfl⟩)
      refine wpAny_newFunctionEnv_cells fo.kind (fun p hp => ?_) fun env' he' s₁ ic => ?_
      · have hp1 : p.1 ∈ ps := by rw [← hzk]; exact List.mem_map.mpr ⟨p, hp, rfl⟩
        rcases fo.pk p.1 hp1 with h | h
        · exact .inl h
        · exact .inr ⟨h, hcellin _ _ h⟩
      · have he'' : env' = callEnvC fd s.heap.objs.size f := he'
        refine ⟨(ok.nolimit.keeps R.base).keeps ic.toInCall.keep, codeAny_func ?_⟩
        have hEs : SameEnv (fnEnv fd.scope) env' := by rw [he'']; exact fnEnv_same fd _ _
        have hkd : env'.scope = fd.scope := by rw [he'']; rfl
        have hloc : env'.locals = s.heap.objs.size := by rw [he'']; rfl
        have hcls : env'.cells = cellsFrom (s.heap.objs.size + 1) fd.scope.names [] := by rw [he'']; rfl
        have hfr : ∀ b ∈ own env', s.heap.get? b = none := fun b hb' => by
          have hge : s.heap.objs.size ≤ b := by
            rcases List.mem_cons.mp hb' with rfl | hb'
            · exact Nat.le_of_eq hloc.symm
            · obtain ⟨⟨nm, c⟩, h1, rfl⟩ := List.mem_map.mp hb'
              have := ic.above nm c h1
              rw [hloc] at this
              exact Nat.le_of_lt this
          cases q : s.heap.get? b with
          | none => rfl
          | some o => exact absurd (Heap.lt_size q) (Nat.not_lt.mpr hge)
        have hcellsIs : ∀ nm c, (nm, c) ∈ env'.cells → ∃ v, s₁.heap.IsCell c v := fun nm c hm => ⟨_, ic.cell nm c (lookup_of_mem (by rw [hcls]; exact hkeys _) hm)⟩
        have F' : FrameR env' s₁.heap (bindL env'.kindOf (ps.zip ys) fun _ => none) (bindC env'.kindOf (ps.zip ys) fun _ => none) :=
          ⟨by rw [hkd]; exact fo.kind, by rw [he'']; exact fo.glob, by rw [he'']; exact fo.blt, ic.toInCall.ns, ic.cell, hcellsIs, ic.apart⟩
        have hlv : ∀ b ∈ own env', ∃ o, s₁.heap.get? b = some o := fun b hb' => by
          rcases List.mem_cons.mp hb' with rfl | hb'
          · obtain ⟨o, _, _, q, _⟩ := F'.ns; exact ⟨o, q⟩
          · obtain ⟨⟨nm, c⟩, h1, rfl⟩ := List.mem_map.mp hb'
            obtain ⟨v, o, q, _⟩ := hcellsIs nm c h1
            exact ⟨o, q⟩
        obtain ⟨hh, tk, rfl⟩ := ic.toInCall.same
        have Rr : Rel X (own env' ++ ρ) μ env σ hh := Rel.reserve (R.ext ic.toInCall.keep) (h₂ := s.heap) hfr R ic.toInCall.keep hlv
        have Rc : Rel X (own env' ++ ρ) μ env' ⟨bindP ps vs, σ.heap⟩ hh := by
          refine Rr.reframe (fun b hb' => List.mem_append_left _ hb') ?_ ⟨_, _, F', fun x v ev => ?_⟩
          · rw [hloc]
            have h1 := R.above
            obtain ⟨m, cm, F, _⟩ := R.frame
            obtain ⟨o, _, _, q, _⟩ := F.ns
            exact Nat.le_of_lt (Nat.lt_of_le_of_lt h1 (Heap.lt_size q))
          · obtain ⟨val, g1, g2⟩ := zip_val hv ev
            have hxp : x ∈ ps := by rw [← hzk]; exact List.mem_map.mpr ⟨_, mem_of_lookup g1, rfl⟩
            refine ⟨val, ?_, g2.mono (fun _ _ e => e) fun a o q e => ⟨ic.toInCall.keep a o e, fun hm => ?_, q.2⟩⟩
            · have hkx : env'.kindOf x = fd.scope.names.lookup x := by unfold Env.kindOf; rw [hkd]
              unfold valOf
              rcases fo.pk x hxp with h | h
              · rw [hkx, h]
                exact bindL_get (by rw [hkx, h]) (by rw [hzk]; exact fo.pnod) g1
              · rw [hkx, h]
                simp only [hcls, hcellin _ x h, if_true]
                exact bindC_get (by rw [hkx, h]; decide) (by rw [hzk]; exact fo.pnod) g1
            · rcases List.mem_append.mp hm with hm | hm
              · rw [hfr a hm] at e; cases e
              · exact q.1 hm
        have st₁ : Step [] μ μ s { s with heap := hh, toks := tk } := .grow ic.toInCall.keep
        refine wpAny_mono (hB env' hEs (A.deeper env') _ μ ⟨bindP ps vs, σ.heap⟩ { s with heap := hh, toks := tk } ga.deeper Rc fl σ2 hbody) (fun x s' z => ?_) fun _ _ z => z.elim
        first | refine post_elim z fun μ2 st2 R2 v2 => ?_ | obtain ⟨μ2, st2, R2, v2⟩ := z
        have hwf : ∀ b ∈ wrt env', s.heap.get? b = none := fun b hb' => hfr b (wrt_own hb')
        have stG := st₁.transG st2 hwf
        -- the value
        have hval := FlR.val v2
        have hout : ∀ b ∈ own env', b ∉ ρ := fun b hb' => (R.notIn (hfr b hb')).1
        have hframe : ∀ {μ3 : Mu}, μ <+: μ3 → (∀ b ∈ foot μ3, b ∈ foot μ ∨ s.heap.get? b = none) → ∃ m cm, FrameR env s'.heap m cm ∧ ∀ x v, σ.loc x = some v → ∃ val, valOf env m cm x = some val ∧ VR s'.heap (okOf (own env' ++ ρ) μ3) μ3 v val := by
          intro μ3 pre hnew
          obtain ⟨m, cm, F, l⟩ := R.frame
          refine ⟨m, cm, F.at fun b hb' o q => stG.keep b o q (R.dis b (R.own b hb')) (by simp), fun x v ev => ?_⟩
          obtain ⟨val, q1, q2⟩ := l x v ev
          refine ⟨val, q1, q2.mono (fun _ _ => root_prefix pre) fun a o q e => ⟨stG.keep a o e q.2 (by simp), fun hm => ?_, fun hm => ?_⟩⟩
          · rcases List.mem_append.mp hm with hm | hm
            · rw [hfr a hm] at e; cases e
            · exact q.1 hm
          · rcases hnew a hm with hm | hm
            · exact q.2 hm
            · rw [e] at hm; cases hm
        have hnoR : ∀ {μ3 : Mu} {σ3 : St}, Rel X (own env' ++ ρ) μ3 env' σ3 s'.heap → ∀ a ∈ own env', ∀ j, root μ3 j ≠ some a := fun R3 a ha j => by
          obtain ⟨m, cm, F3, _⟩ := R3.frame
          rcases List.mem_cons.mp ha with rfl | ha
          · exact R3.nsNoRoot (R3.own _ (.head _)) F3.ns j
          · obtain ⟨⟨nm, c⟩, h1, rfl⟩ := List.mem_map.mp ha
            obtain ⟨v, q⟩ := F3.cells nm c h1
            exact R3.cellNoRoot q j
        have okdown : ∀ {μ3 : Mu} a o, okOf (own env' ++ ρ) μ3 a → s'.heap.get? a = some o → s'.heap.get? a = some o ∧ okOf ρ μ3 a := fun a o q e => ⟨e, fun hm => q.1 (List.mem_append_right _ hm), q.2⟩
        dsimp only at e
        split at e
        · rename_i σ3 hc
          cases e
          have hokv : okV σ.heap.length (retV fl) = true := by
            cases q : okV σ.heap.length (retV fl) with
            | true => rfl
            | false => rw [q] at hc; cases hc
          rw [hokv, if_pos rfl] at hc
          rw [← R.len] at hokv hc
          have R3 := R2.cut st2.pre hc
          have R4 : Rel X (own env' ++ ρ) μ env ⟨σ.loc, σ3.heap⟩ s'.heap := R3.reframe (fun b hb' => List.mem_append_right _ (R.own b hb')) R.above (hframe (List.prefix_refl _) fun _ h => .inl h)
          have fin : Post X ρ μ env s VRr (retV fl) ⟨σ.loc, σ3.heap⟩ (flowV x) s' := ⟨μ, stG.cut.weak, R4.leave R.own hout (hnoR R3) fun _ _ _ e => e, (hval.cut st2.pre hokv).mono (fun _ _ e => e) okdown⟩
          cases x <;> exact fin
        · cases e
          have R4 : Rel X (own env' ++ ρ) μ2 env ⟨σ.loc, σ2.heap⟩ s'.heap := R2.reframe (fun b hb' => List.mem_append_right _ (R.own b hb')) R.above (hframe st2.pre fun b hb' => stG.new b hb')
          have fin : Post X ρ μ env s VRr (retV fl) ⟨σ.loc, σ2.heap⟩ (flowV x) s' := ⟨μ2, stG.weak, R4.leave R.own hout (hnoR R2) fun _ _ _ e => e, hval.mono (fun _ _ e => e) okdown⟩
          cases x <;> exact fin
  · cases e


/-- how the arguments come to the names: things may be laid down for it -/
noncomputable def Binds (X : Cx) (ρ : List Addr) (μ : Mu) (s : Shared) (fd : FuncData) (args : Args) (ps : List Str) (vs : List V) : Prop :=
  ∀ (A : Around) (E : Value → Shared → Prop) (Q : List (Str × Value) → Shared → Prop), (∀ (h : Heap) (tk : Nat) (ys : List Value), (∀ b o, s.heap.get? b = some o → h.get? b = some o) → VRl h (okOf ρ μ) μ vs ys → Q (ps.zip ys) { s with heap := h, toks := tk }) →
    wpAny (model X.prog X.w) A (bindArgs fd args) Q E s
theorem Binds.of {fd : FuncData} {args : Args} {ps : List Str} {vs : List V} {ys : List Value} (hv : VRl s.heap (okOf ρ μ) μ vs ys) (hb : BindsTo s fd args (ps.zip ys)) : Binds X ρ μ s fd args ps vs :=
  fun A E Q hq => hb _ _ _ _ (hq s.heap s.toks ys (fun _ _ e => e) hv)

/-- a def is called -/
theorem Call_code (ok : CxOk X) {f : Addr} {fd : FuncData} {body : List Stmt} {ps : List Str} {mb : M Fl} (fo : FnOk X f fd body ps) (hB : ∀ env', SameEnv (fnEnv fd.scope) env' → Exs X (n + 1) env' body mb) (ga : Ga (n + 2) A) (R : Rel X ρ μ env σ s.heap)
    {vs : List V} {xs : List Value} {kx : List (Str × Value)} (hb : Binds X ρ μ s fd ⟨xs, kx⟩ ps vs) :
    ∀ r σ', callB ps mb vs σ = some (r, σ') → codeAny (model X.prog X.w) A (.call (.ref f) ⟨xs, kx⟩) (fun q s' => match q with | .ok (.ret v) => Post X ρ μ env s VRr r σ' v s' | .ok _ => False | .error _ => False) s := by
  intro r σ' e
  obtain ⟨o, ho, hd⟩ := fo.at_
  refine codeAny_call_function ga.room (R.base f o ho) hd fo.co fo.gen fo.body (fo.code.keeps R.base) (hb _ _ _ fun h tk ys hk hv => ?_)
  refine wpAny_mono (Call_in (s := { s with heap := h, toks := tk }) ok fo hB ga (R.ext hk) hv e) (fun ev s₂ z => ⟨z.1, codeAny_mono z.2 fun q s' y => ?_⟩) fun _ _ z => z
  cases q with
  | ok x =>
    cases x with
    | ret v => exact post_up (.grow hk) y
    | _ => exact y
  | error x => exact y

theorem Call_body (ok : CxOk X) {f : Addr} {fd : FuncData} {body : List Stmt} {ps : List Str} {mb : M Fl} (fo : FnOk X f fd body ps) (hB : ∀ env', SameEnv (fnEnv fd.scope) env' → Exs X (n + 1) env' body mb) (ga : Ga (n + 2) A) (R : Rel X ρ μ env σ s.heap)
    {vs : List V} {xs : List Value} {kx : List (Str × Value)} (hb : Binds X ρ μ s fd ⟨xs, kx⟩ ps vs) : W X A ρ μ env s VRr (call (.ref f) xs kx) (callB ps mb vs σ) :=
  fun r σ' e => wpAny_call (codeAny_mono (Call_code ok fo hB ga R hb r σ' e) fun q s' z => by
    cases q with
    | ok x => cases x <;> exact z
    | error x => exact z)

end
end Mine
end

section
open PySem
set_option Elab.async false
set_option maxRecDepth 100000
namespace Mine

theorem slot_search : Slot "re.Pattern" "search" "re.Pattern.search" :=
  .of (owner := "re.Pattern") (n := "search") (by rw [typeLookup_type, builtinLookup_eq_fast]; kernel_rfl) (by decide +kernel) (by decide +kernel) (by decide +kernel)
    (by first | exact .inl (by decide +kernel) | exact .inr (by decide +kernel)) (by rw [isSubtype_type]; kernel_rfl)
theorem type_search : typeOf (.builtin "re.Pattern.search") = pure (.type "method_descriptor") := by show builtinType _ = _; rw [builtinType_eq_fast]; kernel_rfl
theorem entry_search : entryFor table "re.Pattern.search" = some Builtin.«re.Pattern.search» := entryFor_of_tree (by kernel_rfl)
theorem plain_pattern : PlainAttrs "re.Pattern" :=
  ⟨⟨"object.__getattribute__", by rw [typeLookup_type, builtinLookup_eq_fast]; kernel_rfl, by decide +kernel⟩, by rw [typeLookup_type, builtinLookup_eq_fast]; kernel_rfl⟩
theorem args_search (a b : Value) : argsOk "re.Pattern.search" ⟨[a, b], []⟩ := by
  unfold argsOk; kernel_rfl


/-! the machine on printable text -/
open PySem.Sre

noncomputable def codeOk (code : Array Nat) : Prop := (∀ c seen, 32 ≤ c → c < 127 → ∃ seen', inSet code c code.size 5 true seen = .ok (false, seen')) ∧ (∀ m : Sre.M, m.code = code → m.hasFirstSet = true)

theorem admitted_none {m : Sre.M} (hc : ∀ c seen, 32 ≤ c → c < 127 → ∃ seen', inSet m.code c m.code.size 5 true seen = .ok (false, seen')) (ht : ∀ i, i < m.lim → 32 ≤ m.text.getD i 0 ∧ m.text.getD i 0 < 127) :
    ∀ (fuel s : Nat) (seen : Seen), ∃ seen', Sre.M.admitted m fuel s seen = .ok (none, seen')
  | 0, s, seen => ⟨seen, rfl⟩
  | fuel + 1, s, seen => by
    unfold Sre.M.admitted
    split
    · exact ⟨seen, rfl⟩
    · rename_i hs
      obtain ⟨h1, h2⟩ := ht s (by omega)
      obtain ⟨seen', e⟩ := hc _ seen h1 h2
      rw [e]
      exact admitted_none hc ht fuel (s + 1) seen'

theorem attempt_none {m : Sre.M} (hf : m.hasFirstSet = true) (hc : ∀ c seen, 32 ≤ c → c < 127 → ∃ seen', inSet m.code c m.code.size 5 true seen = .ok (false, seen')) (ht : ∀ i, i < m.lim → 32 ≤ m.text.getD i 0 ∧ m.text.getD i 0 < 127) (k : Nat) (first : Bool) :
    ∃ seen', m.attemptFrom k first = ({ m with seen := seen' } : Sre.M).say false := by
  unfold Sre.M.attemptFrom
  rw [hf]
  simp only [Bool.not_true, Bool.false_eq_true, if_false]
  obtain ⟨seen', e⟩ := admitted_none hc ht (m.lim + 1 - k) k m.seen
  rw [e]
  exact ⟨seen', rfl⟩

theorem search_said {code text : Array Nat} {groups : Nat} (hc : codeOk code) (ht : ∀ c ∈ text.toList, 32 ≤ c ∧ c < 127) :
    (forSearch code text groups 0 text.size false).answer = some false ∧ (forSearch code text groups 0 text.size false).frames = [] ∧ (forSearch code text groups 0 text.size false).outcome = none := by
  have ht' : ∀ i, i < text.size → 32 ≤ text.getD i 0 ∧ text.getD i 0 < 127 := fun i hi => by
    have : text.getD i 0 = text[i] := by simp [Array.getD, hi]
    rw [this]
    exact ht _ (by simp)
  unfold forSearch
  dsimp only
  split
  · exact ⟨rfl, rfl, rfl⟩
  · generalize hm : Sre.M.attemptFrom _ 0 true = m
    obtain ⟨seen', e⟩ : ∃ seen', m = _ := by
      rw [← hm]
      exact attempt_none (hc.2 _ rfl) hc.1 ht' 0 true
    rw [e]
    exact ⟨rfl, rfl, rfl⟩

theorem search_run {code text : Array Nat} {groups : Nat} (hc : codeOk code) (ht : ∀ c ∈ text.toList, 32 ≤ c ∧ c < 127) : ((forSearch code text groups 0 text.size false).runFor Builtin.Re.reTurnSteps).outcome = some .failed := by
  obtain ⟨h1, h2, h3⟩ := search_said (groups := groups) hc ht
  generalize forSearch code text groups 0 text.size false = m at h1 h2 h3
  unfold Builtin.Re.reTurnSteps
  unfold Sre.M.runFor
  rw [h3]
  simp only [Option.isSome_none, Bool.false_eq_true, if_false]
  have hs : m.step = { m with outcome := some .failed } := by
    unfold Sre.M.step
    rw [h1, h2, h3]
    simp
  rw [hs]
  unfold Sre.M.runFor
  simp

theorem wp_drive {M : Model} {A : Around} {E : Value → Shared → Prop} {s : Shared} {m : Sre.M} {Q : Option Sre.M → Shared → Prop} (hm : (m.runFor Builtin.Re.reTurnSteps).outcome = some .failed) (hq : Q none s) : wpAny M A (Builtin.Re.reRunToEnd m) Q E s := by
  unfold Builtin.Re.reRunToEnd
  have e1 : Builtin.Re.reDrive (2 ^ 64) m = pure (m.runFor Builtin.Re.reTurnSteps) := by
    show Builtin.Re.reDrive (18446744073709551615 + 1) m = _
    rw [Builtin.Re.reDrive]
    simp only [hm, Option.isSome_some, if_true]
  rw [e1]
  refine wpAny_bind (wpAny_pure ?_)
  generalize m.runFor Builtin.Re.reTurnSteps = m' at hm
  have loop : ∀ (l : List Nat) (Q' : PUnit → Shared → Prop), Q' ⟨⟩ s → wpAny M A (forIn l PUnit.unit fun i _ => if m'.seen.has i = true then do rule (Sre.names.getD i ""); pure (ForInStep.yield PUnit.unit) else pure (ForInStep.yield PUnit.unit)) Q' E s := by
    intro l
    induction l with
    | nil => intro Q' h; exact wpAny_pure h
    | cons i l ih =>
      intro Q' h
      rw [List.forIn_cons]
      split
      · exact wpAny_bind (wpAny_bind (wpAny_rule (wpAny_pure (ih Q' h))))
      · exact wpAny_bind (wpAny_pure (ih Q' h))
  refine wpAny_bind (loop _ _ ?_)
  rw [hm]
  exact wpAny_pure hq

end Mine
end

section
open PySem
set_option Elab.async false
set_option maxRecDepth 100000
namespace Mine
open PySem.Sre

theorem named_search (v : Value) : Builtin.Re.reNamed "re.Pattern.search" "search" ["string", "pos", "endpos"] 1 [v] [] = pure [some v, none, none] := by kernel_rfl

noncomputable def patObj (pat fl : Value) (c : Addr) : Obj := { cls := .type "re.Pattern", data := .fields #[pat, fl, .int 0 0, .none, .none, .ref c, .int 0 0] }

theorem call_search {prog : Program} {w : World} {A : Around} {E : Value → Shared → Prop} {s : Shared} {p c : Addr} {pat fl : Value} {cv : Array Value} {k : Nat} {oc : Obj} {x : Str} {t : Tok} {Q : Value → Shared → Prop} (hp : s.heap.get? p = some (patObj pat fl c)) (hc : s.heap.get? c = some oc) (hcd : oc.data = .seq cv k)
    (hok : codeOk ((cv.map Builtin.Re.reRawOf).map (·.toNat))) (ha : asc x = true) (hl : x.cps.size ≤ big) (hq : Q .none s) : wpAny (model prog w) A (call (.builtin "re.Pattern.search") [.ref p, .str x t]) Q E s := by
  refine wpAny_call_entry slot_search ⟨_, hp, rfl⟩ entry_search ?_ (args_search _ _)
  unfold Builtin.«re.Pattern.search» Builtin.Re.reTarget
  refine wpAny_bind ?_
  dsimp only
  rw [named_search]
  refine wpAny_bind (wpAny_pure ?_)
  refine wpAny_bind (wpAny_pure ?_)
  refine wpAny_bind (wpAny_pure ?_)
  refine wpAny_bind (wpAny_fieldsOf hp rfl ?_)
  unfold Builtin.Re.reTextOf
  refine wpAny_bind ?_
  refine wpAny_bind (m := asStr? (.str x t)) (wpAny_pure ?_)
  refine wpAny_pure ?_
  rw [if_neg (show ¬ (_ = true) from by show ¬ ((0 == 0 && 0 == 1) = true); decide), if_neg (show ¬ (_ = true) from by show ¬ ((0 == 1 && 0 == 0) = true); decide)]
  refine wpAny_bind (m := Builtin.Re.reNoCollectionInside (.str x t) 0) (wpAny_pure ?_)
  unfold Builtin.Re.reRawItems
  refine wpAny_bind (wpAny_bind (wpAny_seqItems hc hcd (wpAny_pure (wpAny_pure ?_))))
  unfold Builtin.Re.reAnswer
  have h1 : min (2 ^ 63 - 1 : Int).toNat x.cps.size = x.cps.size := by unfold big at hl; omega
  show wpAny _ _ (Builtin.Re.reRunToEnd (forSearch ((cv.map Builtin.Re.reRawOf).map (·.toNat)) x.cps 0 (min (Int.toNat 0) x.cps.size) (min (2 ^ 63 - 1 : Int).toNat x.cps.size) false) >>= _) _ _ _
  rw [h1, show min (Int.toNat 0) x.cps.size = 0 by simp]
  refine wpAny_bind (wp_drive (search_run hok (asc_lt ha)) ?_)
  exact wpAny_pure ⟨.none, rfl, hq⟩

theorem bits_ok : ∀ c, c < 127 → 32 ≤ c → (c < 256 && (Nat.testBit (([4294966783, 0, 0, 2147483648, 0, 0, 0, 0] : List Nat).getD (c / 32) 0) (c % 32))) = false := by decide +kernel

noncomputable def code1 : Array Nat := #[14, 10, 4, 1, 1, 22, 0, 31, 16, 127, 0, 13, 7, 22, 0, 31, 16, 127, 0, 1]
noncomputable def code2 : Array Nat := #[14, 14, 4, 1, 1, 9, 4294966783, 0, 0, 2147483648, 0, 0, 0, 0, 0, 13, 11, 9, 4294966783, 0, 0, 2147483648, 0, 0, 0, 0, 0, 1]

theorem code1_ok : codeOk code1 := by
  refine ⟨fun c seen h1 h2 => ?_, fun m hm => by unfold Sre.M.hasFirstSet; rw [hm]; decide⟩
  have e : inSet code1 c code1.size 5 true seen = inSet code1 c 19 8 true (seen.add 22) := by
    show inSet code1 c (19 + 1) 5 true seen = _
    rw [inSet]
    show (if ((0 : Nat) ≤ c && c ≤ 31) = true then _ else _) = _
    rw [if_neg (by simp; omega)]; rfl
  rw [e]
  have e : inSet code1 c (18 + 1) 8 true (seen.add 22) = inSet code1 c 18 10 true ((seen.add 22).add 16) := by
    rw [inSet]
    show (if (c == 127) = true then _ else _) = _
    rw [if_neg (by simp; omega)]; rfl
  rw [e]
  exact ⟨_, rfl⟩

theorem code2_ok : codeOk code2 := by
  refine ⟨fun c seen h1 h2 => ?_, fun m hm => by unfold Sre.M.hasFirstSet; rw [hm]; decide⟩
  have hb := bits_ok c h2 h1
  have e : inSet code2 c code2.size 5 true seen = inSet code2 c 27 14 true (seen.add 9) := by
    show inSet code2 c (27 + 1) 5 true seen = _
    rw [inSet]
    show (if (c < 256 && (code2.getD (5 + (1 + c / 32)) 0).testBit (c % 32)) = true then _ else _) = _
    have hw : code2.getD (5 + (1 + c / 32)) 0 = ([4294966783, 0, 0, 2147483648, 0, 0, 0, 0] : List Nat).getD (c / 32) 0 := by
      have hlt : c / 32 < 4 := by omega
      generalize c / 32 = q at hlt
      match q, hlt with
      | 0, _ => rfl
      | 1, _ => rfl
      | 2, _ => rfl
      | 3, _ => rfl
    rw [hw, hb]; rfl
  rw [e]
  exact ⟨_, rfl⟩

end Mine
end

section
open PySem
set_option Elab.async false
set_option maxRecDepth 10000
namespace Mine

noncomputable def PatOk (X : Cx) (nm : Str) : Prop := ∃ p c pat fl cv k oc, X.mg nm = some (.ref p) ∧ X.base.get? p = some (patObj pat fl c) ∧ X.base.get? c = some oc ∧ oc.data = .seq cv k ∧ codeOk ((cv.map Builtin.Re.reRawOf).map (·.toNat))

noncomputable def sValue : Str := Str.ofString "value"
noncomputable def sName : Str := Str.ofString "name"
noncomputable def sRegex : Str := Str.ofString "regex"

noncomputable def convM : M Fl := fun σ => match σ.loc sValue, σ.loc sName with
  | some (.dat (.str x)), some (.dat (.bool _)) => if x.length ≤ big then some (.ret (.dat (.str x)), ⟨fun y => if y = sRegex then none else σ.loc y, σ.heap⟩) else none
  | _, _ => none

section
variable {X : Cx} {n : Nat} {env : Env} {P : Prm} {A : Around} {ρ : List Addr} {μ μ' : Mu} {σ : St} {s : Shared} {h h' : Heap}

theorem nameS_at {x : Str} {v : V} (hx : x ≠ dbg) (e : σ.loc x = some v) : nameS x σ = some (v, σ) := by
  unfold nameS; rw [if_neg hx]; unfold getLoc; rw [e]; rfl

theorem Exs_conv (ok : CxOk X) (h1 : PatOk X (Str.ofString "_name_disallowed_re")) (h2 : PatOk X (Str.ofString "_value_disallowed_re")) (hk : env.kindOf sRegex = some .local) (hty : typOk env (.Name sValue p2) (Str.ofString "str") = true)
    (hg1 : gKind env (Str.ofString "_name_disallowed_re") = true) (hg2 : gKind env (Str.ofString "_value_disallowed_re") = true) {p1 p3 p4 p5 p6 p7 p8 p9 p10 p11 p12 p13 p14 p15 p16 p17 p18 p19 : Pos} {r1 r2 : List Stmt} (hpos : p13.endLine = p15.line) :
    Exs X n env (.If (.Compare (.Call (.Name (Str.ofString "type") p1) [.Name sValue p2] [] p3) [.Is] [.Name (Str.ofString "str") p4] p5)
      [.Assign [.Name sRegex p6] (.IfExp (.Name sName p7) (.Name (Str.ofString "_name_disallowed_re") p8) (.Name (Str.ofString "_value_disallowed_re") p9) p10) p11,
       .If (.Call (.Attribute (.Name sRegex p12) (Str.ofString "search") p13) [.Name sValue p14] [] p15) r1 [] p16, .Return (some (.Name sValue p17)) p18] [] p19 :: r2) convM := by
  intro A ρ μ σ s ga R f σ' e
  unfold convM at e
  split at e
  · rename_i x b hv hn
    split at e
    · rename_i hl
      cases e
      have nv : nameS sValue σ = some (.dat (.str x), σ) := nameS_at (by decide) hv
      have nn : nameS sName σ = some (.dat (.bool b), σ) := nameS_at (by decide) hn
      refine wpAny_execs_cons (wpAny_If ?_)
      have q1 : (do let v ← typS .Is (nameS sValue) (Str.ofString "str"); truthS v) σ = some (true, σ) := by
        show mbind (mbind (nameS sValue) _) _ σ = _
        unfold mbind
        rw [nv]
        rfl
      refine wpAny_mono (Te_Typ ok Ev_Name hty A ρ μ σ s ga R true σ q1) (fun c s1 z => ?_) fun _ _ z => z
      obtain ⟨μ1, st1, R1, rfl⟩ := z
      rw [if_pos rfl]
      -- the pattern is chosen
      have hpat : ∃ p, wpAny (model X.prog X.w) A (eval (.IfExp (.Name sName p7) (.Name (Str.ofString "_name_disallowed_re") p8) (.Name (Str.ofString "_value_disallowed_re") p9) p10) env) (fun y s2 => y = .ref p ∧ ∃ μ2, Step (wrt env) μ1 μ2 s1 s2 ∧ Rel X ρ μ2 env σ s2.heap) (fun _ _ => False) s1 ∧
          ∃ c pat fl cv k oc, X.base.get? p = some (patObj pat fl c) ∧ X.base.get? c = some oc ∧ oc.data = .seq cv k ∧ codeOk ((cv.map Builtin.Re.reRawOf).map (·.toNat)) := by
        have q2 : (do let v ← nameS sName; truthS v) σ = some (b, σ) := by
          show mbind (nameS sName) _ σ = _
          unfold mbind
          rw [nn]
          rfl
        cases b with
        | true =>
          obtain ⟨p, c, pat, fl, cv, k, oc, g1, g2, g3, g4, g5⟩ := h1
          refine ⟨p, ?_, c, pat, fl, cv, k, oc, g2, g3, g4, g5⟩
          rw [arm_eval_IfExp]
          refine wpAny_bind (wpAny_mono (Te_plain (X := X) (n := n) rfl Ev_Name A ρ μ1 σ s1 ga R1 true σ q2) (fun c s2 z => ?_) fun _ _ z => z)
          obtain ⟨μ2, st2, R2, rfl⟩ := z
          rw [if_pos rfl]
          exact Name_glob ok R2 hg1 (by unfold gval; rw [g1]) ⟨rfl, μ2, st2, R2⟩
        | false =>
          obtain ⟨p, c, pat, fl, cv, k, oc, g1, g2, g3, g4, g5⟩ := h2
          refine ⟨p, ?_, c, pat, fl, cv, k, oc, g2, g3, g4, g5⟩
          rw [arm_eval_IfExp]
          refine wpAny_bind (wpAny_mono (Te_plain (X := X) (n := n) rfl Ev_Name A ρ μ1 σ s1 ga R1 false σ q2) (fun c s2 z => ?_) fun _ _ z => z)
          obtain ⟨μ2, st2, R2, rfl⟩ := z
          rw [if_neg (by decide)]
          exact Name_glob ok R2 hg2 (by unfold gval; rw [g1]) ⟨rfl, μ2, st2, R2⟩
      obtain ⟨p, hev, c, pat, fl, cv, k, oc, g2, g3, g4, g5⟩ := hpat
      refine wpAny_execs_cons (wpAny_Assign_Name (wpAny_mono hev (fun y s2 z => ?_) fun _ _ z => z))
      obtain ⟨rfl, μ2, st2, R2⟩ := z
      obtain ⟨m, cm, F, l⟩ := R2.frame
      refine wpAny_storeName_local hk F.ns (fun h3 hns hsb => ?_) (by rw [F.kind]; rfl)
      have hlv : ∃ o, h3.get? env.locals = some o := by obtain ⟨o, _, _, q, _⟩ := hns; exact ⟨o, q⟩
      have F3 : FrameR env h3 (fun z => if z = sRegex then some (.ref p) else m z) cm := ⟨F.kind, F.globals, F.builtins, hns, fun nm c e => IsCell.keep hsb (cells_ne_locals F ⟨nm, mem_of_lookup e⟩) (F.cell nm c e), fun nm c e => by
        obtain ⟨w, q⟩ := F.cells nm c e; exact ⟨w, IsCell.keep hsb (cells_ne_locals F ⟨nm, e⟩) q⟩, F.apart⟩
      have R3 : Rel X ρ μ2 env ⟨fun y => if y = sRegex then none else σ.loc y, σ.heap⟩ h3 := R2.store (.head _) hsb hlv ⟨_, cm, F3, fun z w ew => by
        split at ew
        · cases ew
        · rename_i hz
          obtain ⟨val, q1, q2⟩ := l z w ew
          refine ⟨val, ?_, q2⟩
          unfold valOf at q1 ⊢
          split at q1
          · simp only [if_neg hz]; exact q1
          · exact q1
          · cases q1⟩
      have st3 : Step (wrt env) μ2 μ2 s2 { s2 with heap := h3, toks := s2.toks + 1 } := .store (.head _) hsb hlv
      have stA := (st1.trans st2).trans st3
      refine wpAny_execs_cons (wpAny_If ?_)
      rw [isTrue_plainE rfl]
      have hv3 : (fun y => if y = sRegex then none else σ.loc y) sValue = some (.dat (.str x)) := by
        show (if sValue = sRegex then none else σ.loc sValue) = _
        rw [if_neg (by decide)]; exact hv
      have nv3 : nameS sValue ⟨fun y => if y = sRegex then none else σ.loc y, σ.heap⟩ = some (.dat (.str x), ⟨fun y => if y = sRegex then none else σ.loc y, σ.heap⟩) := nameS_at (by decide) hv3
      have hp3 : h3.get? p = some (patObj pat fl c) := R3.base p _ g2
      refine wpAny_bind ?_
      rw [arm_eval_Call, attributeBase_plain rfl]
      refine wpAny_bind (wpAny_Name (wpAny_loadName_local F.kind hk hns (v := .ref p) (by simp) ?_) (by decide))
      refine wpAny_bind (wpAny_standAt ?_)
      unfold methodCall
      rw [form_true (X := X) (n := n) (es := [.Name sValue p14]) rfl .nil (by show 1 + 0 < 20; decide)]
      refine wpAny_bind (wpAny_holding ?_)
      refine getMethod_builtin (T := "re.Pattern") (name := Str.ofString "search") (id := "re.Pattern.search") ⟨_, hp3, rfl⟩ plain_pattern slot_search type_search (fun a ea => by cases ea; exact ⟨_, hp3, rfl⟩) ?_
      have hpp : methodCallPos true (.Name sRegex p12) env p13 p15 = pure p15 := by
        unfold methodCallPos
        rw [if_pos (by simp [hpos])]
      show wpAny _ _ (methodCallPos true (.Name sRegex p12) env p13 p15 >>= _) _ _ _
      rw [hpp]
      refine wpAny_bind (wpAny_pure ?_)
      refine Calls.callWith_builtin (star_any (es := [.Name sValue p14]) rfl) ?_
      have sq : seqS [nameS sValue] ⟨fun y => if y = sRegex then none else σ.loc y, σ.heap⟩ = some ([.dat (.str x)], ⟨fun y => if y = sRegex then none else σ.loc y, σ.heap⟩) := by
        show mbind (nameS sValue) _ _ = _
        unfold mbind
        rw [nv3]; rfl
      refine wpAny_mono (W_args (X := X) (n := n) (ks := []) (EvL.cons Ev_Name .nil) rfl .nil ga (s := { s2 with heap := h3, toks := s2.toks + 1 }) R3 sq rfl) (fun ar s4 z => ?_) fun _ _ z => z
      obtain ⟨μ4, st4, R4, ⟨y, rr, v1, v2, v3⟩, k4⟩ := z
      rw [show ar.kw = [] from k4, v1, show rr = [] from v3]
      have v2' : DR _ _ _ _ := v2
      simp only [DR] at v2'
      obtain ⟨ha, t, rfl⟩ := v2'
      refine call_search (R4.base p _ g2) (R4.base c _ g3) g4 g5 ha hl ?_
      refine wpAny_bind (wpAny_standAt (wpAny_holding (PyProof.Rows.truthy_none ?_)))
      rw [if_neg (by decide)]
      refine wpAny_execs_nil ?_
      refine wpAny_execs_cons (wpAny_Return_some (wpAny_mono (Ev_Name (X := X) (n := n) A ρ μ4 _ s4 ga R4 _ _ nv3) (fun y s5 z => ?_) fun _ _ z => z))
      first | refine post_elim z fun μ5 st5 R5 v5 => ?_ | obtain ⟨μ5, st5, R5, v5⟩ := z
      exact ⟨μ5, (stA.trans st4).trans st5, R5, y, rfl, v5⟩
    · cases e
  · cases e

end
end Mine
end

section
open PySem
set_option Elab.async false
set_option maxRecDepth 10000
namespace Mine

noncomputable def makeM (initM : V → List V → M V) (vs : List V) : M V := do
  let i ← newObj (.inst none)
  let r ← initM i vs
  match r with
  | .dat .none => mpure i
  | _ => mfail

section
variable {X : Cx} {n : Nat} {env : Env} {P : Prm} {A : Around} {ρ : List Addr} {μ μ' : Mu} {σ : St} {s : Shared} {h h' : Heap}

theorem Ga.under (C : Addr) (rest : List Value) (kw : List (Str × Value)) (ga : Ga (n + 1) A) : Ga n (A.under (.builtin "type.__call__" ⟨.ref C :: rest, kw⟩)) :=
  ⟨ga.handled, by have := ga.depth; rw [W.depth_under_kw]; omega, by
    have := ga.units
    have e : (A.under (.builtin "type.__call__" ⟨.ref C :: rest, kw⟩)).units = A.units + 1 := rfl
    rw [e]; omega⟩

theorem W_make (ok : CxOk X) (hm : W.makesIn X.K X.C = true) {fI : Addr} (hi : W.findIn X.K (.ref X.C) "__init__" = some (some (.ref fI))) (hf : W.typeIn X.K (.ref fI) = some (.type "function")) {initM : V → List V → M V}
    (hI : ∀ (env : Env) A ρ μ σ s self x vs xs, Ga n A → Rel X ρ μ env σ s.heap → VR s.heap (okOf ρ μ) μ self x → VRl s.heap (okOf ρ μ) μ vs xs → ∀ r σ', initM self vs σ = some (r, σ') →
      codeAny (model X.prog X.w) A (.call (.ref fI) ⟨x :: xs, []⟩) (fun q s' => match q with | .ok (.ret v) => Post X ρ μ env s VRr r σ' v s' | .ok _ => False | .error _ => False) s)
    (ga : Ga (n + 1) A) (R : Rel X ρ μ env σ s.heap) {vs : List V} {xs : List Value} (hv : VRl s.heap (okOf ρ μ) μ vs xs) : W X A ρ μ env s VRr (call (.ref X.C) xs []) (makeM initM vs σ) := by
  intro r σ' e
  unfold makeM at e
  refine mbind_elim e fun i σ1 e1 q => ?_
  refine mbind_elim q fun rv σ2 e2 q2 => ?_
  have hr : rv = .dat .none ∧ r = i ∧ σ' = σ2 := by
    split at q2
    · cases q2; exact ⟨rfl, rfl, rfl⟩
    · cases q2
  obtain ⟨rfl, rfl, rfl⟩ := hr
  cases e1
  obtain ⟨hh, g, d, t, os⟩ := s
  have K : X.K.In hh := R.kin ok
  refine wpAny_call (W.make_core (W.makes_of K hm) (W.looks_findIn K hi) (fun self => W.bind_fn K self hf) (.inl rfl) ?_)
  have k1 : ∀ b o, hh.get? b = some o → ((hh.push W.emptyDict).push (W.instObj X.C hh.objs.size)).get? b = some o := fun b o e => Heap.get?_push_of_some _ (Heap.get?_push_of_some _ e)
  have hD : ((hh.push W.emptyDict).push (W.instObj X.C hh.objs.size)).get? hh.objs.size = some W.emptyDict := Heap.get?_push_of_some _ (Heap.get?_push_size _ rfl)
  have hx : ((hh.push W.emptyDict).push (W.instObj X.C hh.objs.size)).get? (hh.objs.size + 1) = some (W.instObj X.C hh.objs.size) := by
    have := Heap.get?_push_size (o := W.instObj X.C hh.objs.size) (hh.push W.emptyDict) rfl
    rwa [Heap.size_push] at this
  have fresh : ∀ b, hh.objs.size ≤ b → hh.get? b = none := fun b hb => by
    cases q : hh.get? b with
    | none => rfl
    | some o => exact absurd (Heap.lt_size q) (Nat.not_lt.mpr hb)
  have hfp : ∀ b ∈ [hh.objs.size + 1, hh.objs.size], hh.get? b = none := fun b hb => by
    simp only [List.mem_cons, List.not_mem_nil, or_false] at hb
    rcases hb with rfl | rfl
    · exact fresh _ (Nat.le_succ _)
    · exact fresh _ (Nat.le_refl _)
  have R1 : Rel X ρ (μ ++ [(hh.objs.size + 1, [hh.objs.size + 1, hh.objs.size])]) env ⟨σ.loc, σ.heap ++ [.inst none]⟩ ((hh.push W.emptyDict).push (W.instObj X.C hh.objs.size)) := by
    refine R.newObj hfp ?_ (fun _ q => nomatch q) k1 (fun b hb => ?_) ⟨hh.objs.size, rfl, hx, hD⟩
    · simp
    · simp only [List.mem_cons, List.not_mem_nil, or_false] at hb
      rcases hb with rfl | rfl
      · exact ⟨_, hx⟩
      · exact ⟨_, hD⟩
  have st1 : Step (wrt env) μ (μ ++ [(hh.objs.size + 1, [hh.objs.size + 1, hh.objs.size])]) ⟨hh, g, d, t, os⟩ ⟨(hh.push W.emptyDict).push (W.instObj X.C hh.objs.size), g, d, t, os⟩ :=
    Step.newObj (s := ⟨hh, g, d, t, os⟩) (tk := t) hfp k1
  have hself : VR ((hh.push W.emptyDict).push (W.instObj X.C hh.objs.size)) (okOf ρ (μ ++ [(hh.objs.size + 1, [hh.objs.size + 1, hh.objs.size])])) (μ ++ [(hh.objs.size + 1, [hh.objs.size + 1, hh.objs.size])]) (.obj σ.heap.length) (.ref (hh.objs.size + 1)) :=
    ⟨_, by rw [← R.len]; exact root_last, rfl⟩
  have hv1 := VRl.step R st1 hv
  refine codeAny_mono (hI env _ ρ _ _ ⟨(hh.push W.emptyDict).push (W.instObj X.C hh.objs.size), g, d, t, os⟩ _ _ vs xs (ga.under _ _ _) R1 hself hv1 _ _ e2) fun q s' z => ?_
  cases q with
  | error x => exact z
  | ok x =>
    cases x with
    | ret v =>
      first | refine post_elim z fun μ2 st2 R2 v2 => ?_ | obtain ⟨μ2, st2, R2, v2⟩ := z
      have v2' : DR _ _ _ _ := v2
      simp only [DR] at v2'
      subst v2'
      refine ⟨rfl, μ2, st1.trans st2, R2, ?_⟩
      obtain ⟨a, h1, h2⟩ := hself
      exact ⟨a, root_prefix st2.pre h1, h2⟩
    | _ => exact z

end
end Mine
end

section
open PySem
set_option Elab.async false
set_option maxRecDepth 10000
namespace Mine

noncomputable def fdOf (K : W.Frag) (a : Addr) : FuncData := match K.lookup a with
  | some ⟨_, _, .func fd, _⟩ => fd
  | _ => default
noncomputable def bodyOf (fd : FuncData) : List Stmt := match fd.body with
  | .stmts b => b
  | _ => []
noncomputable def codeChk (K : W.Frag) (fd : FuncData) : Bool := match fd.code with
  | .ref c => (match K.lookup c with
    | some ⟨_, _, .fields vs, _⟩ => (match (vs[1]? : Option Value) with | some (.str q _) => q == fd.qualname | _ => false)
    | _ => false)
  | _ => false
noncomputable def fnChk (K : W.Frag) (f : Addr) (ps : List Str) : Bool := match K.lookup f with
  | some ⟨_, _, .func fd, _⟩ => (match fd.body with | .stmts _ => true | _ => false) && fd.closure.isEmpty && fd.globals == mainGlobals && fd.builtins == builtinsNs && fd.scope.kind == .function && !fd.scope.isCoroutine && !fd.scope.isGenerator &&
      decide ((fd.scope.names.map (·.1)).Nodup) && decide ps.Nodup && ps.all (fun p => fd.scope.names.lookup p == some .local || fd.scope.names.lookup p == some .cell) && codeChk K fd
  | _ => false

theorem codeChk_ok {K : W.Frag} {h : Heap} {fd : FuncData} (hK : K.In h) (e : codeChk K fd = true) : h.CodeRec fd.code fd.qualname := by
  unfold codeChk at e
  split at e
  · rename_i c hc
    split at e
    · rename_i cl dd vs sl hl
      split at e
      · rename_i q t hq
        exact ⟨c, _, vs, t, hc, hK _ _ hl, rfl, by rw [hq, beq_iff_eq.mp e]⟩
      · cases e
    · cases e
  · cases e

theorem fnOk_of {X : Cx} {f : Addr} {ps : List Str} (ok : CxOk X) (e : fnChk X.K f ps = true) : FnOk X f (fdOf X.K f) (bodyOf (fdOf X.K f)) ps := by
  unfold fnChk at e
  split at e
  · rename_i cl dd fd sl hl
    have hfd : fdOf X.K f = fd := by unfold fdOf; rw [hl]
    rw [hfd]
    simp only [Bool.and_eq_true, beq_iff_eq, Bool.not_eq_true', decide_eq_true_eq, List.isEmpty_iff, List.all_eq_true, Bool.or_eq_true] at e
    obtain ⟨⟨⟨⟨⟨⟨⟨⟨⟨⟨h1, h2⟩, h3⟩, h4⟩, h5⟩, h6⟩, h7⟩, h8⟩, h9⟩, h10⟩, h11⟩ := e
    refine ⟨⟨_, ok.kin _ _ hl, rfl⟩, codeChk_ok ok.kin h11, ?_, h2, h3, h4, h5, h6, h7, h8, h9, h10⟩
    unfold bodyOf
    cases hb : fd.body with
    | stmts b => rfl
    | expr b => rw [hb] at h1; cases h1
  · cases e

/-! the methods and defs of a program -/
structure Info where
  f : Addr
  ps : List Str
  dflt : List Const
  den : Prm → M Fl

noncomputable def constV : Const → V
  | .bool b => .dat (.bool b)
  | .int i => .dat (.int i)
  | .str _ => .emp
  | _ => .dat .none

/-- a last parameter that takes the keywords: it cannot be given by place -/
noncomputable def kwD : List Const → Bool
  | [.str _] => true
  | _ => false

/-- the values behind the given ones -/
noncomputable def fill (i : Info) (vs : List V) : List V := if kwD i.dflt && vs.length == i.ps.length then [] else vs ++ (i.dflt.drop (i.dflt.length - (i.ps.length - vs.length))).map constV

noncomputable def runI (P : Prm) (i : Info) (vs : List V) : M V := callB i.ps (i.den P) (fill i vs)

noncomputable def sConv : Str := Str.ofString "_convert_string_type"
noncomputable def sSelf : Str := Str.ofString "self"
noncomputable def convP (self : V) (vs : List V) (ks : List (Str × V)) : M V := match vs, ks with
  | [v], [(k, b)] => if k = sName then callB [sSelf, sValue, sName] convM [self, v, b] else mfail
  | _, _ => mfail

structure Tab where
  mt : Str → Option Info
  fn : Str → Option Info
  init : Info
  fuel : Nat

noncomputable def prm (T : Tab) : Nat → Prm
  | 0 => ⟨fun _ _ => mfail, fun _ _ _ _ => mfail, fun _ => mfail, T.fuel⟩
  | k + 1 => ⟨fun name vs => match T.fn name with
      | some i => runI (prm T k) i vs
      | none => mfail,
    fun name self vs ks => if name = sConv then convP self vs ks else match T.mt name with
      | some i => if ks.isEmpty then runI (prm T k) i (self :: vs) else mfail
      | none => mfail,
    fun vs => makeM (fun self ws => runI (prm T k) T.init (self :: ws)) vs, T.fuel⟩

end Mine
end

section
open PySem
set_option Elab.async false
set_option maxRecDepth 10000
namespace Mine

noncomputable def constVal : Const → Value
  | .bool b => .bool b
  | _ => .none
noncomputable def okConst : Const → Bool
  | .none => true
  | .bool _ => true
  | _ => false

noncomputable def fillV (i : Info) (xs : List Value) : List Value := xs ++ (i.dflt.drop (i.dflt.length - (i.ps.length - xs.length))).map constVal

structure InfoOk (X : Cx) (i : Info) : Prop where
  fn : fnChk X.K i.f i.ps = true
  den : ∀ (n : Nat) (P : Prm), PrmOk X n P → ExsR X (n + 1) (fnEnv (fdOf X.K i.f).scope) (bodyOf (fdOf X.K i.f)) (i.den P)
  bind : ∀ {env : Env} {ρ : List Addr} {μ : Mu} {σ : St} {s : Shared} {vs : List V} {xs : List Value}, X.K.In s.heap → Rel X ρ μ env σ s.heap → VRl s.heap (okOf ρ μ) μ vs xs → i.ps.length = (fill i vs).length → Binds X ρ μ s (fdOf X.K i.f) ⟨xs, []⟩ i.ps (fill i vs)

theorem VRl.append {h : Heap} {ok : Addr → Prop} {μ : Mu} : ∀ {vs ws : List V} {xs ys : List Value}, VRl h ok μ vs xs → VRl h ok μ ws ys → VRl h ok μ (vs ++ ws) (xs ++ ys)
  | [], _, _, _, e, k => by rw [show _ = [] from e]; exact k
  | _ :: _, _, _, _, e, k => by obtain ⟨x, r, rfl, h1, h2⟩ := e; exact ⟨x, _, rfl, h1, h2.append k⟩

theorem VRl_const {h : Heap} {ok : Addr → Prop} {μ : Mu} : ∀ {cs : List Const}, cs.all okConst = true → VRl h ok μ (cs.map constV) (cs.map constVal)
  | [], _ => rfl
  | c :: cs, h => by
    rw [List.all_cons, Bool.and_eq_true] at h
    refine ⟨_, _, rfl, ?_, VRl_const h.2⟩
    cases c with
    | none => simp only [constV, constVal, VR, DR]
    | bool b => simp only [constV, constVal, VR, DR]
    | _ => cases h.1

theorem fill_rel {h : Heap} {ok : Addr → Prop} {μ : Mu} {i : Info} (hc : i.dflt.all okConst = true) {vs : List V} {xs : List Value} (hv : VRl h ok μ vs xs) : VRl h ok μ (fill i vs) (fillV i xs) := by
  have hk : kwD i.dflt = false := by
    unfold kwD
    split
    · rename_i e; rw [e] at hc; cases hc
    · rfl
  unfold fill fillV
  rw [hv.length, hk, Bool.false_and, if_neg (by decide)]
  refine hv.append (VRl_const ?_)
  rw [List.all_eq_true] at hc ⊢
  exact fun c hm => hc c (List.mem_of_mem_drop hm)

theorem callB_len {ps : List Str} {mb : M Fl} {vs : List V} {σ σ' : St} {r : V} (e : callB ps mb vs σ = some (r, σ')) : ps.length = vs.length := by
  unfold callB at e
  split at e
  · assumption
  · cases e

theorem fill_len {i : Info} {vs : List V} (hk : i.dflt.all okConst = true) (h : i.ps.length = (fill i vs).length) : vs.length ≤ i.ps.length ∧ i.ps.length ≤ vs.length + i.dflt.length := by
  have hk : kwD i.dflt = false := by
    unfold kwD
    split
    · rename_i e; rw [e] at hk; cases hk
    · rfl
  unfold fill at h
  rw [hk, Bool.false_and, if_neg (by decide)] at h
  rw [List.length_append, List.length_map, List.length_drop] at h
  omega

section
variable {X : Cx} {n : Nat} {env : Env} {P : Prm} {A : Around} {ρ : List Addr} {μ μ' : Mu} {σ : St} {s : Shared} {h h' : Heap}

theorem runI_code (ok : CxOk X) (pok : PrmOk X n P) {i : Info} (io : InfoOk X i) (ga : Ga (n + 2) A) (R : Rel X ρ μ env σ s.heap) {vs : List V} {xs : List Value} (hv : VRl s.heap (okOf ρ μ) μ vs xs) :
    ∀ r σ', runI P i vs σ = some (r, σ') → codeAny (model X.prog X.w) A (.call (.ref i.f) ⟨xs, []⟩) (fun q s' => match q with | .ok (.ret v) => Post X ρ μ env s VRr r σ' v s' | .ok _ => False | .error _ => False) s := by
  intro r σ' e
  unfold runI at e
  exact Call_code ok (fnOk_of ok io.fn) (io.den n P pok) ga R (io.bind (R.kin ok) R hv (callB_len e)) r σ' e

theorem runI_W (ok : CxOk X) (pok : PrmOk X n P) {i : Info} (io : InfoOk X i) (ga : Ga (n + 2) A) (R : Rel X ρ μ env σ s.heap) {vs : List V} {xs : List Value} (hv : VRl s.heap (okOf ρ μ) μ vs xs) :
    W X A ρ μ env s VRr (call (.ref i.f) xs []) (runI P i vs σ) := fun r σ' e => wpAny_call (codeAny_mono (runI_code ok pok io ga R hv r σ' e) fun q s' z => by
    cases q with
    | ok x => cases x <;> exact z
    | error x => exact z)

structure TabOk (X : Cx) (T : Tab) : Prop where
  mt : ∀ name i, T.mt name = some i → InfoOk X i ∧ mth X name = some i.f
  fn : ∀ name i, T.fn name = some i → InfoOk X i ∧ X.mg name = some (.ref i.f)
  init : InfoOk X T.init
  initF : W.findIn X.K (.ref X.C) "__init__" = some (some (.ref T.init.f))
  initT : W.typeIn X.K (.ref T.init.f) = some (.type "function")
  makes : W.makesIn X.K X.C = true
  head : X.mg (Str.ofString "Headers") = some (.ref X.C)
  conv : ∃ f, mth X sConv = some f ∧ fnChk X.K f [sSelf, sValue, sName] = true ∧ (∀ k env', SameEnv (fnEnv (fdOf X.K f).scope) env' → Exs X k env' (bodyOf (fdOf X.K f)) convM) ∧
    ∀ (s : Shared) x y z, BindsTo s (fdOf X.K f) ⟨[x, y], [(sName, z)]⟩ ([sSelf, sValue, sName].zip [x, y, z])

theorem prm_ok (ok : CxOk X) {T : Tab} (to : TabOk X T) : ∀ k, PrmOk X (3 * k) (prm T k)
  | 0 => ⟨fun _ _ _ _ _ _ _ _ _ _ _ _ _ _ _ _ _ _ _ _ => W_fail, fun _ _ _ _ _ _ => rfl, fun _ _ _ _ => rfl, fun _ _ _ _ e => (by cases e), to.head, fun _ _ _ _ _ _ _ _ _ _ _ => W_fail⟩
  | k + 1 => by
    have ih := prm_ok ok to k
    refine ⟨fun name f hm env A ρ μ σ s self x vs xs ks kx ga R hself hvs hks => ?_, fun name hm σ self vs ks => ?_, fun σ self vs ks => ?_, fun name vs σ r e => ?_, to.head, fun env A ρ μ σ s vs xs ga R hvs => ?_⟩
    · show W X A ρ μ env s VRr _ ((if name = sConv then convP self vs ks else _) σ)
      split
      · rename_i hn
        subst hn
        obtain ⟨f', hf, hfn, hb, hbind⟩ := to.conv
        rw [hm] at hf; cases hf
        unfold convP
        split
        · rename_i v kk b
          obtain ⟨y, r, rfl, hy, hr⟩ := hvs
          rw [show r = [] from hr]
          obtain ⟨z, r', rfl, hz, hr'⟩ := hks
          rw [show r' = [] from hr']
          split
          · rename_i hkk
            subst hkk
            exact Call_body ok (fnOk_of ok hfn) (fun env' hs => hb (3 * k + 1) env' hs) (ga.less (by omega)) R (.of (ys := [x, y, z]) ⟨x, _, rfl, hself, y, _, rfl, hy, z, _, rfl, hz, rfl⟩ (hbind s x y z))
          · exact W_fail
        · exact W_fail
      · cases hi : T.mt name with
        | none => exact W_fail
        | some i =>
          obtain ⟨io, hf⟩ := to.mt name i hi
          rw [hm] at hf; cases hf
          dsimp only
          cases ks with
          | nil =>
            rw [show kx = [] from hks]
            exact runI_W ok ih io (ga.less (by omega)) R ⟨x, xs, rfl, hself, hvs⟩
          | cons a b => exact W_fail
    · show (if name = sConv then convP self vs ks else _) σ = none
      split
      · rename_i hn
        subst hn
        obtain ⟨f', hf, _⟩ := to.conv
        rw [hm] at hf; cases hf
      · cases hi : T.mt name with
        | none => rfl
        | some i =>
          obtain ⟨_, hf⟩ := to.mt name i hi
          rw [hm] at hf; cases hf
    · cases hi : T.mt hdrKey with
      | none =>
        show (if hdrKey = sConv then convP self vs ks else match T.mt hdrKey with | some i => if ks.isEmpty then runI (prm T k) i (self :: vs) else mfail | none => mfail) σ = none
        rw [if_neg (by decide), hi]
        rfl
      | some i =>
        obtain ⟨_, hf⟩ := to.mt hdrKey i hi
        obtain ⟨g1, _⟩ := mth_find hf
        rw [ok.hd] at g1; cases g1
    · have e' : (match T.fn name with | some i => runI (prm T k) i vs | none => mfail) σ = some r := e
      cases hi : T.fn name with
      | none => rw [hi] at e'; cases e'
      | some i =>
        obtain ⟨io, hg⟩ := to.fn name i hi
        obtain ⟨o, ho, hd⟩ := (fnOk_of ok io.fn).at_
        refine ⟨i.f, o, _, hg, ho, hd, fun env A ρ μ s xs ga R hvs => ?_⟩
        show W X A ρ μ env s VRr _ ((match T.fn name with | some i => runI (prm T k) i vs | none => mfail) σ)
        rw [hi]
        exact runI_W ok ih io (ga.less (by omega)) R hvs
    · show W X A ρ μ env s VRr _ (makeM (fun self ws => runI (prm T k) T.init (self :: ws)) vs σ)
      exact W_make (n := 3 * k + 2) ok to.makes to.initF to.initT (fun env A ρ μ σ s self x vs xs ga R hself hvs r σ' e => runI_code ok ih to.init ga R (show VRl s.heap (okOf ρ μ) μ (self :: vs) (x :: xs) from ⟨x, xs, rfl, hself, hvs⟩) r σ' e) (ga.less (by omega)) R hvs

end
end Mine
end

section
open PySem
set_option Elab.async false
set_option maxRecDepth 10000
namespace Mine

section
variable {X : Cx} {n : Nat} {env : Env} {P : Prm} {A : Around} {ρ : List Addr} {μ μ' : Mu} {σ : St} {s : Shared} {h h' : Heap}

theorem law_run (ok : CxOk X) {T : Tab} (to : TabOk X T) (k : Nat) {sc : Scope} (hs : SameEnv (fnEnv sc) env) {body : List Stmt} {den : Prm → M Fl} (hden : ∀ (n : Nat) (P : Prm), PrmOk X n P → ExsR X (n + 1) (fnEnv sc) body (den P)) (ga : Ga (3 * k + 1) A) (R : Rel X ρ μ env σ s.heap) {σ' : St}
    (e : den (prm T k) σ = some (.ret (.dat (.bool true)), σ')) :
    wpAny (model X.prog X.w) A (execs body env) (fun f s' => f = .ret (.bool true) ∧ (∃ hp tk, s' = { s with heap := hp, toks := tk }) ∧ ∃ m, PyProof.Rows.Fr X.base env.locals s'.heap m) (fun _ _ => False) s := by
  refine wpAny_mono (hden _ _ (prm_ok ok to k) env hs A ρ μ σ s ga R _ _ e) (fun f s' z => ?_) fun _ _ z => z
  obtain ⟨μ1, st1, R1, y, rfl, hy⟩ := z
  have hy' : DR _ _ _ _ := hy
  simp only [DR] at hy'
  subst hy'
  exact ⟨rfl, st1.same, R1.fr⟩

/-- the frame of a law without cells -/
theorem start_rel {name : Str} {sc : Scope} {L fa : Addr} {cd : Value} {m : Str → Option Value} {loc : Str → Option V} (F : PyProof.Rows.Fr X.base L h m) (hL : X.base.get? L = none) (hk : sc.kind = .function)
    (hl : ∀ x v, loc x = some v → sc.names.lookup x = some .local ∧ ∃ val, m x = some val ∧ VR X.base (fun a => ∃ o, X.base.get? a = some o) [] v val) :
    Rel X [L] [] (PyProof.Rows.envOf name sc L fa cd) ⟨loc, []⟩ h := by
  have hLl : ∃ o, h.get? L = some o := by obtain ⟨o, _, _, q, _⟩ := F.ns; exact ⟨o, q⟩
  refine ⟨F.keep, fun a ha => ?_, fun a ha => ?_, fun a ha => ?_, fun a ha => ?_, by simp [foot], fun a _ => by simp [foot], fun a ha => ?_, F.above, ⟨m, fun _ => none, ⟨hk, rfl, rfl, F.ns, fun nm c e => ?_, fun nm c e => ?_, .nil⟩, fun x v e => ?_⟩, rfl, fun i j a h1 _ => ?_, fun i o e => ?_, fun i ds e => ?_⟩
  · simp at ha; subst ha; exact hL
  · simp [foot] at ha
  · simp at ha; subst ha; exact hLl
  · simp [foot] at ha
  · rcases List.mem_cons.mp ha with rfl | ha
    · exact .head _
    · cases ha
  · cases e
  · cases e
  · obtain ⟨h1, val, h2, h3⟩ := hl x v e
    refine ⟨val, ?_, h3.mono (fun _ _ e => e) fun a o q e => ⟨F.keep a o e, ?_, by simp [foot]⟩⟩
    · unfold valOf
      have : (PyProof.Rows.envOf name sc L fa cd).kindOf x = some .local := h1
      rw [this]; exact h2
    · simp
      rintro rfl
      rw [hL] at e; cases e
  · simp [root] at h1
  · simp at e
  · simp at e

end
end Mine
end

section
open PySem
set_option Elab.async false
set_option maxRecDepth 10000
namespace Mine

noncomputable def dictOf (K : W.Frag) (a : Addr) : Array DictEntry := match K.lookup a with
  | some ⟨_, _, .dict es _, _⟩ => es
  | _ => #[]
noncomputable def isDict (K : W.Frag) (a : Addr) : Bool := match K.lookup a with
  | some ⟨_, _, .dict _ _, _⟩ => true
  | _ => false

theorem mg_of {K : W.Frag} {h : Heap} {mg : Str → Option Value} {a : Addr} (hK : K.In h) (hg : h.Ns a mg) (hd : isDict K a = true) (x : Str) : mg x = nsFind (dictOf K a) x := by
  obtain ⟨o, es, ep, h1, h2, _, h4⟩ := hg
  unfold isDict at hd
  split at hd
  · rename_i cl dd es' n sl hl
    have := hK _ _ hl
    rw [this] at h1
    cases h1
    cases h2
    rw [← h4 x]
    unfold dictOf
    rw [hl]
  · cases hd

theorem len1 {xs : List Value} (h : xs.length = 1) : ∃ x, xs = [x] := by
  cases xs with
  | nil => cases h
  | cons x r => cases r with
    | nil => exact ⟨x, rfl⟩
    | cons y r => simp at h
theorem len2 {xs : List Value} (h : xs.length = 2) : ∃ x y, xs = [x, y] := by
  cases xs with
  | nil => cases h
  | cons x r =>
    obtain ⟨y, rfl⟩ := len1 (xs := r) (by simpa using h)
    exact ⟨x, y, rfl⟩
theorem len3 {xs : List Value} (h : xs.length = 3) : ∃ x y z, xs = [x, y, z] := by
  cases xs with
  | nil => cases h
  | cons x r =>
    obtain ⟨y, z, rfl⟩ := len2 (xs := r) (by simpa using h)
    exact ⟨x, y, z, rfl⟩
noncomputable def BindOk (X : Cx) (i : Info) : Prop := ∀ (s : Shared) xs, X.K.In s.heap → xs.length ≤ i.ps.length → i.ps.length ≤ xs.length + i.dflt.length → BindsTo s (fdOf X.K i.f) ⟨xs, []⟩ (i.ps.zip (fillV i xs))
theorem InfoOk.plain {X : Cx} {i : Info} (fn : fnChk X.K i.f i.ps = true) (den : ∀ (n : Nat) (P : Prm), PrmOk X n P → ExsR X (n + 1) (fnEnv (fdOf X.K i.f).scope) (bodyOf (fdOf X.K i.f)) (i.den P)) (cs : i.dflt.all okConst = true) (bind : BindOk X i) : InfoOk X i :=
  ⟨fn, den, fun {_ _ _ _ s _ xs} hK _ hv hl => by
    obtain ⟨h1, h2⟩ := fill_len cs hl
    rw [← hv.length] at h1 h2
    exact .of (fill_rel cs hv) (bind s xs hK h1 h2)⟩
theorem bind1 {X : Cx} {f : Addr} {p : Str} {D : Prm → M Fl} (hb : ∀ x, bindArgs (fdOf X.K f) ⟨[x], []⟩ = pure [(p, x)]) : BindOk X ⟨f, [p], [], D⟩ := by
  intro s xs _ h1 h2
  obtain ⟨x, rfl⟩ := len1 (xs := xs) (Nat.le_antisymm h1 h2)
  exact .of_eq (hb x)
theorem bind2 {X : Cx} {f : Addr} {p q : Str} {D : Prm → M Fl} (hb : ∀ x y, bindArgs (fdOf X.K f) ⟨[x, y], []⟩ = pure [(p, x), (q, y)]) : BindOk X ⟨f, [p, q], [], D⟩ := by
  intro s xs _ h1 h2
  obtain ⟨x, y, rfl⟩ := len2 (xs := xs) (Nat.le_antisymm h1 h2)
  exact .of_eq (hb x y)
theorem bind3 {X : Cx} {f : Addr} {p q r : Str} {D : Prm → M Fl} (hb : ∀ x y z, bindArgs (fdOf X.K f) ⟨[x, y, z], []⟩ = pure [(p, x), (q, y), (r, z)]) : BindOk X ⟨f, [p, q, r], [], D⟩ := by
  intro s xs _ h1 h2
  obtain ⟨x, y, z, rfl⟩ := len3 (xs := xs) (Nat.le_antisymm h1 h2)
  exact .of_eq (hb x y z)
/-- a last parameter with None for default -/
theorem bind2d {X : Cx} {f : Addr} {p q : Str} {D : Prm → M Fl} (h0 : ∀ (s : Shared) x y, X.K.In s.heap → BindsTo s (fdOf X.K f) ⟨[x, y], []⟩ [(p, x), (q, y)]) (h1 : ∀ (s : Shared) x, X.K.In s.heap → BindsTo s (fdOf X.K f) ⟨[x], []⟩ [(p, x), (q, .none)]) :
    BindOk X ⟨f, [p, q], [.none], D⟩ := by
  intro s xs hK g1 g2
  have g1' : xs.length ≤ 2 := g1
  have g2' : 2 ≤ xs.length + 1 := g2
  rcases (show xs.length = 2 ∨ xs.length = 1 by omega) with h | h
  · obtain ⟨x, y, rfl⟩ := len2 h; exact h0 s x y hK
  · obtain ⟨x, rfl⟩ := len1 h; exact h1 s x hK
/-- a pattern that lies written out -/
noncomputable def PatAt (K : W.Frag) (p : Addr) (code : Array Nat) : Prop := ∃ a b c cl dd cv n sl, K.lookup p = some ⟨.type "re.Pattern", none, .fields #[a, b, .int 0 0, .none, .none, .ref c, .int 0 0], #[]⟩ ∧ K.lookup c = some ⟨cl, dd, .seq cv n, sl⟩ ∧ (cv.map Builtin.Re.reRawOf).map (·.toNat) = code
theorem patOk_of {X : Cx} {nm : Str} {p : Addr} {code : Array Nat} (hK : X.K.In X.base) (hg : X.mg nm = some (.ref p)) (e : PatAt X.K p code) (hc : codeOk code) : PatOk X nm := by
  obtain ⟨a, b, c, cl, dd, cv, n, sl, h1, h2, h3⟩ := e
  exact ⟨p, c, a, b, cv, n, _, hg, hK _ _ h1, hK _ _ h2, rfl, by rw [h3]; exact hc⟩

end Mine
end

section
open PySem
set_option Elab.async false
set_option maxRecDepth 10000
namespace Mine

theorem bind_at {α β : Type} {m : M α} {f : α → M β} {σ σ' : St} {a : α} (h : m σ = some (a, σ')) : (m >>= f) σ = f a σ' := by
  show mbind m f σ = _
  unfold mbind; rw [h]
theorem name_at {x : Str} {v : V} {σ : St} (hx : (x == dbg) = false) (e : σ.loc x = some v) : nameS x σ = some (v, σ) := by
  unfold nameS
  rw [if_neg (by intro h; subst h; simp at hx)]
  unfold getLoc; rw [e]; rfl

theorem cut_same {n : Nat} {σ σ₁ : St} (h : cutM n σ = some σ₁) (hl : σ.heap.length = n) : σ₁.heap = σ.heap := by
  unfold cutM at h
  split at h
  · cases h
    simp only
    rw [← hl, List.take_length]
  · cases h

theorem callB_same {ps : List Str} {mb : M Fl} {vs : List V} {σ σ' : St} {f : Fl} (hl : ps.length = vs.length) (h : mb ⟨bindP ps vs, σ.heap⟩ = some (f, σ')) (hh : σ'.heap.length = σ.heap.length) : callB ps mb vs σ = some (retV f, ⟨σ.loc, σ'.heap⟩) := by
  unfold callB
  rw [if_pos hl, h]
  dsimp only
  split
  · rename_i σ₁ hc
    split at hc
    · rw [cut_same hc hh]
    · cases hc
  · rfl

theorem convP_at {self : V} {x : Str} {b : Bool} {σ : St} (hx : x.length ≤ big) : convP self [.dat (.str x)] [(sName, .dat (.bool b))] σ = some (.dat (.str x), σ) := by
  have e0 : convP self [.dat (.str x)] [(sName, .dat (.bool b))] = callB [sSelf, sValue, sName] convM [self, .dat (.str x), .dat (.bool b)] := by
    simp [convP]
  rw [e0]
  have := callB_same (ps := [sSelf, sValue, sName]) (mb := convM) (vs := [self, .dat (.str x), .dat (.bool b)]) (σ := σ) (f := .ret (.dat (.str x)))
    (σ' := ⟨fun y => if y = sRegex then none else bindP [sSelf, sValue, sName] [self, .dat (.str x), .dat (.bool b)] y, σ.heap⟩) rfl (by
      unfold convM
      have h1 : bindP [sSelf, sValue, sName] [self, .dat (.str x), .dat (.bool b)] sValue = some (.dat (.str x)) := by
        unfold bindP
        simp only [List.zip_cons_cons, List.lookup_cons]
        rw [show (sValue == sSelf) = false by decide, show (sValue == sValue) = true by decide]
      have h2 : bindP [sSelf, sValue, sName] [self, .dat (.str x), .dat (.bool b)] sName = some (.dat (.bool b)) := by
        unfold bindP
        simp only [List.zip_cons_cons, List.lookup_cons]
        rw [show (sName == sSelf) = false by decide, show (sName == sValue) = false by decide, show (sName == sName) = true by decide]
      simp only [h1, h2, if_pos hx]) rfl
  rw [this]
  rfl


noncomputable def turnM (bind : V → M Unit) (tests : List (M Bool)) (elt : M V) (v : V) : M (Option PyData) := do
  bind v
  let ok ← allS tests
  if ok then (do let x ← elt; let d ← asDat x; mpure (some d)) else mpure none

theorem cut_all {hp : List AObj} {loc : Str → Option V} (hwf : hp.all (okO hp.length) = true) : cutM hp.length ⟨loc, hp⟩ = some ⟨fun x => (loc x).filter (okV hp.length), hp⟩ := by
  unfold cutM
  simp only [List.take_length, hwf, if_true]

end Mine
end

section
open PySem
set_option Elab.async false
namespace Mine
noncomputable def x_dot0 : Str := Str.ofString ".0"
noncomputable def x___len__ : Str := Str.ofString "__len__"
noncomputable def x__convert_string_type : Str := Str.ofString "_convert_string_type"
noncomputable def x__headers : Str := Str.ofString "_headers"
noncomputable def x__law_letter : Str := Str.ofString "_law_letter"
noncomputable def x_figure : Str := Str.ofString "figure"
noncomputable def x_figures : Str := Str.ofString "figures"
noncomputable def x_get_all : Str := Str.ofString "get_all"
noncomputable def x_great : Str := Str.ofString "great"
noncomputable def x_headers : Str := Str.ofString "headers"
noncomputable def x_k : Str := Str.ofString "k"
noncomputable def x_kv : Str := Str.ofString "kv"
noncomputable def x_letter : Str := Str.ofString "letter"
noncomputable def x_list : Str := Str.ofString "list"
noncomputable def x_name : Str := Str.ofString "name"
noncomputable def x_number : Str := Str.ofString "number"
noncomputable def x_pairs : Str := Str.ofString "pairs"
noncomputable def x_place : Str := Str.ofString "place"
noncomputable def x_right : Str := Str.ofString "right"
noncomputable def x_row : Str := Str.ofString "row"
noncomputable def x_script : Str := Str.ofString "script"
noncomputable def x_self : Str := Str.ofString "self"
noncomputable def x_table : Str := Str.ofString "table"
noncomputable def x_text : Str := Str.ofString "text"
noncomputable def x_times : Str := Str.ofString "times"
noncomputable def x_v : Str := Str.ofString "v"
noncomputable def x_value : Str := Str.ofString "value"
noncomputable def x_weight : Str := Str.ofString "weight"
end Mine
end

section
open PySem
set_option Elab.async false
set_option maxRecDepth 10000
namespace Mine

noncomputable def Run {α : Type} (m : M α) (σ : St) (a : α) (σ' : St) : Prop := m σ = some (a, σ')
noncomputable def Ok {α : Type} (m : M α) (σ : St) (Q : α → St → Prop) : Prop := ∃ a σ', m σ = some (a, σ') ∧ Q a σ'
/-- what is known of the names -/
noncomputable def lkp (K : List (Str × V)) (x : Str) : Option V := if x == dbg then none else K.lookup x
noncomputable def Kn (K : List (Str × V)) (l : Str → Option V) : Prop := ∀ x v, lkp K x = some v → l x = some v

theorem Run.ok {α : Type} {m : M α} {σ σ' : St} {a : α} {Q : α → St → Prop} (h : Run m σ a σ') (q : Q a σ') : Ok m σ Q := ⟨a, σ', h, q⟩
theorem Ok.mono {α : Type} {m : M α} {σ : St} {Q Q' : α → St → Prop} (h : Ok m σ Q) (q : ∀ a σ', Q a σ' → Q' a σ') : Ok m σ Q' := by
  obtain ⟨a, s, e, k⟩ := h; exact ⟨a, s, e, q _ _ k⟩
theorem ok_bind {α β : Type} {m : M α} {f : α → M β} {σ : St} {Q : β → St → Prop} (h : Ok m σ fun a σ' => Ok (f a) σ' Q) : Ok (m >>= f) σ Q := by
  obtain ⟨a, s, e, b, s', e', q⟩ := h
  exact ⟨b, s', by rw [bind_at e]; exact e', q⟩
theorem run_bind {α β : Type} {m : M α} {f : α → M β} {σ σ1 σ2 : St} {a : α} {b : β} (h : Run m σ a σ1) (k : Run (f a) σ1 b σ2) : Run (m >>= f) σ b σ2 := by
  unfold Run at *; rw [bind_at h]; exact k
theorem ok_run {α β : Type} {m : M α} {f : α → M β} {σ σ1 : St} {a : α} {Q : β → St → Prop} (h : Run m σ a σ1) (k : Ok (f a) σ1 Q) : Ok (m >>= f) σ Q := ok_bind ⟨a, σ1, h, k⟩

section
variable {Q : Prm} {l l1 l2 l3 : Str → Option V} {hp h1 h2 h3 : List AObj} {σ σ1 σ2 σ3 : St} {x y : Str} {v w : V} {R : Fl → St → Prop}

/-! names -/
theorem lkp_some {K : List (Str × V)} (h : lkp K x = some v) : (x == dbg) = false ∧ K.lookup x = some v := by
  unfold lkp at h
  cases q : x == dbg with
  | true => rw [q] at h; cases h
  | false => rw [q] at h; exact ⟨rfl, h⟩
theorem kn_nil : Kn [] l := fun x v h => by
  have := (lkp_some h).2; cases this
theorem kn_put {K : List (Str × V)} (hk : Kn K l) : Kn ((x, v) :: K) (upd l x v) := fun y w h => by
  obtain ⟨h1, h2⟩ := lkp_some h
  rw [List.lookup_cons] at h2
  unfold upd
  cases q : y == x with
  | true => rw [q] at h2; cases h2; rw [if_pos (beq_iff_eq.mp q)]
  | false =>
    rw [q] at h2
    rw [if_neg (fun e => by rw [beq_iff_eq.mpr e] at q; cases q)]
    exact hk y w (by unfold lkp; rw [h1]; exact h2)
theorem kn_cons {K L : List (Str × V)} (hk : Kn L l) (h : lkp L x = some v) (k : Kn K l) : Kn ((x, v) :: K) l := fun y w q => by
  obtain ⟨h1, h2⟩ := lkp_some q
  rw [List.lookup_cons] at h2
  cases e : y == x with
  | true => rw [e] at h2; cases h2; rw [beq_iff_eq.mp e]; exact hk _ _ h
  | false => rw [e] at h2; exact k y w (by unfold lkp; rw [h1]; exact h2)
noncomputable def cutL (n : Nat) (l : Str → Option V) : Str → Option V := fun x => (l x).filter (okV n)
theorem kn_cut {K : List (Str × V)} {n : Nat} (h : K.all (fun p => okV n p.2) = true) (hk : Kn K l) : Kn K (cutL n l) := fun y w q => by
  unfold cutL
  rw [hk y w q]
  have := List.all_eq_true.mp h _ (mem_of_lookup (lkp_some q).2)
  simp only at this
  simp [Option.filter, this]
theorem kn_vis {K : List (Str × V)} {sc : Scope} (h : K.all (fun p => sc.names.lookup p.1 == some .free) = true) (hk : Kn K l) : Kn K (vis sc l) := fun y w q => by
  have := List.all_eq_true.mp h _ (mem_of_lookup (lkp_some q).2)
  unfold vis
  rw [if_pos (beq_iff_eq.mp this)]
  exact hk y w q
theorem kn_par {ps : List Str} {vs : List V} : Kn (ps.zip vs) (bindP ps vs) := fun y w q => (lkp_some q).2

theorem r_name {K : List (Str × V)} (hk : Kn K l) (h : lkp K x = some v) : Run (nameS x) ⟨l, hp⟩ v ⟨l, hp⟩ := name_at (lkp_some h).1 (hk x v h)
theorem r_dat {d : PyData} : Run (datM d) σ (.dat d) σ := rfl
/-! expressions -/
theorem r_bin {op : Operator} {a b : M V} {u : V} (ha : Run a σ v σ1) (hb : Run b σ1 w σ2) (h : Run (binS op v w) σ2 u σ3) : Run (binM op a b) σ u σ3 := run_bind ha (run_bind hb h)
theorem b_dat {op : Operator} {d e r : PyData} (h : binD op d e = some r) : Run (binS op (.dat d) (.dat e)) σ (.dat r) σ := by
  show binS op (.dat d) (.dat e) σ = _
  unfold binS
  rw [bind_at (show readD (.dat d) σ = some (d, σ) from rfl), bind_at (show readD (.dat e) σ = some (e, σ) from rfl), h]
  rfl
theorem b_fdiv {i j : Int} (h : j ≠ 0 ∧ j.natAbs < 2 ^ 30) : Run (binS .FloorDiv (.dat (.int i)) (.dat (.int j))) σ (.dat (.int (i.fdiv j))) σ := b_dat (by show (fdivI i j).map PyData.int = _; unfold fdivI; rw [if_pos h]; rfl)
theorem b_mod {i j : Int} (h : j ≠ 0) : Run (binS .Mod (.dat (.int i)) (.dat (.int j))) σ (.dat (.int (i.fmod j))) σ := b_dat (by show (modI i j).map PyData.int = _; unfold modI; rw [if_pos h]; rfl)
theorem b_addI {i j : Int} : Run (binS .Add (.dat (.int i)) (.dat (.int j))) σ (.dat (.int (i + j))) σ := b_dat rfl
theorem b_addS {s t : Str} (h : s.length + t.length ≤ big) : Run (binS .Add (.dat (.str s)) (.dat (.str t))) σ (.dat (.str (s ++ t))) σ := b_dat (if_pos h)
noncomputable def Rd (v : V) (σ : St) (d : PyData) : Prop := readD v σ = some (d, σ)
theorem rd_dat {d : PyData} : Rd (.dat d) σ d := rfl
theorem rd_obj {i : Nat} {ds : List PyData} (h : hp[i]? = some (.lst ds)) : Rd (.obj i) ⟨l, hp⟩ (.list ds) := by
  unfold Rd; show (match hp[i]? with | some (.lst ds) => _ | some (.frz ds) => _ | _ => _) = _
  rw [h]
theorem b_addL {ds es : List PyData} (hv : Rd v σ (.list ds)) (hw : Rd w σ (.list es)) (h : ds.length + es.length ≤ big) : Run (binS .Add v w) σ (.dat (.list (ds ++ es))) σ := by
  show binS .Add v w σ = _
  unfold binS
  rw [bind_at hv, bind_at hw]
  have e : binL .Add (.list ds) (.list es) = some (ds ++ es) := if_pos h
  show (do let ds ← mopt (binL .Add (.list ds) (.list es)); pure (.dat (.list ds)) : M V) σ = _
  rw [e]; rfl

theorem r_ifx1 {t : M Bool} {a b : M V} (h : Run t σ true σ1) (k : Run a σ1 v σ2) : Run (ifxM t a b) σ v σ2 := run_bind h k
theorem r_ifxB {t : M Bool} {a b : M V} {c : Bool} {d e : PyData} (h : Run t σ c σ1) (k1 : Run a σ1 (.dat d) σ1) (k2 : Run b σ1 (.dat e) σ1) : Run (ifxM t a b) σ (.dat (if c then d else e)) σ1 := run_bind h (by cases c; exact k2; exact k1)

theorem q_nil : Run (seqS []) σ [] σ := rfl
theorem q_cons {m : M V} {ms : List (M V)} {vs : List V} (h : Run m σ v σ1) (k : Run (seqS ms) σ1 vs σ2) : Run (seqS (m :: ms)) σ (v :: vs) σ2 := run_bind h (run_bind k rfl)
theorem kw_nil : Run (kwS []) σ [] σ := rfl
theorem kw_cons {m : M V} {ms : List (Str × M V)} {vs : List (Str × V)} (h : Run m σ v σ1) (k : Run (kwS ms) σ1 vs σ2) : Run (kwS ((x, m) :: ms)) σ ((x, v) :: vs) σ2 := run_bind h (run_bind k rfl)

theorem ls_at {ms : List (M V)} {vs : List V} {ds : List PyData} (h : Run (seqS ms) σ vs σ1) (k : allDat vs = some ds) (hb : ds.length ≤ big) : Run (listS Q ms) σ ds σ1 := by
  refine run_bind h ?_
  rw [k]
  refine run_bind (show Run (mopt (some ds)) σ1 ds σ1 from rfl) ?_
  refine run_bind (show Run (mguard (decide (ds.length ≤ big))) σ1 () σ1 from ?_) rfl
  unfold Run mguard; rw [if_pos (decide_eq_true hb)]
theorem ad_nil : allDat [] = some [] := rfl
theorem ad_cons {d : PyData} {vs : List V} {ds : List PyData} (h : allDat vs = some ds) : allDat (.dat d :: vs) = some (d :: ds) := by
  show (allDat vs).map (d :: ·) = _; rw [h]; rfl
theorem leB {a b : Nat} (h : Nat.ble a b = true) : a ≤ b := Nat.le_of_ble_eq_true h
theorem r_lst {ms : List (M V)} {vs : List V} {ds : List PyData} (h : Run (seqS ms) σ vs σ1) (k : allDat vs = some ds) (hb : ds.length ≤ big) : Run (lstM Q ms) σ (.dat (.list ds)) σ1 := run_bind (ls_at h k hb) rfl
theorem r_tup {ms : List (M V)} {vs : List V} {ds : List PyData} (h : Run (seqS ms) σ vs σ1) (k : allDat vs = some ds) (hb : ds.length ≤ big) : Run (tupM Q ms) σ (.dat (.tuple ds)) σ1 := run_bind (ls_at h k hb) rfl
theorem r_new {ds : List PyData} : Run (newObj (.lst ds)) ⟨l, hp⟩ (.obj hp.length) ⟨l, hp ++ [.lst ds]⟩ := rfl
theorem r_ownLst {ms : List (M V)} {vs : List V} {ds : List PyData} (h : Run (seqS ms) σ vs ⟨l1, h1⟩) (k : allDat vs = some ds) (hb : ds.length ≤ big) : Run (ownLstM Q ms) σ (.obj h1.length) ⟨l1, h1 ++ [.lst ds]⟩ := run_bind (ls_at h k hb) r_new
/-! comparisons -/
theorem r_cmp {op : CmpOp} {a b : M V} {u : V} (ha : Run a σ v σ1) (hb : Run b σ1 w σ2) (h : Run (cmpS Q op v w) σ2 u σ3) : Run (cmpM Q op a b) σ u σ3 := run_bind ha (run_bind hb h)
theorem c_rd {op : CmpOp} {d e : PyData} {r : Bool} (hv : Rd v σ d) (hw : Rd w σ e) (h : cmpD op d e = some r) : Run (cmpS Q op v w) σ (.dat (.bool r)) σ := by
  have hi : isInst w σ = false := by
    unfold isInst
    cases w with
    | dat _ => rfl
    | rng _ _ => rfl
    | emp => rfl
    | obj i =>
      have : (match σ.heap[i]? with | some (.lst ds) => some (PyData.list ds, σ) | some (.frz ds) => some (PyData.list ds, σ) | _ => none) = some (e, σ) := hw
      simp only
      split at this
      · rename_i q; rw [q]
      · rename_i q; rw [q]
      · cases this
  show cmpS Q op v w σ = _
  unfold cmpS
  rw [hi]
  simp only [Bool.false_eq_true, if_false]
  rw [bind_at hv, bind_at hw, h]; rfl
theorem cEqS {s t : Str} : cmpD .Eq (.str s) (.str t) = some (s == t) := by
  show (if min (PyData.depth (.str s)) (PyData.depth (.str t)) ≤ 50 then some (PyData.eqv (.str s) (.str t)) else none) = _
  rw [if_pos (by simp [PyData.depth])]; simp [PyData.eqv]
theorem cEqI {s t : Int} : cmpD .Eq (.int s) (.int t) = some (decide (s = t)) := by
  show (if min (PyData.depth (.int s)) (PyData.depth (.int t)) ≤ 50 then some (PyData.eqv (.int s) (.int t)) else none) = _
  rw [if_pos (by simp [PyData.depth])]; simp [PyData.eqv]; rfl
theorem cNeI {s t : Int} : cmpD .NotEq (.int s) (.int t) = some (!decide (s = t)) := by
  show (if min (PyData.depth (.int s)) (PyData.depth (.int t)) ≤ 50 then some (!PyData.eqv (.int s) (.int t)) else none) = _
  rw [if_pos (by simp [PyData.depth])]; simp [PyData.eqv]; rfl

/-! tests -/
theorem t_tru {m : M V} {d : PyData} {b : Bool} (h : Run m σ v σ1) (hr : Rd v σ1 d) (k : truthD d = some b) : Run (truT m) σ b σ1 := by
  refine run_bind h (run_bind hr ?_)
  rw [k]; rfl
theorem t_bool {m : M V} {b : Bool} (h : Run m σ (.dat (.bool b)) σ1) : Run (truT m) σ b σ1 := t_tru h rfl rfl
theorem t_cmp {op : CmpOp} {a b : M V} {c : Bool} (h : Run (cmpM Q op a b) σ (.dat (.bool c)) σ1) : Run (truT (cmpM Q op a b)) σ c σ1 := t_bool h
/-! methods -/
theorem r_str {f : Str → Str} {o : M V} {x : Str} (ho : Run o σ (.dat (.str x)) σ1) (h : x.length ≤ big) : Run (strM f o) σ (.dat (.str (f x))) σ1 := by
  refine run_bind ho ?_
  show (if x.length ≤ big then mpure (V.dat (.str (f x))) else mfail) σ1 = _
  rw [if_pos h]; rfl
theorem r_lm {F : List PyData → List V → Option (PyData × List PyData)} {o : M V} {args : List (M V)} {i : Nat} {vs : List V} {cs ds es : List PyData} {r : PyData} (ho : Run o σ (.obj i) ⟨l1, h1⟩) (hg : h1[i]? = some (.lst cs)) (ha : Run (seqS args) ⟨l1, h1⟩ vs ⟨l2, h2⟩) (hi : h2[i]? = some (.lst ds)) (hb : ds.length ≤ big) (h : F ds vs = some (r, es)) :
    Run (lmM F o args) σ (.dat r) ⟨l2, h2.set i (.lst es)⟩ := by
  refine run_bind ho (run_bind (a := ()) (σ1 := ⟨l1, h1⟩) ?_ (run_bind ha ?_))
  · unfold Run lstG isLst; simp only [hg]; rfl
  · unfold Run lstF; simp only [hi, if_pos hb, h]; rfl
theorem r_im {o : M V} {name : Str} {args : List (M V)} {kws : List (Str × M V)} {i : Nat} {q : Option Nat} {vs : List V} {ks : List (Str × V)} (ho : Run o σ (.obj i) ⟨l1, h1⟩) (hi : h1[i]? = some (.inst q)) (ha : Run (seqS args) ⟨l1, h1⟩ vs σ2) (hq : Run (kwS kws) σ2 ks σ2) (h : Run (Q.mt name (.obj i) vs ks) σ2 w σ3) :
    Run (imM Q o name args kws) σ w σ3 := by
  refine run_bind ho (run_bind (a := ()) (σ1 := ⟨l1, h1⟩) ?_ (run_bind ha (run_bind hq h)))
  unfold Run instG isInst; simp only [hi]; rfl
theorem ml_append {ds : List PyData} {d : PyData} : appF ds [.dat d] = some (.none, ds ++ [d]) := rfl
/-! calls -/
theorem r_call {f : Str} {ms : List (M V)} {vs : List V} (h : Run (seqS ms) σ vs σ1) (k : Run (Q.fn f vs) σ1 w σ2) : Run (callM Q f ms) σ w σ2 := run_bind h k
theorem r_blt {F : List V → M V} {ms : List (M V)} {vs : List V} (h : Run (seqS ms) σ vs σ1) (k : Run (F vs) σ1 w σ2) : Run (bltM F ms) σ w σ2 := run_bind h k
theorem r_mk {ms : List (M V)} {vs : List V} (h : Run (seqS ms) σ vs σ1) (k : Run (Q.make vs) σ1 w σ2) : Run (mkM Q ms) σ w σ2 := run_bind h k
theorem f_len {d : PyData} {n : Nat} (hi : isInst v σ = false) (hr : Rd v σ d) (h : lenD d = some n) (hn : n ≤ big) : Run (lenB Q [v]) σ (.dat (.int n)) σ := by
  show lenS Q v σ = _
  unfold lenS
  rw [hi]
  simp only [Bool.false_eq_true, if_false]
  rw [bind_at hr, h, bind_at (show mopt (some n) σ = some (n, σ) from rfl), bind_at (show mguard (decide (n ≤ big)) σ = some ((), σ) by unfold mguard; rw [if_pos (decide_eq_true hn)])]
  rfl
theorem f_lenI {n : Int} (hi : isInst v σ = true) (h : Run (Q.mt x___len__ v [] []) σ (.dat (.int n)) σ) (hn : 0 ≤ n ∧ n ≤ big) : Run (lenB Q [v]) σ (.dat (.int n)) σ := by
  show lenS Q v σ = _
  unfold lenS
  rw [hi]
  simp only [if_true]
  rw [bind_at (show Q.mt (Str.ofString "__len__") v [] [] σ = _ from h)]
  simp only [if_pos hn]; rfl
theorem f_str {i : Int} (h : i.natAbs < 10 ^ 100) : Run (strB [.dat (.int i)]) σ (.dat (.str (strI i))) σ := by
  show (if i.natAbs < 10 ^ 100 then mpure (V.dat (.str (strI i))) else mfail) σ = _
  rw [if_pos h]; rfl
theorem f_range {n : Int} (h : n.natAbs < 2 ^ 40) : Run (rangeB [.dat (.int n)]) σ (.rng 0 n) σ := by
  show (if n.natAbs < 2 ^ 40 then mpure (V.rng 0 n) else mfail) σ = _
  rw [if_pos h]; rfl
/-! items, slices, attributes -/
theorem r_item {o i : M V} {u : V} (ho : Run o σ v σ1) (hi : Run i σ1 w σ2) (h : Run (itemS Q v w) σ2 u σ3) : Run (itemM Q o i) σ u σ3 := run_bind ho (run_bind hi h)
theorem i_rd {d e r : PyData} (hv : Rd v σ d) (hs : smallI e = true) (h : itemD d e = some r) : Run (itemS Q v (.dat e)) σ (.dat r) σ := by
  have hi : isInst v σ = false := by
    unfold isInst
    cases v with
    | dat _ => rfl
    | rng _ _ => rfl
    | emp => rfl
    | obj i =>
      have : (match σ.heap[i]? with | some (.lst ds) => some (PyData.list ds, σ) | some (.frz ds) => some (PyData.list ds, σ) | _ => none) = some (d, σ) := hv
      simp only
      split at this
      · rename_i q; rw [q]
      · rename_i q; rw [q]
      · cases this
  show itemS Q v (.dat e) σ = _
  unfold itemS
  rw [hi]
  simp only [Bool.false_eq_true, if_false]
  rw [bind_at hv, bind_at (show asDat (.dat e) σ = some (e, σ) from rfl), bind_at (show mguard (smallI e) σ = some ((), σ) by unfold mguard; rw [if_pos hs]), h]
  rfl
theorem r_attr {o : M V} {i n : Nat} (ho : Run o σ (.obj i) ⟨l1, h1⟩) (h : h1[i]? = some (.inst (some n))) : Run (attrM o x__headers) σ (.obj n) ⟨l1, h1⟩ := by
  refine run_bind ho ?_
  unfold Run attrS; simp only [h]; rw [if_pos (by decide)]

/-! statements -/
noncomputable def thenQ (b : M Fl) (R : Fl → St → Prop) : Fl → St → Prop
  | .next, σ => Ok b σ R
  | f, σ => R f σ
theorem o_then {a b : M Fl} (h : Ok a σ (thenQ b R)) : Ok (thenM a b) σ R := by
  refine ok_bind (h.mono fun f s k => ?_)
  cases f with
  | next => exact k
  | _ => exact Run.ok (a := _) (σ' := s) rfl k
theorem o_assoc {a b c : M Fl} (h : Ok (thenM a (thenM b c)) σ R) : Ok (thenM (thenM a b) c) σ R := by
  obtain ⟨f, s, e, q⟩ := h
  refine ⟨f, s, ?_, q⟩
  rw [← e]
  show mbind (mbind a _) _ σ = mbind a _ σ
  unfold mbind
  cases a σ with
  | none => rfl
  | some p =>
    obtain ⟨g, s'⟩ := p
    cases g <;> rfl
theorem o_endthen {b : M Fl} (h : Ok b σ R) : Ok (thenM endM b) σ R := o_then ⟨_, _, rfl, h⟩
theorem o_end (h : R .next σ) : Ok endM σ R := ⟨_, _, rfl, h⟩
theorem o_ret {m : M V} {b : M Fl} (h : Run m σ v σ1) (k : R (.ret v) σ1) : Ok (thenM (retM m) b) σ R := o_then ⟨_, _, run_bind h rfl, k⟩
theorem o_expr {m : M V} {b : M Fl} (h : Run m σ v σ1) (k : Ok b σ1 R) : Ok (thenM (exprM m) b) σ R := o_then ⟨_, _, run_bind h rfl, k⟩
theorem o_asg {K : List (Str × V)} {m : M V} {b : M Fl} (h : Run m σ v ⟨l1, h1⟩) (hk : Kn K l1) (k : ∀ l, Kn ((x, v) :: K) l → Ok b ⟨l, h1⟩ R) : Ok (thenM (asgM x m) b) σ R :=
  o_then ⟨_, _, run_bind h (run_bind (show Run (setLoc x v) ⟨l1, h1⟩ () ⟨upd l1 x v, h1⟩ from rfl) rfl), k _ (kn_put hk)⟩
theorem o_aug {K : List (Str × V)} {m : M V} {b : M Fl} {op : Operator} {d e r : PyData} (hk : Kn K l) (hn : lkp K x = some (.dat d)) (h : Run m ⟨l, hp⟩ (.dat e) ⟨l, h1⟩) (hr : binD op d e = some r) (k : ∀ l, Kn ((x, .dat r) :: K) l → Ok b ⟨l, h1⟩ R) : Ok (thenM (augM x op m) b) ⟨l, hp⟩ R :=
  o_then ⟨_, _, run_bind (r_name hk hn) (run_bind h (run_bind (show Run (asDat (.dat d)) ⟨l, h1⟩ d ⟨l, h1⟩ from rfl) (run_bind (show Run (asDat (.dat e)) ⟨l, h1⟩ e ⟨l, h1⟩ from rfl) (run_bind (show Run (mopt (binD op d e)) ⟨l, h1⟩ r ⟨l, h1⟩ by rw [hr]; rfl) (run_bind (show Run (setLoc x (.dat r)) ⟨l, h1⟩ () ⟨upd l x (.dat r), h1⟩ from rfl) rfl))))), k _ (kn_put hk)⟩
theorem o_asgAttr {o m : M V} {b : M Fl} {i j : Nat} {ds : List PyData} (hm : Run m σ (.obj j) σ1) (ho : Run o σ1 (.obj i) ⟨l1, h1⟩) (hi : h1[i]? = some (.inst none)) (hj : h1[j]? = some (.lst ds)) (k : Ok b ⟨l1, h1.set i (.inst (some j))⟩ R) : Ok (thenM (asgAttrM o x__headers m) b) σ R :=
  o_then ⟨_, _, run_bind hm (run_bind (run_bind ho (show Run (setAttrS (.obj i) x__headers (.obj j)) ⟨l1, h1⟩ () ⟨l1, h1.set i (.inst (some j))⟩ by unfold Run setAttrS; simp only [hi, hj]; rw [if_pos (by decide)])) rfl), k⟩
theorem o_if {t : M Bool} {a b c : M Fl} {q : Bool} (h : Run t σ q σ1) (k1 : q = true → Ok (thenM a c) σ1 R) (k0 : q = false → Ok (thenM b c) σ1 R) : Ok (thenM (ifM t a b) c) σ R := by
  have e : Ok (thenM (bif q then a else b) c) σ1 R := by cases q; exact k0 rfl; exact k1 rfl
  obtain ⟨f, s, e, k⟩ := e
  refine ⟨f, s, ?_, k⟩
  rw [← e]
  show mbind (mbind t _) _ σ = mbind _ _ σ1
  unfold mbind
  rw [show t σ = some (q, σ1) from h]
theorem o_if1 {t : M Bool} {a b c : M Fl} (h : Run t σ true σ1) (k1 : Ok (thenM a c) σ1 R) : Ok (thenM (ifM t a b) c) σ R := o_if h (fun _ => k1) (fun e => by cases e)
theorem o_if0 {t : M Bool} {a b c : M Fl} (h : Run t σ false σ1) (k1 : Ok (thenM b c) σ1 R) : Ok (thenM (ifM t a b) c) σ R := o_if h (fun e => by cases e) (fun _ => k1)

/-! loops -/
noncomputable def cutS (n : Nat) (σ : St) : St := ⟨cutL n σ.loc, σ.heap.take n⟩
noncomputable def Cut (n : Nat) (R : Fl → St → Prop) (f : Fl) (σ : St) : Prop := okF n f = true ∧ (σ.heap.take n).all (okO n) = true ∧ R f (cutS n σ)
theorem o_scope {m : M Fl} (h : Ok m σ (Cut σ.heap.length R)) : Ok (scopeM m) σ R := by
  obtain ⟨f, s, e, h1, h2, h3⟩ := h
  refine ⟨f, cutS σ.heap.length s, ?_, h3⟩
  unfold scopeM
  rw [e]
  simp only [h1, if_true]
  unfold cutM
  rw [if_pos h2]; rfl
/-- what a turn of a loop leaves -/
noncomputable def turnQ (I : St → Prop) (R : Fl → St → Prop) : Fl → St → Prop
  | .brk, σ => R .next σ
  | .ret r, σ => R (.ret r) σ
  | _, σ => I σ
theorem o_forS {bind : V → M Unit} {body : M Fl} (I : List V → St → Prop) (hend : ∀ s vs, I vs s → vs = [] → R .next s) (hstep : ∀ v vs s, I (v :: vs) s → Ok (bind v >>= fun _ => body) s (Cut s.heap.length (turnQ (I vs) R))) : ∀ {vs : List V} {σ : St}, I vs σ → Ok (forS bind body vs) σ R
  | [], σ, h => ⟨_, _, rfl, hend _ _ h rfl⟩
  | v :: vs, σ, h => by
    obtain ⟨f, s, e, q⟩ := o_scope (hstep v vs σ h)
    have e' : scopeM (do bind v; body) σ = some (f, s) := e
    cases f with
    | brk => exact ⟨.next, s, by simp only [forS, e'], q⟩
    | ret r => exact ⟨.ret r, s, by simp only [forS, e'], q⟩
    | next =>
      obtain ⟨g, s', e2, q2⟩ := o_forS I hend hstep (vs := vs) q
      exact ⟨g, s', by simp only [forS, e', e2], q2⟩
    | cont =>
      obtain ⟨g, s', e2, q2⟩ := o_forS I hend hstep (vs := vs) q
      exact ⟨g, s', by simp only [forS, e', e2], q2⟩
/-- a loop over data with one name; the turns are counted -/
theorem o_forK {α : Type} {body : M Fl} (xs : List α) (e : α → PyData) (I : Nat → (Str → Option V) → List AObj → Prop) (h0 : I 0 l hp)
    (hstep : ∀ (k : Nat) (a : α) (l : Str → Option V) (hp : List AObj), xs[k]? = some a → I k l hp → ∀ l' : Str → Option V, (∀ K, Kn K l → Kn ((x, .dat (e a)) :: K) l') → Ok body ⟨l', hp⟩ (Cut hp.length (turnQ (fun s => I (k + 1) s.loc s.heap) R)))
    (hend : ∀ l hp, I xs.length l hp → R .next ⟨l, hp⟩) : Ok (forS (setLoc x) body ((xs.map e).map .dat)) ⟨l, hp⟩ R := by
  refine o_forS (fun vs s => ∃ k, k ≤ xs.length ∧ vs = ((xs.drop k).map e).map V.dat ∧ I k s.loc s.heap) ?_ ?_ ⟨0, Nat.zero_le _, rfl, h0⟩
  · rintro ⟨l, hp⟩ vs ⟨k, hk, hv, hI⟩ rfl
    have : xs.drop k = [] := by simpa using hv.symm
    have : k = xs.length := Nat.le_antisymm hk (List.drop_eq_nil_iff.mp this)
    subst this
    exact hend l hp hI
  · rintro v vs ⟨l, hp⟩ ⟨k, hk, hv, hI⟩
    cases q : xs[k]? with
    | none =>
      rw [List.drop_eq_nil_of_le (List.getElem?_eq_none_iff.mp q)] at hv; cases hv
    | some a =>
      obtain ⟨hlt, rfl⟩ := List.getElem?_eq_some_iff.mp q
      rw [List.drop_eq_getElem_cons hlt, List.map_cons, List.map_cons, List.cons.injEq] at hv
      obtain ⟨rfl, rfl⟩ := hv
      refine ok_run (show Run (setLoc x (.dat (e xs[k]))) ⟨l, hp⟩ () ⟨upd l x (.dat (e xs[k])), hp⟩ from rfl) ?_
      refine (hstep k _ l hp q hI _ fun K hK => kn_put hK).mono fun f s h => ⟨h.1, h.2.1, ?_⟩
      have h3 := h.2.2
      cases f with
      | brk => exact h3
      | ret r => exact h3
      | next => exact ⟨k + 1, hlt, rfl, h3⟩
      | cont => exact ⟨k + 1, hlt, rfl, h3⟩
/-- the same with a pair of names -/
theorem o_forK2 {α : Type} {body : M Fl} (xs : List α) (e1 e2 : α → PyData) (I : Nat → (Str → Option V) → List AObj → Prop) (h0 : I 0 l hp)
    (hstep : ∀ (k : Nat) (a : α) (l : Str → Option V) (hp : List AObj), xs[k]? = some a → I k l hp → ∀ l' : Str → Option V, (∀ K, Kn K l → Kn ((y, .dat (e2 a)) :: (x, .dat (e1 a)) :: K) l') → Ok body ⟨l', hp⟩ (Cut hp.length (turnQ (fun s => I (k + 1) s.loc s.heap) R)))
    (hend : ∀ l hp, I xs.length l hp → R .next ⟨l, hp⟩) : Ok (forS (two (setLoc x) (setLoc y)) body ((xs.map fun a => .tuple [e1 a, e2 a]).map .dat)) ⟨l, hp⟩ R := by
  refine o_forS (fun vs s => ∃ k, k ≤ xs.length ∧ vs = ((xs.drop k).map fun a => PyData.tuple [e1 a, e2 a]).map V.dat ∧ I k s.loc s.heap) ?_ ?_ ⟨0, Nat.zero_le _, rfl, h0⟩
  · rintro ⟨l, hp⟩ vs ⟨k, hk, hv, hI⟩ rfl
    have : xs.drop k = [] := by simpa using hv.symm
    have : k = xs.length := Nat.le_antisymm hk (List.drop_eq_nil_iff.mp this)
    subst this
    exact hend l hp hI
  · rintro v vs ⟨l, hp⟩ ⟨k, hk, hv, hI⟩
    cases q : xs[k]? with
    | none =>
      rw [List.drop_eq_nil_of_le (List.getElem?_eq_none_iff.mp q)] at hv; cases hv
    | some a =>
      obtain ⟨hlt, rfl⟩ := List.getElem?_eq_some_iff.mp q
      rw [List.drop_eq_getElem_cons hlt, List.map_cons, List.map_cons, List.cons.injEq] at hv
      obtain ⟨rfl, rfl⟩ := hv
      refine ok_run (show Run (two (setLoc x) (setLoc y) (.dat (.tuple [e1 xs[k], e2 xs[k]]))) ⟨l, hp⟩ () ⟨upd (upd l x (.dat (e1 xs[k]))) y (.dat (e2 xs[k])), hp⟩ from rfl) ?_
      refine (hstep k _ l hp q hI _ fun K hK => kn_put (kn_put hK)).mono fun f s h => ⟨h.1, h.2.1, ?_⟩
      have h3 := h.2.2
      cases f with
      | brk => exact h3
      | ret r => exact h3
      | next => exact ⟨k + 1, hlt, rfl, h3⟩
      | cont => exact ⟨k + 1, hlt, rfl, h3⟩
theorem o_forC {body : M Fl} {d : PyData} {vs : List V} (h : ∀ l' : Str → Option V, (∀ K, Kn K l → Kn ((x, .dat d) :: K) l') → Ok body ⟨l', hp⟩ (Cut hp.length (turnQ (fun s => Ok (forS (setLoc x) body vs) s R) R))) : Ok (forS (setLoc x) body (.dat d :: vs)) ⟨l, hp⟩ R := by
  obtain ⟨f, s, e, q⟩ := o_scope (m := setLoc x (.dat d) >>= fun _ => body) (σ := ⟨l, hp⟩) (R := turnQ (fun s => Ok (forS (setLoc x) body vs) s R) R) (ok_run (show Run (setLoc x (.dat d)) ⟨l, hp⟩ () ⟨upd l x (.dat d), hp⟩ from rfl) (h _ fun K hK => kn_put hK))
  have e' : scopeM (do setLoc x (.dat d); body) ⟨l, hp⟩ = some (f, s) := e
  cases f with
  | brk => exact ⟨.next, s, by simp only [forS, e'], q⟩
  | ret r => exact ⟨.ret r, s, by simp only [forS, e'], q⟩
  | next =>
    obtain ⟨g, s', e2, q2⟩ := q
    exact ⟨g, s', by simp only [forS, e', e2], q2⟩
  | cont =>
    obtain ⟨g, s', e2, q2⟩ := q
    exact ⟨g, s', by simp only [forS, e', e2], q2⟩
theorem o_forE {bind : V → M Unit} {body : M Fl} (h : R .next σ) : Ok (forS bind body []) σ R := ⟨_, _, rfl, h⟩
theorem o_for {bind : V → M Unit} {body : M Fl} {it : M V} {b : M Fl} (h : Run it σ v σ1) (k : Ok (forV bind body v) σ1 (thenQ b R)) : Ok (thenM (forM bind body it) b) σ R := o_then (ok_run h k)
theorem o_forDat {bind : V → M Unit} {body : M Fl} {d : PyData} {ds : List PyData} (h : itemsD d = some ds) (k : Ok (forS bind body (ds.map .dat)) σ R) : Ok (forV bind body (.dat d)) σ R := by
  show Ok (match itemsD d with | some ds => forS bind body (ds.map .dat) | none => mfail) σ R
  rw [h]; exact k
theorem o_forRng {bind : V → M Unit} {body : M Fl} {a b : Int} (h : smallR a b = true) (k : Ok (forS bind body ((intsD a b).map .dat)) σ R) : Ok (forV bind body (.rng a b)) σ R := by
  show Ok (if smallR a b = true then forS bind body ((intsD a b).map .dat) else mfail) σ R
  rw [if_pos h]; exact k
theorem o_forObj {bind : V → M Unit} {body : M Fl} {i : Nat} {ds : List PyData} (h : hp[i]? = some (.lst ds)) (k : Ok (forS bind body (ds.map .dat)) ⟨l, hp.set i (.frz ds)⟩ fun f s => R f ⟨s.loc, s.heap.set i (.lst ds)⟩) : Ok (forV bind body (.obj i)) ⟨l, hp⟩ R := by
  obtain ⟨f, s, e, q⟩ := k
  refine ⟨f, _, ?_, q⟩
  show frozenG i _ ⟨l, hp⟩ = _
  unfold frozenG
  simp only [h, e]
/-! comprehensions -/
theorem r_lc {sc : Scope} {bind : V → M Unit} {tests : List (M Bool)} {elt it : M V} {ds : List PyData} (h : Run it σ v σ1) (k : Run (compV sc bind tests elt v) σ1 ds σ1) : Run (lcM sc bind tests elt it) σ (.dat (.list ds)) σ1 := run_bind (run_bind h k) rfl
/-! calls of defs -/
theorem callB_ok {ps : List Str} {mb : M Fl} {vs : List V} {S : V → St → Prop} (hl : ps.length = vs.length) (h : ∀ l', Kn (ps.zip vs) l' → Ok mb ⟨l', hp⟩ fun f s => s.heap.length = hp.length ∧ S (retV f) ⟨l, s.heap⟩) : Ok (callB ps mb vs) ⟨l, hp⟩ S := by
  obtain ⟨f, s, e, q, k⟩ := h _ kn_par
  exact ⟨_, _, callB_same (σ := ⟨l, hp⟩) hl e q, k⟩
end

end Mine
end

section
open PySem
set_option Elab.async false
set_option maxRecDepth 10000
namespace Mine

noncomputable def wf (hp : List AObj) : Bool := hp.all (okO hp.length)

theorem set_back {hp : List AObj} {l : Nat} {o x : AObj} (h : hp[l]? = some o) : (hp.set l x).set l o = hp := by
  rw [List.set_set]
  apply List.ext_getElem?
  intro j
  rw [List.getElem?_set]
  split
  · rename_i hj
    subst hj
    obtain ⟨hlt, e⟩ := List.getElem?_eq_some_iff.mp h
    rw [if_pos hlt, h]
  · rfl

theorem wf_set {hp : List AObj} {l : Nat} {o : AObj} (h : wf hp = true) (ho : okO hp.length o = true) : wf (hp.set l o) = true := by
  unfold wf at *
  rw [List.all_eq_true] at *
  intro x hx
  rw [List.length_set]
  rcases List.mem_or_eq_of_mem_set hx with hx | rfl
  · exact h x hx
  · exact ho

section
variable {Q : Prm} {l l1 l2 l3 : Str → Option V} {hp h1 h2 h3 : List AObj} {σ σ1 σ2 σ3 : St} {x y : Str} {v w : V} {R : Fl → St → Prop}

theorem cv_dat {sc : Scope} {bind : V → M Unit} {tests : List (M Bool)} {elt : M V} {d : PyData} {ds es : List PyData} (h : itemsD d = some ds) (k : Run (compS sc bind tests elt (ds.map .dat)) σ es σ) : Run (compV sc bind tests elt (.dat d)) σ es σ := by
  show Run (match itemsD d with | some ds => compS sc bind tests elt (ds.map .dat) | none => mfail) σ es σ
  rw [h]; exact k
theorem cv_obj {sc : Scope} {bind : V → M Unit} {tests : List (M Bool)} {elt : M V} {n : Nat} {ds es : List PyData} (h : hp[n]? = some (.lst ds)) (k : Run (compS sc bind tests elt (ds.map .dat)) ⟨l, hp.set n (.frz ds)⟩ es ⟨l, hp.set n (.frz ds)⟩) : Run (compV sc bind tests elt (.obj n)) ⟨l, hp⟩ es ⟨l, hp⟩ := by
  show frozenG n _ ⟨l, hp⟩ = _
  unfold frozenG
  have k' : compS sc bind tests elt (ds.map .dat) ⟨l, hp.set n (.frz ds)⟩ = some (es, ⟨l, hp.set n (.frz ds)⟩) := k
  simp only [h, k']
  rw [set_back h]
theorem turn_at {bind : V → M Unit} {tests : List (M Bool)} {elt : M V} {c : Bool} {d : PyData} (hb : Run (bind v) σ () σ1) (ht : Run (allS tests) σ1 c σ1) (he : c = true → Run elt σ1 (.dat d) σ1) : turnM bind tests elt v σ = some (if c then some d else none, σ1) := by
  unfold turnM
  rw [bind_at hb, bind_at ht]
  cases c with
  | false => rfl
  | true =>
    simp only [if_true]
    rw [bind_at (he rfl)]; rfl

theorem compGo_at {α : Type} {bind : V → M Unit} {tests : List (M Bool)} {elt : M V} (hwf : wf hp = true) (I : (Str → Option V) → Prop) (e : α → PyData) (c : α → Bool) (f : α → PyData) :
    ∀ (xs : List α) (loc : Str → Option V), I loc → (∀ a ∈ xs, ∀ loc, I loc → ∃ loc', turnM bind tests elt (.dat (e a)) ⟨loc, hp⟩ = some (if c a then some (f a) else none, ⟨loc', hp⟩) ∧ I (cutL hp.length loc')) →
      ∃ loc', compGo bind tests elt ((xs.map e).map .dat) ⟨loc, hp⟩ = some ((xs.filter c).map f, ⟨loc', hp⟩)
  | [], loc, _, _ => ⟨loc, rfl⟩
  | a :: xs, loc, hI, hs => by
    obtain ⟨loc1, h1, h2⟩ := hs a (.head _) loc hI
    obtain ⟨loc2, h3⟩ := compGo_at hwf I e c f xs _ h2 fun d' hd => hs d' (.tail _ hd)
    refine ⟨loc2, ?_⟩
    have h1' : (do
        bind (.dat (e a))
        let ok ← allS tests
        if ok then (do let x ← elt; let d ← asDat x; mpure (some d)) else mpure none : M (Option PyData)) ⟨loc, hp⟩ = some (if c a then some (f a) else none, ⟨loc1, hp⟩) := h1
    have h3' : compGo bind tests elt ((xs.map e).map .dat) ⟨fun x => (loc1 x).filter (okV hp.length), hp⟩ = some ((xs.filter c).map f, ⟨loc2, hp⟩) := h3
    have hc : cutM hp.length ⟨loc1, hp⟩ = some ⟨fun x => (loc1 x).filter (okV hp.length), hp⟩ := cut_all hwf
    simp only [List.map_cons, compGo, h1', hc, h3']
    rw [List.filter_cons]
    cases c a <;> rfl

theorem kn_upd {K : List (Str × V)} (hK : K.all (fun p => !(p.1 == x)) = true) (h : Kn K l) : Kn K (upd l x v) := fun y w q => by
  have := List.all_eq_true.mp hK _ (mem_of_lookup (lkp_some q).2)
  simp only [Bool.not_eq_true'] at this
  unfold upd
  rw [if_neg (fun e => by rw [beq_iff_eq.mpr e] at this; cases this)]
  exact h y w q

/-- what a comprehension may lean on -/
noncomputable def kOk (sc : Scope) (n : Nat) (xs : List Str) (K : List (Str × V)) : Bool := K.all (fun p => sc.names.lookup p.1 == some .free) && K.all (fun p => okV n p.2) && xs.all fun x => K.all fun p => !(p.1 == x)
theorem kOk_parts {sc : Scope} {n : Nat} {xs : List Str} {K : List (Str × V)} (h : kOk sc n xs K = true) : K.all (fun p => sc.names.lookup p.1 == some .free) = true ∧ K.all (fun p => okV n p.2) = true ∧ ∀ x ∈ xs, K.all (fun p => !(p.1 == x)) = true := by
  unfold kOk at h
  rw [Bool.and_eq_true, Bool.and_eq_true] at h
  exact ⟨h.1.1, h.1.2, List.all_eq_true.mp h.2⟩

theorem comp1 {α : Type} {sc : Scope} {tests : List (M Bool)} {elt : M V} (hw : wf hp = true) {K : List (Str × V)} (h0 : Kn K l) (hK : kOk sc hp.length [x] K = true) {xs : List α} {e : α → PyData} {c : α → Bool} {f : α → PyData} (hb : xs.length ≤ big)
    (ht : ∀ a ∈ xs, ∀ l, Kn ((x, .dat (e a)) :: K) l → Run (allS tests) ⟨l, hp⟩ (c a) ⟨l, hp⟩ ∧ (c a = true → Run elt ⟨l, hp⟩ (.dat (f a)) ⟨l, hp⟩)) :
    Run (compS sc (setLoc x) tests elt ((xs.map e).map .dat)) ⟨l, hp⟩ ((xs.filter c).map f) ⟨l, hp⟩ := by
  obtain ⟨k1, k2, k3⟩ := kOk_parts hK
  have kx := k3 x (.head _)
  obtain ⟨loc', h⟩ := compGo_at (bind := setLoc x) (tests := tests) (elt := elt) hw (Kn K) e c f xs _ (kn_vis k1 h0) fun a ha l hl => by
    obtain ⟨t1, t2⟩ := ht a ha _ (kn_put hl)
    exact ⟨_, turn_at (σ1 := ⟨upd l x (.dat (e a)), hp⟩) rfl t1 t2, kn_cut k2 (kn_upd kx hl)⟩
  have hlen : ((xs.filter c).map f).length ≤ big := by
    rw [List.length_map]; exact Nat.le_trans (List.length_filter_le _ _) hb
  unfold Run compS
  simp only [h, if_pos hlen]
theorem comp1m {α : Type} {sc : Scope} {elt : M V} (hw : wf hp = true) {K : List (Str × V)} (h0 : Kn K l) (hK : kOk sc hp.length [x] K = true) {xs : List α} {e : α → PyData} {f : α → PyData} (hb : xs.length ≤ big)
    (ht : ∀ a ∈ xs, ∀ l, Kn ((x, .dat (e a)) :: K) l → Run elt ⟨l, hp⟩ (.dat (f a)) ⟨l, hp⟩) :
    Run (compS sc (setLoc x) [] elt ((xs.map e).map .dat)) ⟨l, hp⟩ (xs.map f) ⟨l, hp⟩ := by
  have := comp1 (c := fun _ => true) (f := f) (tests := []) hw h0 hK hb fun a ha l hl => ⟨rfl, fun _ => ht a ha l hl⟩
  rwa [List.filter_eq_self.mpr fun _ _ => rfl] at this
theorem as_one {t : M Bool} {b : Bool} (h : Run t σ b σ) : Run (allS [t]) σ b σ := by
  refine run_bind h ?_
  cases b <;> rfl
end

theorem cut_ok {hp : List AObj} {l : Str → Option V} {f : Fl} {R : Fl → St → Prop} (hw : wf hp = true) (hf : okF hp.length f = true) (h : R f ⟨cutL hp.length l, hp⟩) : Cut hp.length R f ⟨l, hp⟩ := by
  refine ⟨hf, ?_, ?_⟩
  · show (hp.take hp.length).all _ = true
    rw [List.take_length]; exact hw
  · show R f ⟨cutL hp.length l, hp.take hp.length⟩
    rw [List.take_length]; exact h

theorem cut_ok' {hp : List AObj} {l : Str → Option V} {f : Fl} {R : Fl → St → Prop} {n : Nat} (hn : hp.length = n) (hw : wf hp = true) (hf : okF n f = true) (h : R f ⟨cutL n l, hp⟩) : Cut n R f ⟨l, hp⟩ := by
  subst hn; exact cut_ok hw hf h

/-! heaps that end in one more list -/
/-! pairs -/
noncomputable def pr (a : Str × Str) : PyData := .tuple [.str a.1, .str a.2]
noncomputable def tinyS (s : Str) : Prop := s.length ≤ 1000
noncomputable def tiny (ps : List (Str × Str)) : Prop := ps.length ≤ 1000 ∧ ∀ p ∈ ps, tinyS p.1 ∧ tinyS p.2
structure Tb (hp : List AObj) (i n : Nat) (ps : List (Str × Str)) : Prop where
  i : hp[i]? = some (.inst (some n))
  n : hp[n]? = some (.lst (ps.map pr))
  wf : wf hp = true
  tiny : tiny ps

theorem tinyS.big {s : Str} (h : tinyS s) : s.length ≤ big := Nat.le_trans h (by decide)
theorem tiny.big {ps : List (Str × Str)} (h : tiny ps) : ps.length ≤ big := Nat.le_trans h.1 (by decide)
theorem low_len (s : Str) : (low s).length = s.length := by
  unfold low mapS Str.length; simp
end Mine
end

section
open PySem
open Mine
local macro_rules | `(tactic| wtm_at $k:str) => do
  let one (w : String) : Lean.MacroM (Lean.TSyntax `tactic) := do
    match w.splitOn ":" with
    | [n, c] =>
      let t0 ← if n == "" then `(tactic| skip) else `(tactic| with_reducible apply $(Lean.mkIdent n.toName))
      c.toList.foldlM (fun (t : Lean.TSyntax `tactic) (ch : Char) =>
        if ch == 'e' || ch == 's' || ch == 'k' then `(tactic| ($t:tactic; (· wtm_at $(Lean.Syntax.mkStrLit (if ch == 'e' then "ev" else if ch == 's' then "sd" else "kn")))))
        else if ch == 'a' then `(tactic| ($t:tactic; (· with_reducible assumption)))
        else if ch == 'r' then `(tactic| ($t:tactic; (· exact rfl)))
        else if ch == 'o' then `(tactic| ($t:tactic; omega))
        else if ch == 'd' then `(tactic| ($t:tactic; decide))
        else if ch == '=' then `(tactic| (guard_target =~ _ = _; first | exact rfl | exact if_pos (by wtm_at "sd")))
        else if ch == 'n' then `(tactic| ($t:tactic; intro _))
        else `(tactic| ($t:tactic; intro $(Lean.mkIdent `l) $(Lean.mkIdent `hk)))) t0
    | _ => Lean.Macro.throwUnsupported
  let alts (s : String) : Lean.MacroM (Lean.TSyntax `tactic) := do
    let ts ← (s.splitOn " ").mapM one
    ts.foldrM (fun (t acc : Lean.TSyntax `tactic) => `(tactic| first | $t:tactic | $acc:tactic)) (← `(tactic| fail))
  match k.getString with
  | "ev" => `(tactic| repeat' wtm_at "ru")
  | "sd" => alts ":a :r leB:r :d :o"
  | "kn" => alts ":a kn_nil: kn_cons:ark"
  | "ru" => alts ":a r_dat: r_name: rd_dat: q_nil: kw_nil: r_pure: r_bin: r_cmp: r_item: r_str: r_im: r_lm: r_blt: r_call: q_cons: kw_cons: r_attr: r_lst: r_tup: r_ownLst: r_list1: r_ownList: r_un: r_slice: r_ownSlice: r_mk: r_setIt: r_join: r_and: t_cmp: t_not: t_and: t_or: t_tru: as_one: a_set: b_addI: b_subI: b_fdiv: b_mod: b_mul: b_addS: b_addL: b_dat: cEqS: cNeS: cEqI: cNeI: c_inst:s c_rd: i_inst:s i_rd: rd_obj:s rd_frz:s s_inst:s s_lst: f_len:r f_lenI:r f_intI: f_str: f_range: f_range2: lo_rng: lo_rd: op_none: op_some: u_neg: ml_append: ml_insert: ml_pop: ml_pop0: ml_rev: ad_nil: ad_cons: conv_at:a m_set:a m_del:a m_at:a m_get:a m_getd:a m_has:a m_len:a m_keys:a m_vals:a m_items:a m_itemsO:a m_all:a m_make0:a m_make1:asra r_ifxB: f_sortS:a f_sortI:a f_max2: f_max1:a ml_index: r_pow: m_beh:a m_cnt:a m_end:a m_add:a r_ownRep: f_min: f_ord: f_chr: := :n :s"
  | "st" => alts "o_assoc: o_endthen: o_asg:eai o_expr:e o_aug:areei o_ret:e o_asgNN:eai o_asg2:eee o_asgIt:ee o_asgSw:eai o_asgAll:eess o_asgAttr:eess o_del:eese o_end:"
  | _ => Lean.Macro.throwUnsupported

section
open PySem
set_option Elab.async false
set_option maxRecDepth 10000
set_option linter.unusedVariables false
namespace Mine
noncomputable def Dinit_b1 (Q : Prm) : M Fl := thenM (exprM (imM Q (nameS x_self) x__convert_string_type [nameS x_k] [(x_name, datM (.bool true))])) (thenM (exprM (imM Q (nameS x_self) x__convert_string_type [nameS x_v] [(x_name, datM (.bool false))])) (endM))
noncomputable def Dinit_r2 (Q : Prm) : M Fl := thenM (asgAttrM (nameS x_self) x__headers (nameS x_headers)) (thenM (ifM (truT (datM (.bool true))) (thenM (forM (two (setLoc x_k) (setLoc x_v)) (Dinit_b1 Q) (nameS x_headers)) (endM)) (endM)) (endM))
noncomputable def Dinit (Q : Prm) : M Fl := thenM (asgM x_headers (ifxM (truT (cmpM Q .IsNot (nameS x_headers) (datM .none))) (nameS x_headers) (ownLstM Q []))) (thenM (ifM (truT (typM .IsNot (nameS x_headers) x_list)) (thenM (mfail) (endM)) (endM)) (Dinit_r2 Q))
noncomputable def Dlen (Q : Prm) : M Fl := thenM (retM (bltM (lenB Q) [attrM (nameS x_self) x__headers])) (endM)
noncomputable def Dall (Q : Prm) : M Fl := thenM (asgM x_name (imM Q (nameS x_self) x__convert_string_type [strM low (nameS x_name)] [(x_name, datM (.bool true))])) (thenM (retM (lcM (fscope [(x_dot0, .local), (x_kv, .local), (x_name, .free)]) (setLoc x_kv) [truT (cmpM Q .Eq (strM low (itemM Q (nameS x_kv) (datM (.int 0)))) (nameS x_name))] (itemM Q (nameS x_kv) (datM (.int 1))) (attrM (nameS x_self) x__headers))) (endM))

section
variable {Q : Prm} {l : Str → Option V} {hp : List AObj} {i n : Nat} {ps : List (Str × Str)} {a b : Str}

theorem conv_at {σ : St} {o : Nat} {x : Str} {c : Bool} (hQ : Q.mt sConv = convP) (hx : x.length ≤ big) : Run (Q.mt x__convert_string_type (.obj o) [.dat (.str x)] [(x_name, .dat (.bool c))]) σ (.dat (.str x)) σ := by
  show Q.mt sConv (.obj o) [.dat (.str x)] [(sName, .dat (.bool c))] σ = _
  rw [hQ]; exact convP_at hx

theorem low_big (ha : tinyS a) : (low a).length ≤ big := by rw [low_len]; exact ha.big
theorem pr0 {p : Str × Str} : itemD (pr p) (.int 0) = some (.str p.1) := rfl
theorem pr1 {p : Str × Str} : itemD (pr p) (.int 1) = some (.str p.2) := rfl

theorem body_len (t : Tb hp i n ps) (hk : Kn [(x_self, .obj i)] l) : Ok (Dlen Q) ⟨l, hp⟩ fun f s => f = .ret (.dat (.int ps.length)) ∧ s.heap = hp := by
  have h1 := t.i
  have h2 : hp[n]? = some (.lst (ps.map pr)) := t.n
  unfold Dlen
  have h3 : isInst (.obj n) ⟨l, hp⟩ = false := by unfold isInst; simp only [h2]
  have h4 : Run (lenB Q [.obj n]) ⟨l, hp⟩ (.dat (.int ps.length)) ⟨l, hp⟩ := f_len h3 (rd_obj h2) (by simp [lenD]) t.tiny.big
  wtm_at "st"
  exact ⟨rfl, rfl⟩

noncomputable def allP (ps : List (Str × Str)) (a : Str) : List Str := (ps.filter fun p => low p.1 == low a).map (·.2)
theorem body_all (hQ : Q.mt sConv = convP) (t : Tb hp i n ps) (ha : tinyS a) (hk : Kn [(x_self, .obj i), (x_name, .dat (.str a))] l) : Ok (Dall Q) ⟨l, hp⟩ fun f s => f = .ret (.dat (.list ((allP ps a).map .str))) ∧ s.heap = hp := by
  have h1 := t.i
  have h2 := ha.big
  have h3 := low_big ha
  unfold Dall
  wtm_at "st"
  rename_i l hk
  refine o_ret (r_lc (v := .obj n) (σ1 := ⟨l, hp⟩) (by wtm_at "ev") (cv_obj t.n (comp1 (c := fun p => low p.1 == low a) (f := fun p => .str p.2) (K := [(x_name, .dat (.str (low a)))]) (wf_set t.wf rfl) (by wtm_at "kn") rfl t.tiny.big fun p hp l hl => ?_))) ⟨by unfold allP; rw [List.map_map]; rfl, rfl⟩
  have hpb := (t.tiny.2 p hp).1.big
  have h0 := pr0 (p := p)
  have h1 := pr1 (p := p)
  exact ⟨by wtm_at "ev", fun _ => by wtm_at "ev"⟩

end
end Mine
end

section
open PySem
set_option Elab.async false
set_option maxRecDepth 10000
set_option linter.unusedVariables false
namespace Mine

section
variable {Q : Prm} {l : Str → Option V} {hp : List AObj} {i n : Nat} {ps : List (Str × Str)} {a b : Str} {d : PyData}

/-! what the methods do on a table -/
noncomputable def MLen (Q : Prm) : Prop := ∀ {hp : List AObj} {i n : Nat} {ps : List (Str × Str)} {l : Str → Option V}, Tb hp i n ps → Run (Q.mt x___len__ (.obj i) [] []) ⟨l, hp⟩ (.dat (.int ps.length)) ⟨l, hp⟩
noncomputable def MAll (Q : Prm) : Prop := ∀ {hp : List AObj} {i n : Nat} {ps : List (Str × Str)} {a : Str} {l : Str → Option V}, Tb hp i n ps → tinyS a → Run (Q.mt x_get_all (.obj i) [.dat (.str a)] []) ⟨l, hp⟩ (.dat (.list ((allP ps a).map .str))) ⟨l, hp⟩
noncomputable def MMake1 (Q : Prm) : Prop := ∀ {hp : List AObj} {n : Nat} {ps : List (Str × Str)} {l : Str → Option V}, hp[n]? = some (.lst (ps.map pr)) → wf hp = true → tiny ps → Run (Q.make [.obj n]) ⟨l, hp⟩ (.obj hp.length) ⟨l, hp ++ [.inst (some n)]⟩

theorem m_len (h : MLen Q) (t : Tb hp i n ps) : Run (Q.mt x___len__ (.obj i) [] []) ⟨l, hp⟩ (.dat (.int ps.length)) ⟨l, hp⟩ := h t
theorem m_all (h : MAll Q) (t : Tb hp i n ps) (ha : tinyS a) : Run (Q.mt x_get_all (.obj i) [.dat (.str a)] []) ⟨l, hp⟩ (.dat (.list ((allP ps a).map .str))) ⟨l, hp⟩ := h t ha
theorem m_make1 (h : MMake1 Q) (hn : hp[n]? = some (.lst (ps.map pr))) (hw : wf hp = true) (ht : tiny ps) : Run (Q.make [.obj n]) ⟨l, hp⟩ (.obj hp.length) ⟨l, hp ++ [.inst (some n)]⟩ := h hn hw ht


theorem r_typL {m : M V} {σ : St} {j : Nat} {l1 : Str → Option V} {h1 : List AObj} {ds : List PyData} (h : Run m σ (.obj j) ⟨l1, h1⟩) (hj : h1[j]? = some (.lst ds)) : Run (typM .IsNot m x_list) σ (.dat (.bool false)) ⟨l1, h1⟩ := by
  have e : Run (typeN (.obj j)) ⟨l1, h1⟩ (Str.ofString "list") ⟨l1, h1⟩ := by unfold Run typeN; simp only [hj]
  exact run_bind h (run_bind e rfl)
theorem tr_debug {σ : St} : Run (truT (datM (.bool true))) σ true σ := rfl
theorem init_loop (hQ : Q.mt sConv = convP) {P : Fl → St → Prop} (hi : hp[i]? = some (.inst (some n))) (hw : wf hp = true) (hP : ∀ l, P .next ⟨l, hp⟩) (ps : List (Str × Str)) (ht : ∀ p ∈ ps, tinyS p.1 ∧ tinyS p.2) (hk : Kn [(x_self, .obj i)] l) : Ok (forS (two (setLoc x_k) (setLoc x_v)) (Dinit_b1 Q) ((ps.map pr).map .dat)) ⟨l, hp⟩ P := by
  have hlt : i < hp.length := (List.getElem?_eq_some_iff.mp hi).1
  refine o_forK2 (x := x_k) (y := x_v) ps (fun p => .str p.1) (fun p => .str p.2) (fun k l h => h = hp ∧ Kn [(x_self, .obj i)] l) ⟨rfl, hk⟩ ?_ (fun l h q => q.1 ▸ hP l)
  rintro k p l h' hp' ⟨rfl, hk⟩ l' hl
  have hk := hl _ hk
  have hp1 := (ht p (List.mem_of_getElem? hp')).1.big
  have hp2 := (ht p (List.mem_of_getElem? hp')).2.big
  unfold Dinit_b1
  wtm_at "st"
  wtm_at "st"
  refine o_end (cut_ok hw rfl ⟨rfl, kn_cut (by simp [okV, hlt]) ?_⟩)
  wtm_at "kn"

theorem body_init1 (hQ : Q.mt sConv = convP) (hi : hp[i]? = some (.inst none)) (hn : hp[n]? = some (.lst (ps.map pr))) (ht : tiny ps) (hw : wf hp = true) (hk : Kn [(x_self, .obj i), (x_headers, .obj n)] l) : Ok (Dinit Q) ⟨l, hp⟩ fun f s => f = .next ∧ s.heap = hp.set i (.inst (some n)) := by
  have hlt : i < hp.length := (List.getElem?_eq_some_iff.mp hi).1
  have hln : n < hp.length := (List.getElem?_eq_some_iff.mp hn).1
  have hne : i ≠ n := by
    rintro rfl
    have := hi.symm.trans hn
    cases this
  unfold Dinit
  refine o_asg (v := .obj n) (l1 := l) (h1 := hp) (r_ifx1 (σ1 := ⟨l, hp⟩) (t_bool (r_cmp (v := .obj n) (by wtm_at "ev") (by wtm_at "ev") (c_rd (rd_obj hn) rd_dat rfl))) (by wtm_at "ev")) hk fun l hk => ?_
  refine o_if0 (t_bool (r_typL (r_name hk rfl) hn)) ?_
  apply o_endthen
  unfold Dinit_r2
  wtm_at "st"
  have h3 : (hp.set i (.inst (some n)))[n]? = some (.lst (ps.map pr)) := by
    rw [List.getElem?_set_ne hne]; exact hn
  have h4 : (hp.set i (.inst (some n)))[i]? = some (.inst (some n)) := by rw [List.getElem?_set_self hlt]
  apply o_if1 tr_debug
  apply o_assoc
  apply o_for
  · wtm_at "ev"
  refine o_forObj h3 (init_loop hQ (i := i) (n := n) ?_ ?_ ?_ ps ht.2 (by wtm_at "kn"))
  · rw [List.getElem?_set_ne (Ne.symm hne)]; exact h4
  · exact wf_set (wf_set hw (by simp [okO, hln])) rfl
  · intro l
    show Ok (thenM endM endM) _ _
    refine o_endthen (o_end ⟨rfl, ?_⟩)
    exact set_back h3
end
end Mine
end

section
open PySem
set_option Elab.async false
set_option maxRecDepth 10000
set_option linter.unusedVariables false
namespace Mine

theorem run_of_ok {α : Type} {m : M α} {σ σ' : St} {v : α} (h : Ok m σ fun a s => a = v ∧ s = σ') : Run m σ v σ' := by
  obtain ⟨a, s, e, rfl, rfl⟩ := h; exact e

noncomputable def IsDen (T : Tab) (name : Str) (ps : List Str) (dflt : List Const) (D : Prm → M Fl) : Prop := ∃ f, T.mt name = some ⟨f, ps, dflt, D⟩
noncomputable def IsDenF (T : Tab) (name : Str) (ps : List Str) (D : Prm → M Fl) : Prop := ∃ f, T.fn name = some ⟨f, ps, [], D⟩

section
variable {hp : List AObj} {i n : Nat} {ps : List (Str × Str)} {a b : Str} {l : Str → Option V}
variable {T : Tab} {k : Nat}

theorem prm_conv : (prm T (k + 1)).mt sConv = convP := by
  funext self vs ks
  show (if sConv = sConv then convP self vs ks else match T.mt sConv with | some i => if ks.isEmpty then runI (prm T k) i (self :: vs) else mfail | none => mfail) = _
  rw [if_pos rfl]
theorem mt_run {name : Str} {j : Info} {self : V} {vs : List V} (hn : (name == sConv) = false) (hT : T.mt name = some j) : (prm T (k + 1)).mt name self vs [] = runI (prm T k) j (self :: vs) := by
  show (if name = sConv then convP self vs [] else match T.mt name with | some i => if ([] : List (Str × V)).isEmpty then runI (prm T k) i (self :: vs) else mfail | none => mfail) = _
  rw [if_neg (by intro e; subst e; simp at hn), hT]; rfl
theorem fn_run {name : Str} {j : Info} {vs : List V} (hT : T.fn name = some j) : (prm T (k + 1)).fn name vs = runI (prm T k) j vs := by
  show (match T.fn name with | some i => runI (prm T k) i vs | none => mfail) = _
  rw [hT]

theorem mt_at {name : Str} {ps : List Str} {dflt : List Const} {D : Prm → M Fl} {self : V} {vs ws : List V} {r : V} {hp' : List AObj} (hn : (name == sConv) = false) (hd : IsDen T name ps dflt D) (hf : ∀ f, fill ⟨f, ps, dflt, D⟩ (self :: vs) = ws) (hl : ps.length = ws.length) (hlen : hp'.length = hp.length)
    (h : ∀ l', Kn (ps.zip ws) l' → Ok (D (prm T k)) ⟨l', hp⟩ fun f s => retV f = r ∧ s.heap = hp') : Run ((prm T (k + 1)).mt name self vs []) ⟨l, hp⟩ r ⟨l, hp'⟩ := by
  obtain ⟨f, hT⟩ := hd
  rw [mt_run hn hT]
  unfold runI
  rw [hf]
  refine run_of_ok (callB_ok hl fun l' hk => (h l' hk).mono fun f s q => ⟨by rw [q.2]; exact hlen, q.1, by rw [q.2]⟩)
theorem fn_at {name : Str} {ps : List Str} {D : Prm → M Fl} {vs : List V} {r : V} {hp' : List AObj} (hd : IsDenF T name ps D) (hl : ps.length = vs.length) (hlen : hp'.length = hp.length)
    (h : ∀ l', Kn (ps.zip vs) l' → Ok (D (prm T k)) ⟨l', hp⟩ fun f s => retV f = r ∧ s.heap = hp') : Run ((prm T (k + 1)).fn name vs) ⟨l, hp⟩ r ⟨l, hp'⟩ := by
  obtain ⟨f, hT⟩ := hd
  rw [fn_run hT]
  unfold runI
  have hf : fill ⟨f, ps, [], D⟩ vs = vs := by unfold fill; simp [kwD]
  rw [hf]
  refine run_of_ok (callB_ok hl fun l' hk => (h l' hk).mono fun f s q => ⟨by rw [q.2]; exact hlen, q.1, by rw [q.2]⟩)

theorem fq {m : M Fl} {σ : St} {f : Fl} {h : List AObj} {r : V} (q : Ok m σ fun g s => g = f ∧ s.heap = h) (e : retV f = r) : Ok m σ fun g s => retV g = r ∧ s.heap = h := q.mono fun g s z => ⟨by rw [z.1]; exact e, z.2⟩

theorem tb_len (d : IsDen T x___len__ [x_self] [] Dlen) : MLen (prm T (k + 1)) := fun {hp i n ps l} t => mt_at (ws := [.obj i]) (by decide) d (fun _ => rfl) rfl rfl fun l' hk => fq (body_len t hk) rfl
theorem tb_all (d : IsDen T x_get_all [x_self, x_name] [] Dall) : MAll (prm T (k + 2)) := fun {hp i n ps a l} t ha =>
  mt_at (ws := [.obj i, .dat (.str a)]) (by decide) d (fun _ => rfl) rfl rfl fun l' hk => fq (body_all (prm_conv (k := k)) t ha hk) rfl

theorem wf_app {hp : List AObj} (hw : wf hp = true) : wf (hp ++ [.inst none]) = true := by
  unfold wf at *
  rw [List.all_eq_true] at *
  intro o ho
  rw [List.length_append]
  rcases List.mem_append.mp ho with ho | ho
  · have := hw o ho
    cases o with
    | inst q =>
      cases q with
      | none => rfl
      | some l' => exact decide_eq_true (Nat.lt_add_right _ (of_decide_eq_true this))
    | _ => rfl
  · rw [List.mem_singleton.mp ho]; rfl
theorem tb_make1 {f : Addr} (hT : T.init = ⟨f, [x_self, x_headers], [.none], Dinit⟩) : MMake1 (prm T (k + 2)) := fun {hp n ps l} hn hw ht => by
  have hln : n < hp.length := (List.getElem?_eq_some_iff.mp hn).1
  show Run (makeM (fun self ws => runI (prm T (k + 1)) T.init (self :: ws)) [.obj n]) _ _ _
  unfold makeM
  refine run_bind (show Run (newObj (.inst none)) ⟨l, hp⟩ (.obj hp.length) ⟨l, hp ++ [.inst none]⟩ from rfl) (run_bind (a := V.dat PyData.none) (σ1 := ⟨l, hp ++ [AObj.inst (some n)]⟩) ?_ rfl)
  rw [hT]
  unfold runI
  simp only
  have hfill : fill ⟨f, [x_self, x_headers], [.none], Dinit⟩ [.obj hp.length, .obj n] = [.obj hp.length, .obj n] := rfl
  rw [hfill]
  refine run_of_ok (callB_ok rfl fun l' hk => (body_init1 (Q := prm T (k + 1)) (hp := hp ++ [.inst none]) (i := hp.length) (n := n) (prm_conv (T := T) (k := k)) (by simp) (by rw [List.getElem?_append_left hln]; exact hn) ht (wf_app hw) hk).mono fun f s q => ?_)
  obtain ⟨rfl, hq⟩ := q
  rw [hq]
  exact ⟨by simp, rfl, by simp⟩
end
end Mine
end

section
open PySem
set_option Elab.async false
set_option maxRecDepth 10000
set_option linter.unusedVariables false
namespace Mine

/-! data -/
section
variable {α : Type} [DecidableEq α] {e : α → PyData}
theorem eqvAll_map (h : ∀ a b, PyData.eqv (e a) (e b) = decide (a = b)) : ∀ xs ys : List α, PyData.eqvAll (xs.map e) (ys.map e) = decide (xs = ys)
  | [], [] => by simp [PyData.eqvAll]
  | [], _ :: _ => by simp [PyData.eqvAll]
  | _ :: _, [] => by simp [PyData.eqvAll]
  | x :: xs, y :: ys => by
    simp only [List.map_cons, PyData.eqvAll, h, eqvAll_map h xs ys, List.cons.injEq]
    rw [Bool.decide_and]
theorem depthAll_map {n : Nat} (h : ∀ a, PyData.depth (e a) ≤ n) : ∀ xs : List α, PyData.depthAll (xs.map e) ≤ n
  | [] => by simp [PyData.depthAll]
  | x :: xs => by
    simp only [List.map_cons, PyData.depthAll]
    have := h x
    have := depthAll_map h xs
    omega
theorem cEqL (h : ∀ a b, PyData.eqv (e a) (e b) = decide (a = b)) (hd : ∀ a, PyData.depth (e a) ≤ 10) {xs ys : List α} : cmpD .Eq (.list (xs.map e)) (.list (ys.map e)) = some (decide (xs = ys)) := by
  show (if min (PyData.depth (.list (xs.map e))) (PyData.depth (.list (ys.map e))) ≤ 50 then some (PyData.eqv (.list (xs.map e)) (.list (ys.map e))) else none) = _
  have := depthAll_map hd xs
  have := depthAll_map hd ys
  rw [if_pos (by simp only [PyData.depth]; omega)]
  simp only [PyData.eqv, eqvAll_map h]
theorem cNeL (h : ∀ a b, PyData.eqv (e a) (e b) = decide (a = b)) (hd : ∀ a, PyData.depth (e a) ≤ 10) {xs ys : List α} : cmpD .NotEq (.list (xs.map e)) (.list (ys.map e)) = some (!decide (xs = ys)) := by
  show (if min (PyData.depth (.list (xs.map e))) (PyData.depth (.list (ys.map e))) ≤ 50 then some (!PyData.eqv (.list (xs.map e)) (.list (ys.map e))) else none) = _
  have := depthAll_map hd xs
  have := depthAll_map hd ys
  rw [if_pos (by simp only [PyData.depth]; omega)]
  simp only [PyData.eqv, eqvAll_map h]
end
theorem eqv_str (x y : Str) : PyData.eqv (.str x) (.str y) = decide (x = y) := by simp [PyData.eqv]; rfl
theorem cNeStrs {ps qs : List Str} : cmpD .NotEq (.list (ps.map .str)) (.list (qs.map .str)) = some (!decide (ps = qs)) := cNeL eqv_str (by simp [PyData.depth])
theorem cEqStrs {ps qs : List Str} : cmpD .Eq (.list (ps.map .str)) (.list (qs.map .str)) = some (decide (ps = qs)) := cEqL eqv_str (by simp [PyData.depth])
theorem idx_nat {k n : Nat} (h : k < n) : seqIndex? (k : Int) n = some k := by
  unfold seqIndex?
  simp only [show ¬ ((k : Int) < 0) by omega, if_false]
  rw [if_pos (by simp; omega)]; simp
theorem item_map {α : Type} {e : α → PyData} {xs : List α} {k : Nat} {a : α} (h : xs[k]? = some a) : itemD (.list (xs.map e)) (.int k) = some (e a) := by
  have hk : k < xs.length := (List.getElem?_eq_some_iff.mp h).1
  show (seqIndex? _ _).bind _ = _
  rw [idx_nat (by rw [List.length_map]; exact hk)]
  simp [h]
/-- one sign -/
noncomputable def ch (c : Nat) : Str := ⟨#[c]⟩
theorem low_ch (c : Nat) : low (ch c) = ch (lowC c) := rfl
theorem ch_inj {a b : Nat} : ch a = ch b ↔ a = b := by
  unfold ch; simp
theorem ch_tiny (c : Nat) : tinyS (ch c) := by unfold tinyS ch Str.length; simp
theorem item_str {s : Str} {k : Nat} {c : Nat} (h : s.cps.toList[k]? = some c) : itemD (.str s) (.int k) = some (.str (ch c)) := by
  have hk : k < s.cps.toList.length := (List.getElem?_eq_some_iff.mp h).1
  show ((seqIndex? _ _).bind _).map _ = _
  rw [idx_nat (n := s.length) (by unfold Str.length; simpa using hk)]
  have : s.cps[k]? = some c := by rw [← h]; simp
  simp only [Option.bind_some, this, Option.map_some]; rfl
theorem fmod_range {n m : Int} (h : 0 < m) : 0 ≤ n.fmod m ∧ n.fmod m < m := ⟨Int.fmod_nonneg_of_pos _ h, Int.fmod_lt_of_pos _ h⟩
theorem app_len (a b : Str) : (a ++ b).length = a.length + b.length := by
  show (a.cps ++ b.cps).size = _
  simp [Str.length]
theorem Str.ext' {a b : Str} (h : a.cps.toList = b.cps.toList) : a = b := by
  cases a; cases b; simp at h; subst h; rfl

theorem strI_tiny64 : ∀ k : Nat, k < 128 → tinyS (strI k) := by
  unfold tinyS
  decide +kernel

end Mine
end

section
open PySem
set_option Elab.async false
set_option maxRecDepth 10000
set_option linter.unusedVariables false
namespace Mine
theorem small_int {k : Nat} (h : k ≤ 1000) : smallI (.int (k : Int)) = true := by
  show decide _ = true
  exact decide_eq_true ⟨by omega, by omega⟩
theorem smallR0 {n : Nat} (h : n ≤ 1000) : smallR 0 n = true := decide_eq_true ⟨by decide, by omega, by unfold big; omega⟩
theorem ints0 (n : Nat) : intsD 0 n = (List.range n).map fun k : Nat => .int (0 + (k : Int)) := by
  unfold intsD
  rw [show ((n : Int) - 0).toNat = n by omega]

theorem small100 {k : Nat} (h : k ≤ 1000) : ((k : Int)).natAbs < 10 ^ 100 := Nat.lt_of_lt_of_le (show ((k : Int)).natAbs < 10000 by omega) (by decide)
end Mine
end

section
open PySem PySem.W PyProof.Rows
set_option Elab.async false
set_option maxRecDepth 10000
namespace Mine

theorem mem_of_look {α : Type} {l : List (Str × α)} {x : Str} {a : α} (h : l.lookup x = some a) : (x, a) ∈ l := by
  induction l with
  | nil => cases h
  | cons p l ih =>
    obtain ⟨y, b⟩ := p
    rw [List.lookup_cons] at h
    split at h
    · rename_i hxy
      cases h
      rw [beq_iff_eq.mp hxy]; exact .head _
    · exact .tail _ (ih h)

theorem ints_DR {h : Heap} {ok : Addr → Prop} : ∀ {vs : List Value} {is : List Int}, IntsAre vs is → DRs h ok (is.map .int) vs
  | _, _, .nil => by simp [DRs]
  | _, _, .cons n t hI => by
    simp only [List.map_cons, DRs]
    exact ⟨_, _, rfl, by simp only [DR]; exact ⟨t, rfl⟩, ints_DR hI⟩

noncomputable def scr (is : List Int) : Str → Option V := fun x => if x = x_script then some (.dat (.list (is.map .int))) else none

theorem kn_scr {is : List Int} : Kn [(x_script, .dat (.list (is.map .int)))] (scr is) := fun x v h => by
  obtain ⟨_, h2⟩ := lkp_some h
  rw [List.lookup_cons] at h2
  unfold scr
  cases q : x == x_script with
  | true => rw [q] at h2; cases h2; rw [if_pos (beq_iff_eq.mp q)]
  | false => rw [q] at h2; cases h2

theorem start_of {X : Cx} {name : Str} {sc : Scope} {L fa a : Addr} {cd : Value} {h : Heap} {is : List Int} {vs : List Value} (F : Fr X.base L h fun x => List.lookup x [(Str.ofString "script", Value.ref a)].reverse) (hL : X.base.get? L = none) (hk : sc.kind = .function)
    (hsc : sc.names.lookup (Str.ofString "script") = some .local) (hl : X.base.IsList a vs.toArray) (hI : IntsAre vs is) :
    Rel X [L] [] (envOf name sc L fa cd) ⟨scr is, []⟩ h := by
  refine start_rel F hL hk fun x v e => ?_
  unfold scr at e
  split at e
  · rename_i hx
    subst hx
    cases e
    refine ⟨hsc, .ref a, rfl, ?_⟩
    obtain ⟨o, h1, h2, n, h3⟩ := hl
    simp only [VR, DR]
    exact ⟨a, o, vs.toArray, n, rfl, ⟨o, h1⟩, h1, h2, h3, by simpa using ints_DR hI⟩
  · cases e

theorem link_of {X : Cx} {s₁ : Shared} {name : Str} {fa a : Addr} {cd : Value} {h₁ : Heap} {is : List Int} {vs : List Value} {sc : Scope} {body : List Stmt} {c : ClaimW} {cl : Str → Option Addr} {mean : ExcName → Option Value} {args : List WData} {tk : Nat} {E : Value → Shared → Prop}
    {T : Tab} {den : Prm → M Fl} (hb : X.base = s₁.heap) (ok : CxOk X) (to : TabOk X T) (F : Fr s₁.heap s₁.heap.objs.size h₁ fun x => List.lookup x [(Str.ofString "script", Value.ref a)].reverse)
    (hl : s₁.heap.IsList a vs.toArray) (hI : IntsAre vs is) (hg : s₁.gens = #[]) (hn : ∀ cls, c.raises args cls = false) (hp : c.post args (.bool true) args = true)
    (hk : sc.kind = .function) (hsc : sc.names.lookup (Str.ofString "script") = some .local) (hcl : ((cellsFrom 0 sc.names []).map (·.1)) = []) (hden : ∀ (n : Nat) (P : Prm), PrmOk X n P → ExsR X (n + 1) (fnEnv sc) body (den P))
    (hpure : Ok (den (prm T 20)) ⟨scr is, []⟩ fun f _ => f = .ret (.dat (.bool true))) :
    wpAny (model X.prog X.w) (callerA.deeper (envOf name sc s₁.heap.objs.size fa cd)) (execs body (envOf name sc s₁.heap.objs.size fa cd)) (fun f s' => GoodW c cl mean args s₁ (.ok (.ret (match f with | .ret v => v | _ => .none))) s') E
      { heap := h₁, gens := s₁.gens, drawn := s₁.drawn, toks := tk, os := s₁.os } := by
  obtain ⟨f, σ', e, rfl⟩ := hpure
  obtain ⟨prog, w, base, C, K, mg, mb⟩ := X
  have hb' : base = s₁.heap := hb
  subst hb'
  have R := start_of (X := ⟨prog, w, s₁.heap, C, K, mg, mb⟩) (name := name) (fa := fa) (cd := cd) F (fresh_size _) hk hsc hl hI
  have hs : SameEnv (fnEnv sc) (envOf name sc s₁.heap.objs.size fa cd) := ⟨rfl, isSome_keys hcl, rfl⟩
  refine wpAny_mono (law_run (s := { heap := h₁, gens := s₁.gens, drawn := s₁.drawn, toks := tk, os := s₁.os }) ok to 20 hs hden ⟨rfl, ?_, ?_⟩ R e) (fun f s' z => ?_) fun _ _ z => z.elim
  · show 302 + 4 * (3 * 20 + 1) ≤ 900; decide
  · show 7 + 40 * (3 * 20 + 1) ≤ 9000; decide
  · obtain ⟨rfl, ⟨hp', tk', rfl⟩, m, F'⟩ := z
    exact goodW_bool F' hg hn hp rfl

end Mine
end

section
open PySem PySem.W PyProof.Rows
set_option Elab.async false
set_option maxRecDepth 10000
namespace Mine

section
variable {X : Cx} {h : Heap}
end
end Mine
end

section
open PySem
set_option Elab.async false
set_option maxRecDepth 10000
namespace Mine

/-! int of a text -/
noncomputable def intB : List V → M V
  | [.dat (.str x)] => if x.length ≤ 640 then mopt ((PySem.intText? x).map fun n => .dat (.int n)) else mfail
  | _ => mfail
section
variable {X : Cx} {n : Nat} {env : Env} {P : Prm} {A : Around} {ρ : List Addr} {μ : Mu} {σ : St} {s : Shared}
theorem val_int (ok : CxOk X) : gval X (Str.ofString "int") = some (.type "int") := blt_val ok (by unfold bltNames; decide) (by decide) (by decide +kernel)
theorem W_intB (R : Rel X ρ μ env σ s.heap) {vs : List V} {xs : List Value} (hv : VRl s.heap (okOf ρ μ) μ vs xs) : W X A ρ μ env s VRr (call (.type "int") xs []) (intB vs σ) := by
  intro v σ' q
  match vs, q, hv with
  | [.dat (.str x)], q, hv =>
    simp only [intB] at q
    split at q
    · rename_i hl
      obtain ⟨q, h2⟩ := mopt_some q
      obtain ⟨k, e, rfl⟩ := Option.map_eq_some_iff.mp q
      subst h2
      obtain ⟨y, r, h1, h2, h3⟩ := hv
      rw [h1, show r = [] from h3]
      have h2' : DR _ _ _ _ := h2
      simp only [DR] at h2'
      obtain ⟨_, t, rfl⟩ := h2'
      exact W.KIN.call_text e hl (post_tok R _ VR_int)
    · cases q
end
section
variable {X : Cx} {n : Nat} {se : Env} {es : List Expr} {ms : List (M V)} {pos p : Pos}
theorem D_intB (ok : CxOk X) (h : EvLR X (n + 1) se es ms) (hst : es.all noStar = true) (hk : gKind se (Str.ofString "int") = true) : EvR X (n + 1) se (.Call (.Name (Str.ofString "int") p) es [] pos) (bltM intB ms) := fun v hs => Ev_BltT ok (val_int ok) (h v hs) hst (by rw [← hs.gKind]; exact hk) fun ga R hv => W_intB R hv
end
theorem f_int {σ : St} {x : Str} {n : Int} (hl : x.length ≤ 640) (h : PySem.intText? x = some n) : Run (intB [.dat (.str x)]) σ (.dat (.int n)) σ := by
  show (if x.length ≤ 640 then mopt ((PySem.intText? x).map fun n => V.dat (.int n)) else mfail) σ = _
  rw [if_pos hl, h]; rfl
theorem f_intI {σ : St} {n : Int} (h : 0 ≤ n ∧ n < 10 ^ 10) : Run (intB [.dat (.str (strI n))]) σ (.dat (.int n)) σ := f_int (Nat.le_trans (W.KT.len_num h.1 h.2) (by decide)) (W.KIN.num_reads h.1 h.2)
end Mine
end

section
open PySem
set_option Elab.async false
set_option maxRecDepth 10000
set_option linter.unusedVariables false
namespace Mine

/-! sorted -/
noncomputable def leI (a b : Int) : Bool := decide (a ≤ b)
noncomputable def sortI (ns : List Int) : List Int := ns.mergeSort leI
theorem sortI_srt (ns : List Int) : (sortI ns).Pairwise fun a b => leI a b = true := List.pairwise_mergeSort (le := leI) (fun a b c h1 h2 => decide_eq_true (Int.le_trans (of_decide_eq_true h1) (of_decide_eq_true h2))) (fun a b => by
  rw [Bool.or_eq_true]
  exact (Int.le_total a b).imp decide_eq_true decide_eq_true) ns
theorem sortI_eq {a b : List Int} (hp : a.Perm b) (ha : a.Pairwise fun a b => leI a b = true) : a = sortI b :=
  List.Perm.eq_of_pairwise (fun x y _ _ h1 h2 => Int.le_antisymm (of_decide_eq_true h1) (of_decide_eq_true h2)) ha (sortI_srt b) (hp.trans (List.mergeSort_perm b leI).symm)

noncomputable def intsOf : List PyData → Option (List Int)
  | [] => some []
  | .int x :: ds => (intsOf ds).map (x :: ·)
  | _ :: _ => none
open PyProof.Rows in
open PyProof.Rows in
open PyProof.Rows in
open PyProof.Rows in
open PyProof.Rows in
open PyProof.Rows in
section
variable {X : Cx} {n : Nat} {env : Env} {P : Prm} {A : Around} {ρ : List Addr} {μ : Mu} {σ : St} {s : Shared}
theorem val_sorted (ok : CxOk X) : gval X (Str.ofString "sorted") = some (.builtin "sorted") := blt_val ok (by unfold bltNames; decide) (by decide) (by decide +kernel)
open PyProof.Rows in
open PyProof.Rows in
open PyProof.Rows in
end
section
variable {X : Cx} {n : Nat} {se : Env} {es : List Expr} {ms : List (M V)} {pos p : Pos}
end
theorem intsOf_map : ∀ ss : List Int, intsOf (ss.map .int) = some ss
  | [] => rfl
  | x :: ss => by show (intsOf (ss.map .int)).map (x :: ·) = _; rw [intsOf_map ss]; rfl
end Mine
end

section
open PySem
set_option Elab.async false
set_option maxRecDepth 10000
set_option linter.unusedVariables false
namespace Mine

/-! zip -/
/-- what an iterator gives, one by one -/
structure Nx (prog : Program) (w : World) (i : Addr) (fp : List Addr) (n : Nat) (P : Nat → Value → Prop) (St : Nat → Heap → Prop) : Prop where
  keep : ∀ k h h', St k h → (∀ b ∈ fp, ∀ o, h.get? b = some o → h'.get? b = some o) → St k h'
  live : ∀ k h, St k h → ∃ o, h.get? i = some o
  item : ∀ (A : Around) (k : Nat) (s : Shared) (Q : Value → Shared → Prop) (E : Value → Shared → Prop), k < n → St k s.heap → (∀ v h' tk, P k v → St (k + 1) h' → Heap.SameBut i s.heap h' → Q v { s with heap := h', toks := tk }) →
    wpAny (model prog w) A (Builtin.SmallTypes.nextOf (.ref i)) Q E s
  done : ∀ (A : Around) (s : Shared) (Q : Value → Shared → Prop) (E : Value → Shared → Prop), A.handled = none → St n s.heap → (∀ h' e, Heap.ExtBut i s.heap h' → (∃ o, h'.get? e = some o ∧ o.cls = .type "StopIteration") → E (.ref e) { s with heap := h' }) →
    wpAny (model prog w) A (Builtin.SmallTypes.nextOf (.ref i)) Q E s
section
variable {prog : Program} {w : World}
theorem nx_list {i l : Addr} (hne : l ≠ i) (vs : Array Value) : Nx prog w i [i, l] vs.size (fun k v => vs[k]? = some v) (fun k h => h.IsListIter i l k ∧ h.IsList l vs) where
  keep := fun k h h' st hk => ⟨st.1.at fun o e => hk i (by simp) o e, st.2.at fun o e => hk l (by simp) o e⟩
  live := fun k h st => by obtain ⟨o, e, _⟩ := st.1; exact ⟨o, e⟩
  item := fun A k s Q E hk st hQ => by
    refine wpAny_nextOf_list_item st.1 st.2 (Array.getElem?_eq_getElem hk) fun h' h1 hs => ?_
    exact hQ _ h' s.toks (Array.getElem?_eq_getElem hk) ⟨h1, st.2.extBut hs.extBut hne⟩ hs
  done := fun A s Q E hh st hE => wpAny_nextOf_list_end hh st.1 st.2 (Array.getElem?_eq_none (Nat.le_refl _)) hE
theorem nx_range (i : Addr) (n : Nat) : Nx prog w i [i] n (fun k v => ∃ t, v = .int ((k : Nat) : Int) t) (fun k h => IsRangeIter h i ((k : Nat) : Int) ((n : Int) - (k : Nat)) 1) where
  keep := fun k h h' st hk => hk i (by simp) _ st
  live := fun k h st => ⟨_, st⟩
  item := fun A k s Q E hk st hQ => by
    have hT : s.TypeIs (.ref i) "range_iterator" := ⟨_, st, rfl⟩
    unfold Builtin.SmallTypes.nextOf
    refine wpAny_bind (wpAny_callSpecial?_slot (name := Str.ofString "__next__") hT F.slot_range_iterator_next
      (call_meets F.slot_range_iterator_next hT F.entry_range_iterator_next (F.args_range_iterator_next_1 _) (AutoRange.range_iterator___next___range_iterator_1 i k ((n : Int) - (k : Nat)) 1 (by omega)) ⟨st, ?_⟩))
    refine wpAny_pure (hQ _ _ _ ⟨_, rfl⟩ ?_ ((Heap.SameBut.update ..).trans (Heap.SameBut.update ..)))
    have := Heap.get?_update_self (Obj.mapFields (·.setIfInBounds 1 (rawInt ((n : Int) - (k : Nat) - 1)))) (Heap.get?_update_self (Obj.mapFields (·.setIfInBounds 0 (rawInt ((k : Int) + 1)))) st rfl) rfl
    show IsRangeIter _ _ _ _ _
    rw [show ((k + 1 : Nat) : Int) = (k : Int) + 1 by omega, show (n : Int) - ((k : Int) + 1) = (n : Int) - (k : Nat) - 1 by omega]
    exact this
  done := fun A s Q E hh st hE => by
    have hT : s.TypeIs (.ref i) "range_iterator" := ⟨_, st, rfl⟩
    unfold Builtin.SmallTypes.nextOf
    refine wpAny_bind (wpAny_callSpecial?_slot (name := Str.ofString "__next__") hT F.slot_range_iterator_next
      (wpAny_call_entry F.slot_range_iterator_next hT F.entry_range_iterator_next ?_ (F.args_range_iterator_next_1 _)))
    show wpAny _ _ (field (.ref i) 0 >>= _) _ _ s
    refine wpAny_bind (wpAny_field st rfl (x := rawInt n) rfl ?_)
    show wpAny _ _ (field (.ref i) 1 >>= _) _ _ s
    refine wpAny_bind (wpAny_field st rfl (x := rawInt ((n : Int) - (n : Nat))) rfl ?_)
    show wpAny _ _ (field (.ref i) 2 >>= _) _ _ s
    refine wpAny_bind (wpAny_field st rfl (x := rawInt 1) rfl ?_)
    show wpAny _ _ (if (n : Int) - (n : Nat) ≤ 0 then _ else _) _ _ s
    rw [if_pos (by omega)]
    refine wpAny_bind (wpAny_rule ?_)
    refine wpAny_bind ?_
    show wpAny _ _ (newExc (.type "StopIteration") [] >>= _) _ _ _
    refine wpAny_bind ?_
    simp only [newExc, newTuple]
    refine wpAny_bind (wpAny_newObj_type ?_ (by size_fits))
    refine wpAny_bind (m := firstArgMember _ _) (wpAny_of_eq (a := Value.none) (by first | rfl | (simp only [firstArgMember]; rfl)) ?_)
    refine wpAny_newObj_type ?_ (by size_fits)
    simp only [raiseNew]
    refine wpAny_bind (wpAny_handled ?_)
    first | rw [show A.in1.handled = none from hh] | rw [hh]
    refine wpAny_bind (wpAny_pure (wpAny_throw ?_))
    exact hE _ _ (((Heap.SameBut.refl _ _).extBut.push _).push _) ⟨_, Heap.get?_push_size _ rfl, rfl⟩

/-- the zip object and what it owns -/
noncomputable abbrev ZR (h : Heap) (z TI TO : Addr) (f0 : Value) (f1 : Bool) : Prop := h.get? z = some { cls := .type "zip", dict := none, data := .fields #[f0, .bool f1, .bool false, .ref TI, .ref TO], slots := #[] }
structure ZAp (z TI TO i1 i2 : Addr) (fp1 fp2 : List Addr) : Prop where
  TIz : TI ≠ z
  TOz : TO ≠ z
  i1z : i1 ≠ z
  i2z : i2 ≠ z
  TITO : TI ≠ TO
  TIi1 : TI ≠ i1
  TIi2 : TI ≠ i2
  TOi1 : TO ≠ i1
  TOi2 : TO ≠ i2
  i12 : i1 ≠ i2
  z1 : z ∉ fp1
  z2 : z ∉ fp2
  TO1 : TO ∉ fp1
  TO2 : TO ∉ fp2
  i12' : i1 ∉ fp2
  i21' : i2 ∉ fp1
noncomputable def Wz (z TO i1 i2 b : Addr) : Prop := b ≠ z ∧ b ≠ TO ∧ b ≠ i1 ∧ b ≠ i2
structure ZSt (h : Heap) (z TI TO i1 i2 : Addr) : Prop where
  zr : ZR h z TI TO .none false ∨ ∃ (T : Addr) (f : Bool) (o : Obj), ZR h z TI TO (rawInt T) f ∧ h.get? T = some o ∧ Wz z TO i1 i2 T
  TI : IsPair h TI (.ref i1) (.ref i2)
  TO : ∃ a b, IsPair h TO a b
section
variable {A : Around} {E : Value → Shared → Prop} {s : Shared} {z TI TO i1 i2 : Addr} {fp1 fp2 : List Addr} {n1 n2 : Nat} {P1 P2 : Nat → Value → Prop} {S1 S2 : Nat → Heap → Prop} {k : Nat}
theorem zip_kept {T : Addr} {f : Bool} {o : Obj} {Q : Value → Shared → Prop} (N1 : Nx prog w i1 fp1 n1 P1 S1) (N2 : Nx prog w i2 fp2 n2 P2 S2) (D : ZAp z TI TO i1 i2 fp1 fp2) (hz : ZR s.heap z TI TO (rawInt T) f) (hT : s.heap.get? T = some o) (hw : Wz z TO i1 i2 T)
    (hTI : IsPair s.heap TI (.ref i1) (.ref i2)) (hTO : ∃ a b, IsPair s.heap TO a b) (hk1 : k < n1) (hk2 : k < n2) (h1 : S1 k s.heap) (h2 : S2 k s.heap)
    (hQ : ∀ x y T h' tk, P1 k x → P2 k y → S1 (k + 1) h' → S2 (k + 1) h' → ZSt h' z TI TO i1 i2 → s.heap.get? T = none → IsPair h' T x y → (∀ c o, Wz z TO i1 i2 c → s.heap.get? c = some o → h'.get? c = some o) → Q (.ref T) { s with heap := h', toks := tk }) :
    wpAny (model prog w) A (Builtin.«zip.__next__» ⟨[.ref z], []⟩) (fun fin s' => ∃ v, fin = .done (.ret v) ∧ Q v s') E s := by
  show wpAny _ _ (field (.ref z) 2 >>= _) _ _ _
  refine wpAny_bind (wpAny_field hz rfl (x := .bool false) rfl ?_)
  show wpAny _ _ (field (.ref z) 3 >>= _) _ _ _
  refine wpAny_bind (wpAny_field hz rfl (x := .ref TI) rfl ?_)
  refine wpAny_bind (wpAny_seqItems hTI rfl ?_)
  show wpAny _ _ (Builtin.SmallTypes.ownedTupleIsFree (.ref z) >>= _) _ _ _
  refine wpAny_bind ?_
  unfold Builtin.SmallTypes.ownedTupleIsFree
  refine wpAny_bind (wpAny_field hz rfl (x := rawInt T) rfl ?_)
  show wpAny _ _ (loadIfAlive ((T : Int).toNat) >>= _) _ _ _
  rw [Int.toNat_natCast]
  refine wpAny_bind (W.kdx_alive hT ?_)
  simp only [Option.isNone_some, Bool.false_eq_true, if_false]
  refine wpAny_bind (wpAny_field hz rfl (x := .bool f) rfl ?_)
  refine wpAny_mono (Q := fun b s' => b = false ∧ ∃ h₁, s' = { s with heap := h₁ } ∧ Heap.SameBut z s.heap h₁ ∧ ZR h₁ z TI TO (rawInt T) true) ?_ (fun b s' hx => ?_) fun _ _ e => e
  · cases f with
    | true =>
      rw [if_neg (show ¬ ((Value.bool true != Value.bool true) = true) from Bool.false_ne_true)]
      exact wpAny_pure ⟨rfl, _, rfl, Heap.SameBut.refl _ _, hz⟩
    | false =>
      rw [if_pos (show (Value.bool false != Value.bool true) = true from rfl)]
      exact wpAny_bind (wpAny_setField_rec hz (by simp) fun h₁ hz₁ hs₁ => wpAny_pure ⟨rfl, _, rfl, hs₁, hz₁⟩)
  obtain ⟨rfl, h₁, rfl, hs₁, hz₁⟩ := hx
  simp only [Bool.false_eq_true, if_false, List.forIn_toArray, List.forIn_cons, List.forIn_nil]
  refine wpAny_bind (wpAny_bind (wpAny_bind (wpAny_holding ?_)))
  show wpAny _ _ (Builtin.SmallTypes.nextOf (.ref i1) >>= _) _ _ _
  have k1 : ∀ c o, c ≠ z → s.heap.get? c = some o → h₁.get? c = some o := hs₁.extBut
  refine wpAny_bind (N1.item A k _ _ _ hk1 (N1.keep k _ _ h1 fun b hb o e => k1 b o (fun q => D.z1 (q ▸ hb)) e) fun x h₂ tk₂ hx h1₂ hs₂ => wpAny_pure ?_)
  replace hs₂ : Heap.SameBut i1 h₁ h₂ := hs₂
  refine wpAny_pure ?_
  simp only
  refine wpAny_bind (wpAny_bind (wpAny_holding ?_))
  show wpAny _ _ (Builtin.SmallTypes.nextOf (.ref i2) >>= _) _ _ _
  have k2 : ∀ c o, c ≠ z → c ≠ i1 → s.heap.get? c = some o → h₂.get? c = some o := fun c o c1 c2 e => hs₂.extBut c o c2 (k1 c o c1 e)
  refine wpAny_bind (N2.item A k _ _ _ hk2 (N2.keep k _ _ h2 fun b hb o e => k2 b o (fun q => D.z2 (q ▸ hb)) (fun q => D.i12' (q ▸ hb)) e) fun y h₃ tk₃ hy h2₃ hs₃ => wpAny_pure ?_)
  replace hs₃ : Heap.SameBut i2 h₂ h₃ := hs₃
  have k3 : ∀ c o, c ≠ z → c ≠ i1 → c ≠ i2 → s.heap.get? c = some o → h₃.get? c = some o := fun c o c1 c2 c3 e => hs₃.extBut c o c3 (k2 c o c1 c2 e)
  refine wpAny_pure ?_
  simp only
  refine wpAny_pure ?_
  show wpAny _ _ (newTuple [x, y] >>= _) _ _ _
  refine wpAny_bind (wpAny_newTuple ?_)
  refine wpAny_pure ⟨_, rfl, ?_⟩
  have hsz : h₃.objs.size = s.heap.objs.size := by rw [hs₃.1, hs₂.1, hs₁.1]
  have hz₃ : ZR h₃ z TI TO (rawInt T) true := hs₃.extBut _ _ D.i2z.symm (hs₂.extBut _ _ D.i1z.symm hz₁)
  obtain ⟨a, b, hTO⟩ := hTO
  have up : ∀ c o, h₃.get? c = some o → (h₃.push { cls := .type "tuple", data := .seq #[x, y] }).get? c = some o := fun c o e => Heap.get?_push_of_some _ e
  refine hQ x y h₃.objs.size _ tk₃ hx hy (N1.keep _ _ _ h1₂ fun b hb o e => up b o (hs₃.extBut b o (fun q => D.i21' (q ▸ hb)) e)) (N2.keep _ _ _ h2₃ fun b hb o e => up b o e)
    ⟨.inr ⟨T, true, o, up _ _ hz₃, up _ _ (k3 T o hw.1 hw.2.2.1 hw.2.2.2 hT), hw⟩, up _ _ (k3 _ _ D.TIz D.TIi1 D.TIi2 hTI), a, b, up _ _ (k3 _ _ D.TOz D.TOi1 D.TOi2 hTO)⟩ ?_ (Heap.get?_push_size _ rfl) fun c o hc e => up c o (k3 c o hc.1 hc.2.2.1 hc.2.2.2 e)
  rw [hsz]; exact Heap.get?_none_of_le (Nat.le_refl _)
theorem zip_free {Q : Value → Shared → Prop} (N1 : Nx prog w i1 fp1 n1 P1 S1) (N2 : Nx prog w i2 fp2 n2 P2 S2) (D : ZAp z TI TO i1 i2 fp1 fp2) (hz : ZR s.heap z TI TO .none false)
    (hTI : IsPair s.heap TI (.ref i1) (.ref i2)) (hTO : ∃ a b, IsPair s.heap TO a b) (hk1 : k < n1) (hk2 : k < n2) (h1 : S1 k s.heap) (h2 : S2 k s.heap)
    (hQ : ∀ x y T h' tk, P1 k x → P2 k y → S1 (k + 1) h' → S2 (k + 1) h' → ZSt h' z TI TO i1 i2 → s.heap.get? T = none → IsPair h' T x y → (∀ c o, Wz z TO i1 i2 c → s.heap.get? c = some o → h'.get? c = some o) → Q (.ref T) { s with heap := h', toks := tk }) :
    wpAny (model prog w) A (Builtin.«zip.__next__» ⟨[.ref z], []⟩) (fun fin s' => ∃ v, fin = .done (.ret v) ∧ Q v s') E s := by
  obtain ⟨a, b, hTO⟩ := hTO
  show wpAny _ _ (field (.ref z) 2 >>= _) _ _ _
  refine wpAny_bind (wpAny_field hz rfl (x := .bool false) rfl ?_)
  show wpAny _ _ (field (.ref z) 3 >>= _) _ _ _
  refine wpAny_bind (wpAny_field hz rfl (x := .ref TI) rfl ?_)
  refine wpAny_bind (wpAny_seqItems hTI rfl ?_)
  show wpAny _ _ (Builtin.SmallTypes.ownedTupleIsFree (.ref z) >>= _) _ _ _
  refine wpAny_bind ?_
  unfold Builtin.SmallTypes.ownedTupleIsFree
  refine wpAny_bind (wpAny_field hz rfl (x := .none) rfl (wpAny_pure ?_))
  simp only [if_true]
  refine wpAny_bind (wpAny_rule ?_)
  refine wpAny_bind (wpAny_field hz rfl (x := .ref TO) rfl ?_)
  refine wpAny_bind (wpAny_setField_rec hz (by simp) fun h₁ hz₁ hs₁ => ?_)
  replace hz₁ : ZR h₁ z TI TO .ellipsis false := hz₁
  have k1 : ∀ c o, c ≠ z → s.heap.get? c = some o → h₁.get? c = some o := hs₁.extBut
  refine wpAny_bind ?_
  simp only [List.zipIdx_cons, List.zipIdx_nil, List.forIn_cons, List.forIn_nil]
  refine wpAny_bind (wpAny_bind (wpAny_onRaise ?_))
  show wpAny _ _ (Builtin.SmallTypes.nextOf (.ref i1) >>= _) _ _ _
  refine wpAny_bind (N1.item A k _ _ _ hk1 (N1.keep k _ _ h1 fun b hb o e => k1 b o (fun q => D.z1 (q ▸ hb)) e) fun x h₂ tk₂ hx h1₂ hs₂ => wpAny_pure ?_)
  replace hs₂ : Heap.SameBut i1 h₁ h₂ := hs₂
  have k2 : ∀ c o, c ≠ z → c ≠ i1 → s.heap.get? c = some o → h₂.get? c = some o := fun c o c1 c2 e => hs₂.extBut c o c2 (k1 c o c1 e)
  have hTO₂ : IsPair h₂ TO a b := k2 _ _ D.TOz D.TOi1 hTO
  refine wpAny_bind (wpAny_seqItems hTO₂ rfl ?_)
  refine wpAny_bind (wpAny_updateSeq_pair hTO₂ fun h₃ hTO₃ hs₃ => ?_)
  replace hTO₃ : IsPair h₃ TO x b := hTO₃
  replace hs₃ : Heap.SameBut TO h₂ h₃ := hs₃
  have k3 : ∀ c o, c ≠ z → c ≠ i1 → c ≠ TO → s.heap.get? c = some o → h₃.get? c = some o := fun c o c1 c2 c3 e => hs₃.extBut c o c3 (k2 c o c1 c2 e)
  refine wpAny_bind (wpAny_letGo (wpAny_pure ?_))
  refine wpAny_bind (wpAny_bind (wpAny_onRaise ?_))
  show wpAny _ _ (Builtin.SmallTypes.nextOf (.ref i2) >>= _) _ _ _
  refine wpAny_bind (N2.item A k _ _ _ hk2 (N2.keep k _ _ h2 fun b hb o e => k3 b o (fun q => D.z2 (q ▸ hb)) (fun q => D.i12' (q ▸ hb)) (fun q => D.TO2 (q ▸ hb)) e) fun y h₄ tk₄ hy h2₄ hs₄ => wpAny_pure ?_)
  replace hs₄ : Heap.SameBut i2 h₃ h₄ := hs₄
  have hTO₄ : IsPair h₄ TO x b := hs₄.extBut _ _ D.TOi2 hTO₃
  refine wpAny_bind (wpAny_seqItems hTO₄ rfl ?_)
  refine wpAny_bind (wpAny_updateSeq_pair hTO₄ fun h₅ hTO₅ hs₅ => ?_)
  replace hTO₅ : IsPair h₅ TO x y := hTO₅
  replace hs₅ : Heap.SameBut TO h₄ h₅ := hs₅
  have k5 : ∀ c o, Wz z TO i1 i2 c → s.heap.get? c = some o → h₅.get? c = some o := fun c o hc e => hs₅.extBut c o hc.2.1 (hs₄.extBut c o hc.2.2.2 (k3 c o hc.1 hc.2.2.1 hc.2.1 e))
  refine wpAny_bind (wpAny_letGo (wpAny_pure (wpAny_pure ?_)))
  refine wpAny_bind (wpAny_seqItems hTO₅ rfl ?_)
  refine wpAny_bind (wpAny_newTuple ?_)
  have hsz : h₅.objs.size = s.heap.objs.size := by rw [hs₅.1, hs₄.1, hs₃.1, hs₂.1, hs₁.1]
  have hz₅ : ZR h₅ z TI TO .ellipsis false := hs₅.extBut _ _ D.TOz.symm (hs₄.extBut _ _ D.i2z.symm (hs₃.extBut _ _ D.TOz.symm (hs₂.extBut _ _ D.i1z.symm hz₁)))
  show wpAny _ _ (Builtin.SmallTypes.ownedTupleHandOut (.ref z) (.ref h₅.objs.size) >>= _) _ _ _
  refine wpAny_bind ?_
  unfold Builtin.SmallTypes.ownedTupleHandOut
  have hz₆ : ZR (h₅.push { cls := .type "tuple", data := .seq #[x, y] }) z TI TO .ellipsis false := Heap.get?_push_of_some _ hz₅
  refine wpAny_bind (wpAny_setField_rec hz₆ (by simp) fun h₇ hz₇ hs₇ => ?_)
  replace hz₇ : ZR h₇ z TI TO (rawInt h₅.objs.size) false := hz₇
  refine wpAny_setField_rec hz₇ (by simp) fun h₈ hz₈ hs₈ => ?_
  replace hz₈ : ZR h₈ z TI TO (rawInt h₅.objs.size) false := hz₈
  have up : ∀ c o, c ≠ z → h₅.get? c = some o → h₈.get? c = some o := fun c o c1 e => hs₈.extBut _ _ c1 (hs₇.extBut _ _ c1 (Heap.get?_push_of_some _ e))
  have hzlt : z < h₅.objs.size := Heap.lt_size hz₅
  have hT₈ : IsPair h₈ h₅.objs.size x y := hs₈.extBut _ _ (Nat.ne_of_gt hzlt) (hs₇.extBut _ _ (Nat.ne_of_gt hzlt) (Heap.get?_push_size _ rfl))
  have hTn : s.heap.get? h₅.objs.size = none := by rw [hsz]; exact Heap.get?_none_of_le (Nat.le_refl _)
  have old : ∀ c o, s.heap.get? c = some o → h₅.objs.size ≠ c := fun c o e => by rw [hsz]; exact Nat.ne_of_gt (Heap.lt_size e)
  refine wpAny_pure ⟨_, rfl, ?_⟩
  have s1 : S1 (k + 1) h₈ := N1.keep _ _ _ h1₂ fun b hb o e => up b o (fun q => D.z1 (q ▸ hb)) (hs₅.extBut b o (fun q => D.TO1 (q ▸ hb)) (hs₄.extBut b o (fun q => D.i21' (q ▸ hb)) (hs₃.extBut b o (fun q => D.TO1 (q ▸ hb)) e)))
  have s2 : S2 (k + 1) h₈ := N2.keep _ _ _ h2₄ fun b hb o e => up b o (fun q => D.z2 (q ▸ hb)) (hs₅.extBut b o (fun q => D.TO2 (q ▸ hb)) e)
  refine hQ x y h₅.objs.size h₈ tk₄ hx hy s1 s2 ⟨.inr ⟨_, false, _, hz₈, hT₈, old z _ hz, old TO _ hTO, ?_, ?_⟩, up _ _ D.TIz (k5 _ _ ⟨D.TIz, D.TITO, D.TIi1, D.TIi2⟩ hTI), x, y, up _ _ D.TOz hTO₅⟩ hTn hT₈ fun c o hc e => up c o hc.1 (k5 c o hc e)
  · obtain ⟨o, e⟩ := N1.live _ _ h1; exact old i1 o e
  · obtain ⟨o, e⟩ := N2.live _ _ h2; exact old i2 o e
theorem zip_nextB {Q : Option Value → Shared → Prop} (N1 : Nx prog w i1 fp1 n1 P1 S1) (N2 : Nx prog w i2 fp2 n2 P2 S2) (D : ZAp z TI TO i1 i2 fp1 fp2) (hst : ZSt s.heap z TI TO i1 i2) (hk1 : k < n1) (hk2 : k < n2) (h1 : S1 k s.heap) (h2 : S2 k s.heap)
    (hQ : ∀ x y T h' tk, P1 k x → P2 k y → S1 (k + 1) h' → S2 (k + 1) h' → ZSt h' z TI TO i1 i2 → s.heap.get? T = none → IsPair h' T x y → (∀ c o, Wz z TO i1 i2 c → s.heap.get? c = some o → h'.get? c = some o) → Q (some (.ref T)) { s with heap := h', toks := tk }) :
    wpAny (model prog w) A (pyNext (.ref z)) Q E s := by
  have hT : s.TypeIs (.ref z) "zip" := by
    rcases hst.zr with hz | ⟨_, _, _, hz, _⟩ <;> exact ⟨_, hz, rfl⟩
  unfold pyNext
  refine wpAny_bind (wpAny_attempt (wpAny_callSpecial?_slot (name := Str.ofString "__next__") hT F.slot_zip_next (wpAny_call_entry F.slot_zip_next hT F.entry_zip_next ?_ (F.args_zip_next_1 _))))
  have hQ' : ∀ x y T h' tk, P1 k x → P2 k y → S1 (k + 1) h' → S2 (k + 1) h' → ZSt h' z TI TO i1 i2 → s.heap.get? T = none → IsPair h' T x y → (∀ c o, Wz z TO i1 i2 c → s.heap.get? c = some o → h'.get? c = some o) → wpAny (model prog w) A (pure (some (Value.ref T))) Q E { s with heap := h', toks := tk } :=
    fun x y T h' tk a1 a2 a3 a4 a5 a6 a7 a8 => wpAny_pure (hQ x y T h' tk a1 a2 a3 a4 a5 a6 a7 a8)
  rcases hst.zr with hz | ⟨T, f, o, hz, hTT, hw⟩
  · exact zip_free N1 N2 D hz hst.TI hst.TO hk1 hk2 h1 h2 hQ'
  · exact zip_kept N1 N2 D hz hTT hw hst.TI hst.TO hk1 hk2 h1 h2 hQ'
/-- the first one has ended -/
theorem zip_endB {Q : Option Value → Shared → Prop} (hh : A.handled = none) (N1 : Nx prog w i1 fp1 n1 P1 S1) (D : ZAp z TI TO i1 i2 fp1 fp2) (hst : ZSt s.heap z TI TO i1 i2) (h1 : S1 n1 s.heap)
    (hQ : ∀ h', (∀ c o, Wz z TO i1 i2 c → s.heap.get? c = some o → h'.get? c = some o) → Q none { s with heap := h' }) :
    wpAny (model prog w) A (pyNext (.ref z)) Q E s := by
  have hT : s.TypeIs (.ref z) "zip" := by
    rcases hst.zr with hz | ⟨_, _, _, hz, _⟩ <;> exact ⟨_, hz, rfl⟩
  unfold pyNext
  refine wpAny_bind (wpAny_attempt (wpAny_callSpecial?_slot (name := Str.ofString "__next__") hT F.slot_zip_next (wpAny_call_entry F.slot_zip_next hT F.entry_zip_next ?_ (F.args_zip_next_1 _))))
  have fin : ∀ h' e, (∀ c o, Wz z TO i1 i2 c → s.heap.get? c = some o → h'.get? c = some o) → (∃ o, h'.get? e = some o ∧ o.cls = .type "StopIteration") → wpAny (model prog w) A (isInstance (.ref e) (.type "StopIteration") >>= fun b => if b = true then pure none else throw (.ref e)) Q E { s with heap := h' } := fun h' e hk he => by
    obtain ⟨o, ho, hc⟩ := he
    refine wpAny_bind (wpAny_isInstance (T := "StopIteration") (b := true) ⟨o, ho, hc⟩ isSubtype_stop ?_)
    exact wpAny_pure (hQ _ hk)
  rcases hst.zr with hz | ⟨T, f, o, hz, hTT, hw⟩
  · obtain ⟨a, b, hTO⟩ := hst.TO
    show wpAny _ _ (field (.ref z) 2 >>= _) _ _ _
    refine wpAny_bind (wpAny_field hz rfl (x := .bool false) rfl ?_)
    show wpAny _ _ (field (.ref z) 3 >>= _) _ _ _
    refine wpAny_bind (wpAny_field hz rfl (x := .ref TI) rfl ?_)
    refine wpAny_bind (wpAny_seqItems hst.TI rfl ?_)
    show wpAny _ _ (Builtin.SmallTypes.ownedTupleIsFree (.ref z) >>= _) _ _ _
    refine wpAny_bind ?_
    unfold Builtin.SmallTypes.ownedTupleIsFree
    refine wpAny_bind (wpAny_field hz rfl (x := .none) rfl (wpAny_pure ?_))
    simp only [if_true]
    refine wpAny_bind (wpAny_rule ?_)
    refine wpAny_bind (wpAny_field hz rfl (x := .ref TO) rfl ?_)
    refine wpAny_bind (wpAny_setField_rec hz (by simp) fun h₁ hz₁ hs₁ => ?_)
    replace hz₁ : ZR h₁ z TI TO .ellipsis false := hz₁
    replace hs₁ : Heap.SameBut z s.heap h₁ := hs₁
    have k1 : ∀ c o, c ≠ z → s.heap.get? c = some o → h₁.get? c = some o := hs₁.extBut
    refine wpAny_bind ?_
    simp only [List.zipIdx_cons, List.zipIdx_nil, List.forIn_cons, List.forIn_nil]
    refine wpAny_bind (wpAny_bind (wpAny_onRaise ?_))
    show wpAny _ _ (Builtin.SmallTypes.nextOf (.ref i1) >>= _) _ _ _
    refine wpAny_bind (N1.done A.in1 _ _ _ hh (N1.keep _ _ _ h1 fun b hb o e => k1 b o (fun q => D.z1 (q ▸ hb)) e) fun h₂ e hs₂ he => ?_)
    replace hs₂ : Heap.ExtBut i1 h₁ h₂ := hs₂
    obtain ⟨oe, hoe, hce⟩ := he
    have hz₂ : ZR h₂ z TI TO .ellipsis false := hs₂ _ _ D.i1z.symm hz₁
    have hez : e ≠ z := fun x => by subst x; rw [hz₂] at hoe; cases hoe; simp at hce
    refine wpAny_setField_rec hz₂ (by simp) fun h₃ _ hs₃ => ?_
    replace hs₃ : Heap.SameBut z h₂ h₃ := hs₃
    exact fin h₃ e (fun c o hc x => hs₃.extBut _ _ hc.1 (hs₂ _ _ hc.2.2.1 (k1 _ _ hc.1 x))) ⟨oe, hs₃.extBut _ _ hez hoe, hce⟩
  · show wpAny _ _ (field (.ref z) 2 >>= _) _ _ _
    refine wpAny_bind (wpAny_field hz rfl (x := .bool false) rfl ?_)
    show wpAny _ _ (field (.ref z) 3 >>= _) _ _ _
    refine wpAny_bind (wpAny_field hz rfl (x := .ref TI) rfl ?_)
    refine wpAny_bind (wpAny_seqItems hst.TI rfl ?_)
    show wpAny _ _ (Builtin.SmallTypes.ownedTupleIsFree (.ref z) >>= _) _ _ _
    refine wpAny_bind ?_
    unfold Builtin.SmallTypes.ownedTupleIsFree
    refine wpAny_bind (wpAny_field hz rfl (x := rawInt T) rfl ?_)
    show wpAny _ _ (loadIfAlive ((T : Int).toNat) >>= _) _ _ _
    rw [Int.toNat_natCast]
    refine wpAny_bind (W.kdx_alive hTT ?_)
    simp only [Option.isNone_some, Bool.false_eq_true, if_false]
    refine wpAny_bind (wpAny_field hz rfl (x := .bool f) rfl ?_)
    refine wpAny_mono (Q := fun b s' => b = false ∧ ∃ h₁, s' = { s with heap := h₁ } ∧ Heap.SameBut z s.heap h₁ ∧ ZR h₁ z TI TO (rawInt T) true) ?_ (fun b s' hx => ?_) fun _ _ e => e
    · cases f with
      | true =>
        rw [if_neg (show ¬ ((Value.bool true != Value.bool true) = true) from Bool.false_ne_true)]
        exact wpAny_pure ⟨rfl, _, rfl, Heap.SameBut.refl _ _, hz⟩
      | false =>
        rw [if_pos (show (Value.bool false != Value.bool true) = true from rfl)]
        exact wpAny_bind (wpAny_setField_rec hz (by simp) fun h₁ hz₁ hs₁ => wpAny_pure ⟨rfl, _, rfl, hs₁, hz₁⟩)
    obtain ⟨rfl, h₁, rfl, hs₁, hz₁⟩ := hx
    simp only [Bool.false_eq_true, if_false, List.forIn_toArray, List.forIn_cons, List.forIn_nil]
    refine wpAny_bind (wpAny_bind (wpAny_bind (wpAny_holding ?_)))
    show wpAny _ _ (Builtin.SmallTypes.nextOf (.ref i1) >>= _) _ _ _
    have k1 : ∀ c o, c ≠ z → s.heap.get? c = some o → h₁.get? c = some o := hs₁.extBut
    refine wpAny_bind (N1.done A.in1 _ _ _ hh (N1.keep _ _ _ h1 fun b hb o e => k1 b o (fun q => D.z1 (q ▸ hb)) e) fun h₂ e hs₂ he => ?_)
    replace hs₂ : Heap.ExtBut i1 h₁ h₂ := hs₂
    exact fin h₂ e (fun c o hc x => hs₂ _ _ hc.2.2.1 (k1 _ _ hc.1 x)) he

/-- the tuples that were taken -/
noncomputable def ZGot (P1 P2 : Nat → Value → Prop) (h0 h : Heap) (S z TO i1 i2 : Addr) (as : List Addr) : Prop := ∀ (j : Nat) (a : Addr), as[j]? = some a → ∃ x y, P1 j x ∧ P2 j y ∧ IsPair h a x y ∧ Wz z TO i1 i2 a ∧ a ≠ S ∧ h0.get? a = none
structure ZI (P1 P2 : Nat → Value → Prop) (S1 S2 : Nat → Heap → Prop) (h0 : Heap) (S z TI TO i1 i2 : Addr) (k : Nat) (as : List Addr) (h : Heap) : Prop where
  st : ZSt h z TI TO i1 i2
  s1 : S1 k h
  s2 : S2 k h
  len : as.length = k
  got : ZGot P1 P2 h0 h S z TO i1 i2 as
  old : ∀ b o, h0.get? b = some o → h.get? b = some o
/-- what is fresh -/
structure ZNew (h0 : Heap) (S z TI TO i1 i2 : Addr) (fp1 fp2 : List Addr) : Prop where
  S0 : h0.get? S = none
  z0 : h0.get? z = none
  TO0 : h0.get? TO = none
  i10 : h0.get? i1 = none
  i20 : h0.get? i2 = none
  Sw : Wz z TO i1 i2 S
  STI : TI ≠ S
  S1 : S ∉ fp1
  S2 : S ∉ fp2
theorem apart_of {h : Heap} {a b : Addr} {o : Obj} (n : h.get? a = none) (e : h.get? b = some o) : b ≠ a := by
  intro q; rw [q, n] at e; cases e
theorem ZNew.away {h0 : Heap} {S : Addr} (N : ZNew h0 S z TI TO i1 i2 fp1 fp2) {b : Addr} {o : Obj} (e : h0.get? b = some o) : Wz z TO i1 i2 b ∧ b ≠ S :=
  ⟨⟨apart_of N.z0 e, apart_of N.TO0 e, apart_of N.i10 e, apart_of N.i20 e⟩, apart_of N.S0 e⟩
/-- the new list is written -/
theorem ZI.upd {h0 h h' : Heap} {S : Addr} {as : List Addr} (N1 : Nx prog w i1 fp1 n1 P1 S1) (N2 : Nx prog w i2 fp2 n2 P2 S2) (N : ZNew h0 S z TI TO i1 i2 fp1 fp2) (I : ZI P1 P2 S1 S2 h0 S z TI TO i1 i2 k as h) (hl : ∃ o, h'.get? S = some o) (hk : ∀ b o, b ≠ S → h.get? b = some o → h'.get? b = some o) : ZI P1 P2 S1 S2 h0 S z TI TO i1 i2 k as h' where
  st := by
    obtain ⟨zr, hTI, a, b, hTO⟩ := I.st
    refine ⟨?_, hk _ _ N.STI hTI, a, b, hk _ _ N.Sw.2.1.symm hTO⟩
    rcases zr with hz | ⟨T, f, o, hz, hT, hw⟩
    · exact .inl (hk _ _ N.Sw.1.symm hz)
    · refine .inr ?_
      by_cases e : T = S
      · obtain ⟨o', e'⟩ := hl
        exact ⟨T, f, o', hk _ _ N.Sw.1.symm hz, e ▸ e', hw⟩
      · exact ⟨T, f, o, hk _ _ N.Sw.1.symm hz, hk _ _ e hT, hw⟩
  s1 := N1.keep _ _ _ I.s1 fun b hb o e => hk b o (fun q => N.S1 (q ▸ hb)) e
  s2 := N2.keep _ _ _ I.s2 fun b hb o e => hk b o (fun q => N.S2 (q ▸ hb)) e
  len := I.len
  got := fun j a ha => by
    obtain ⟨x, y, g1, g2, g3, g4, g5, g6⟩ := I.got j a ha
    exact ⟨x, y, g1, g2, hk _ _ g5 g3, g4, g5, g6⟩
  old := fun b o e => hk b o (N.away e).2 (I.old b o e)
section
variable {h0 : Heap} {S : Addr} {R : Result → Shared → Prop} {n : Nat}
theorem zip_loop (hh : A.handled = none) (N1 : Nx prog w i1 fp1 n P1 S1) (N2 : Nx prog w i2 fp2 n P2 S2) (D : ZAp z TI TO i1 i2 fp1 fp2) (N : ZNew h0 S z TI TO i1 i2 fp1 fp2) (hn : n ≤ sizeLine) (res : Value)
    (hR : ∀ h' tk acc c as, (∀ b o, h0.get? b = some o → h'.get? b = some o) → ZGot P1 P2 h0 h' S z TO i1 i2 as → as.length = n → h'.get? S = some { cls := .type "list", dict := none, data := .seq acc c, slots := #[] } → acc.toList = as.map Value.ref → R (.ok (.ret res)) { s with heap := h', toks := tk }) :
    ∀ (m k : Nat) (h : Heap) (tk c : Nat) (acc : Array Value) (as : List Addr), n - k = m → k ≤ n → ZI P1 P2 S1 S2 h0 S z TI TO i1 i2 k as h → h.get? S = some { cls := .type "list", dict := none, data := .seq acc c, slots := #[] } → acc.toList = as.map Value.ref →
      codeAny (model prog w) A (.builtin "list.extend.loop" ⟨[.ref S, .ref z, res], []⟩) R { s with heap := h, toks := tk } := by
  intro m
  induction m with
  | zero =>
    intro k h tk c acc as hm hkn I hS hacc
    have hkn : k = n := by omega
    refine codeAny_builtin F.entry_extend_loop ?_
    rw [Around.under_plainId F.plain_extend_loop _]
    show wpAny _ A.in1 (pyNext (.ref z) >>= _) _ _ _
    refine wpAny_bind (zip_endB (s := { s with heap := h, toks := tk }) (A := A.in1) hh N1 D I.st (hkn ▸ I.s1) fun h' hk => ?_)
    replace hk : ∀ c o, Wz z TO i1 i2 c → h.get? c = some o → h'.get? c = some o := hk
    refine wpAny_pure (hR h' tk acc c as (fun b o e => hk b o (N.away e).1 (I.old b o e)) (fun j a ha => ?_) (I.len.trans hkn) (hk S _ N.Sw hS) hacc)
    obtain ⟨x, y, g1, g2, g3, g4, g5, g6⟩ := I.got j a ha
    exact ⟨x, y, g1, g2, hk _ _ g4 g3, g4, g5, g6⟩
  | succ m ih =>
    intro k h tk c acc as hm hkn I hS hacc
    have hlt : k < n := by omega
    have hsz : acc.size = k := by rw [← Array.length_toList, hacc, List.length_map, I.len]
    refine codeAny_builtin F.entry_extend_loop ?_
    rw [Around.under_plainId F.plain_extend_loop _]
    show wpAny _ A.in1 (pyNext (.ref z) >>= _) _ _ _
    refine wpAny_bind (zip_nextB (s := { s with heap := h, toks := tk }) (A := A.in1) N1 N2 D I.st hlt hlt I.s1 I.s2 fun x y T h₁ tk₁ hx hy t1 t2 st1 hT hP hk => ?_)
    replace hk : ∀ c o, Wz z TO i1 i2 c → h.get? c = some o → h₁.get? c = some o := hk
    replace hT : h.get? T = none := hT
    have hS₁ := hk S _ N.Sw hS
    show wpAny _ A.in1 (updateSeq S (·.push (.ref T)) >>= _) _ _ _
    have dead : ∀ {a : Addr} {o : Obj}, h.get? a = some o → T ≠ a := by intro a o e q; rw [q, e] at hT; cases hT
    have hTw : Wz z TO i1 i2 T := by
      obtain ⟨zr, _, a, b, hTO⟩ := I.st
      obtain ⟨o1, e1⟩ := N1.live _ _ I.s1
      obtain ⟨o2, e2⟩ := N2.live _ _ I.s2
      refine ⟨?_, dead hTO, dead e1, dead e2⟩
      rcases zr with hz | ⟨_, _, _, hz, _⟩ <;> exact dead hz
    have I₁ : ZI P1 P2 S1 S2 h0 S z TI TO i1 i2 (k + 1) (as ++ [T]) h₁ := by
      refine ⟨st1, t1, t2, by rw [List.length_append, I.len]; rfl, fun j a ha => ?_, fun b o e => hk b o (N.away e).1 (I.old b o e)⟩
      rcases Nat.lt_or_ge j as.length with hj | hj
      · rw [List.getElem?_append_left hj] at ha
        obtain ⟨x, y, g1, g2, g3, g4, g5, g6⟩ := I.got j a ha
        exact ⟨x, y, g1, g2, hk _ _ g4 g3, g4, g5, g6⟩
      · rw [List.getElem?_append_right hj] at ha
        have hj0 : j - as.length = 0 := by
          rcases Nat.eq_zero_or_pos (j - as.length) with q | q
          · exact q
          · rw [List.getElem?_eq_none (show [T].length ≤ _ from q)] at ha; cases ha
        rw [hj0] at ha
        have ha : T = a := Option.some.inj ha
        subst ha
        have hjk : j = k := by have := I.len; omega
        subst hjk
        refine ⟨x, y, hx, hy, hP, hTw, dead hS, ?_⟩
        cases q : h0.get? T with
        | none => rfl
        | some o => exact absurd rfl (dead (I.old T o q))
    refine wpAny_bind ?_
    refine wpAny_updateSeq hS₁ rfl (wpAny_pure ⟨plainId_quiet F.plain_extend_loop _, ih (k + 1) _ _ _ (acc.push (.ref T)) (as ++ [T]) (by omega) hlt (I₁.upd N1 N2 N ⟨_, Heap.get?_update_self _ hS₁ rfl⟩ fun b o hb e => (Heap.get?_update_other _ _ (Ne.symm hb)).trans e) (Heap.get?_update_self _ hS₁ rfl) (by rw [Array.toList_push, hacc, List.map_append]; rfl)⟩)
      (by rw [hsz]; omega) (by show (acc.push _).size ≤ sizeLine + 1; rw [Array.size_push, hsz]; omega)
theorem no_len : typeLookup (.type "zip") "__len__" = pure none := by rw [typeLookup_type, builtinLookup_eq_fast]; kernel_rfl
theorem no_hint : typeLookup (.type "zip") "__length_hint__" = pure none := by rw [typeLookup_type, builtinLookup_eq_fast]; kernel_rfl
theorem zip_extend (hh : A.handled = none) (N1 : Nx prog w i1 fp1 n P1 S1) (N2 : Nx prog w i2 fp2 n P2 S2) (D : ZAp z TI TO i1 i2 fp1 fp2) (N : ZNew h0 S z TI TO i1 i2 fp1 fp2) (hn : n ≤ sizeLine) (res : Value) {c₀ : Nat}
    (I : ZI P1 P2 S1 S2 h0 S z TI TO i1 i2 0 [] s.heap) (hz : ZR s.heap z TI TO .none false) (hS : s.heap.get? S = some { cls := .type "list", data := .seq #[] c₀ })
    (hR : ∀ h' tk acc c as, (∀ b o, h0.get? b = some o → h'.get? b = some o) → ZGot P1 P2 h0 h' S z TO i1 i2 as → as.length = n → h'.get? S = some { cls := .type "list", dict := none, data := .seq acc c, slots := #[] } → acc.toList = as.map Value.ref → R (.ok (.ret res)) { s with heap := h', toks := tk }) :
    wpAny (model prog w) A.in1 (Builtin.List.listExtendWith (.ref S) (.ref z) res)
      (fun fin s' => match fin with | .done f => R (.ok f) s' | .again c' => c'.quiet = true ∧ codeAny (model prog w) A c' R s') (fun e s' => R (.error e) s') s := by
  have hT : s.TypeIs (.ref z) "zip" := ⟨_, hz, rfl⟩
  unfold Builtin.List.listExtendWith
  refine wpAny_bind (wpAny_typeOf hT ?_)
  have h1 : Builtin.List.listSameRef (.ref S) (.ref z) = false := by simp [Builtin.List.listSameRef, N.Sw.1]
  have h2 : (Value.type "zip" == Value.type "list") = false := by decide
  have h3 : (Value.type "zip" == Value.type "tuple") = false := by decide
  simp only [h1, h2, h3, Bool.or_false, Bool.false_eq_true, if_false]
  refine wpAny_bind (wpAny_pyIter_zip hz ?_)
  refine wpAny_bind (wpAny_holding ?_)
  unfold Builtin.List.listLengthHint
  refine wpAny_bind (wpAny_specialOf hT no_len ?_)
  show wpAny _ A.in1 (specialOf (Value.ref z) (Str.ofString "__length_hint__") >>= _) _ _ _
  refine wpAny_bind (wpAny_specialOf hT no_hint ?_)
  refine wpAny_pure ?_
  show wpAny _ A.in1 (rule "list.extend.makes-room" >>= fun _ => Builtin.List.listTouch (.ref S) >>= fun _ => again (.builtin "list.extend.loop" ⟨[.ref S, .ref z, res], []⟩)) _ _ _
  refine wpAny_bind (wpAny_rule ?_)
  refine wpAny_bind ?_
  show wpAny _ A.in1 (updateSeq S (·.push .none) >>= fun _ => updateSeq S (·.pop)) _ _ _
  refine wpAny_bind (wpAny_updateSeq hS rfl ?_)
  have hS₂ := Heap.get?_update_self (Obj.mapSeq (·.push Value.none)) hS rfl
  refine wpAny_updateSeq (hz := by seq_fits) hS₂ rfl ?_
  have hS₃ := Heap.get?_update_self (Obj.mapSeq (·.pop)) hS₂ rfl
  refine wpAny_pure ⟨plainId_quiet F.plain_extend_loop _, zip_loop hh N1 N2 D N hn res hR n 0 _ s.toks _ #[] [] rfl (Nat.zero_le _) (I.upd N1 N2 N ⟨_, hS₃⟩ fun b o hb e => ?_) hS₃ rfl⟩
  exact (Heap.get?_update_other _ _ (Ne.symm hb)).trans ((Heap.get?_update_other _ _ (Ne.symm hb)).trans e)
end
end
/-- a zip object that was just made -/
noncomputable def ZUp (prog : Program) (w : World) (h0 h : Heap) (b : Addr) (n : Nat) (P1 P2 : Nat → Value → Prop) : Prop :=
  ∃ fp1 fp2 S1 S2, Nx prog w b fp1 n P1 S1 ∧ Nx prog w (b + 1) fp2 n P2 S2 ∧ ZAp (b + 4) (b + 2) (b + 3) b (b + 1) fp1 fp2 ∧ (∀ c ∈ fp1, c < b + 5) ∧ (∀ c ∈ fp2, c < b + 5) ∧ ZR h (b + 4) (b + 2) (b + 3) .none false ∧ ZSt h (b + 4) (b + 2) (b + 3) b (b + 1) ∧ S1 0 h ∧ S2 0 h ∧
    h.objs.size = b + 5 ∧ h0.objs.size = b ∧ ∀ c o, h0.get? c = some o → h.get? c = some o
section
variable {A : Around} {E : Value → Shared → Prop} {s : Shared} {n : Nat} {P1 P2 : Nat → Value → Prop}
theorem zap {b l1 : Addr} {L : List Addr} (h1 : l1 < b) (hL : ∀ c ∈ L, c < b) : ZAp (b + 4) (b + 2) (b + 3) b (b + 1) [b, l1] ((b + 1) :: L) := by
  have up : ∀ k, b + k ∉ L := fun k hm => Nat.not_lt.mpr (Nat.le_add_right b k) (hL _ hm)
  have ne : ∀ i j, i ≠ j → b + i ≠ b + j := fun i j h q => h (Nat.add_left_cancel q)
  have n1 : ∀ k, b + k ≠ l1 := fun k q => Nat.not_lt.mpr (Nat.le_add_right b k) (q ▸ h1)
  have m1 : ∀ k, k ≠ 0 → b + k ∉ [b, l1] := fun k hk hm => by
    rcases List.mem_cons.mp hm with q | hm
    · exact ne k 0 hk q
    · exact n1 k (List.mem_singleton.mp hm)
  have m2 : ∀ k, k ≠ 1 → b + k ∉ (b + 1) :: L := fun k hk hm => by
    rcases List.mem_cons.mp hm with q | hm
    · exact ne k 1 hk q
    · exact up k hm
  exact ⟨ne 2 4 (by decide), ne 3 4 (by decide), ne 0 4 (by decide), ne 1 4 (by decide), ne 2 3 (by decide), ne 2 0 (by decide), ne 2 1 (by decide), ne 3 0 (by decide), ne 3 1 (by decide), ne 0 1 (by decide), m1 4 (by decide), m2 4 (by decide), m1 3 (by decide), m2 3 (by decide), m2 0 (by decide), m1 1 (by decide)⟩
theorem lt_fp {b : Addr} {L : List Addr} (hL : ∀ c ∈ L, c < b) {j : Nat} (hj : j < 5) : ∀ c ∈ (b + j) :: L, c < b + 5 := fun c hc => by
  rcases List.mem_cons.mp hc with rfl | hc
  · exact Nat.add_lt_add_left hj b
  · exact Nat.lt_of_lt_of_le (hL c hc) (Nat.le_add_right _ _)
theorem zip_ll {l1 l2 : Addr} {xs ys : Array Value} {Q : Value → Shared → Prop} (hl1 : s.heap.IsList l1 xs) (hl2 : s.heap.IsList l2 ys) (h1 : xs.size = n) (h2 : ys.size = n)
    (h : ∀ h', ZUp prog w s.heap h' s.heap.objs.size n (fun k v => xs[k]? = some v) (fun k v => ys[k]? = some v) → Q (.ref (s.heap.objs.size + 4)) { s with heap := h' }) : wpAny (model prog w) A (call (.type "zip") [.ref l1, .ref l2]) Q E s := by
  have t1 : l1 < s.heap.objs.size := by obtain ⟨o, e, _⟩ := hl1; exact Heap.lt_size e
  have t2 : l2 < s.heap.objs.size := by obtain ⟨o, e, _⟩ := hl2; exact Heap.lt_size e
  have a1 : ∀ c ∈ [l1], c < s.heap.objs.size := fun c hc => by rw [List.mem_singleton.mp hc]; exact t1
  have a2 : ∀ c ∈ [l2], c < s.heap.objs.size := fun c hc => by rw [List.mem_singleton.mp hc]; exact t2
  refine call_zip_2 hl1 hl2 fun h' hz hTI hTO g1 g2 hsz hk => h h' ⟨[s.heap.objs.size, l1], [s.heap.objs.size + 1, l2], _, _, h1 ▸ nx_list (Nat.ne_of_lt t1) xs, h2 ▸ nx_list (Nat.ne_of_lt (Nat.lt_succ_of_lt t2)) ys, zap t1 a2,
    lt_fp (j := 0) a1 (by decide), lt_fp (j := 1) a2 (by decide), hz, ⟨.inl hz, hTI, _, _, hTO⟩, ⟨g1, hl1.at fun o e => hk l1 o e⟩, ⟨g2, hl2.at fun o e => hk l2 o e⟩, hsz, rfl, hk⟩
noncomputable abbrev zrH2 (h : Heap) (l1 : Addr) (m : Int) : Heap := (zipH1 h l1).push { cls := .type "range_iterator", data := .fields #[rawInt 0, rawInt (Builtin.Range.rangeSize 0 m 1), rawInt 1] }
noncomputable abbrev zrH3 (h : Heap) (l1 : Addr) (m : Int) : Heap := (zrH2 h l1 m).push { cls := .type "tuple", data := .seq #[.ref h.objs.size, .ref (zipH1 h l1).objs.size] }
noncomputable abbrev zrH4 (h : Heap) (l1 : Addr) (m : Int) : Heap := (zrH3 h l1 m).push { cls := .type "tuple", data := .seq #[.none, .none] }
noncomputable abbrev zrH5 (h : Heap) (l1 : Addr) (m : Int) : Heap := (zrH4 h l1 m).push { cls := .type "zip", data := .fields #[.none, .bool false, .bool false, .ref (zrH2 h l1 m).objs.size, .ref (zrH3 h l1 m).objs.size] }
theorem meets_zip_lr (l1 r : Addr) (xs : Array Value) (m : Int) (t u v : Tok) :
    Meets (Builtin.«zip.__new__» ⟨[.type "zip", .ref l1, .ref r], []⟩) (fun _ R s => s.heap.IsList l1 xs ∧ IsRange s.heap r 0 m 1 t u v ∧ Builtin.Range.small 0 m 1 = true ∧
      R (.ok (.ret (.ref (zrH4 s.heap l1 m).objs.size))) { s with heap := zrH5 s.heap l1 m }) :=
  .of_wp fun prog w A R s h => by
    obtain ⟨hp, g, d, tk, os⟩ := s; obtain ⟨hl1, hr, hsm, h⟩ := h
    have hsub := sub_zip
    have hL1 : Heap.IsList (Shared.heap ⟨hp, g, d, tk, os⟩) l1 xs := hl1
    have hR2 : IsRange (Shared.heap ⟨hp.push { cls := .type "list_iterator", data := .fields #[.ref l1, .int 0 0] }, g, d, tk, os⟩) r 0 m 1 t u v := Heap.get?_push_of_some _ hr
    wp_walk using wpAny_pyIter_list hL1, wpAny_pyIter_range hR2 hsm
    exact ⟨_, rfl, h⟩
theorem zip_lr {l1 r : Addr} {xs : Array Value} {t u v : Tok} {Q : Value → Shared → Prop} (hl1 : s.heap.IsList l1 xs) (hr : IsRange s.heap r 0 (n : Int) 1 t u v) (hn : Builtin.Range.small 0 n 1 = true) (h1 : xs.size = n)
    (h : ∀ h', ZUp prog w s.heap h' s.heap.objs.size n (fun k v => xs[k]? = some v) (fun k v => ∃ t, v = .int ((k : Nat) : Int) t) → Q (.ref (s.heap.objs.size + 4)) { s with heap := h' }) : wpAny (model prog w) A (call (.type "zip") [.ref l1, .ref r]) Q E s := by
  have t1 : l1 < s.heap.objs.size := by obtain ⟨o, e, _⟩ := hl1; exact Heap.lt_size e
  refine callType_new F.called_zip (by decide) (F.typeCall_zip_2 _ _) (F.newCall_zip_2 _ _) (fun obj => F.args_object_init_3 obj _ _) F.entry_zip_new (meets_zip_lr l1 r xs n t u v) ⟨hl1, hr, hn, ?_⟩
  have z1 : (zipH1 s.heap l1).objs.size = s.heap.objs.size + 1 := Heap.size_push ..
  have z2 : (zrH2 s.heap l1 n).objs.size = s.heap.objs.size + 2 := by rw [Heap.size_push, z1]
  have z3 : (zrH3 s.heap l1 n).objs.size = s.heap.objs.size + 3 := by rw [Heap.size_push, z2]
  have z4 : (zrH4 s.heap l1 n).objs.size = s.heap.objs.size + 4 := by rw [Heap.size_push, z3]
  have z5 : (zrH5 s.heap l1 n).objs.size = s.heap.objs.size + 5 := by rw [Heap.size_push, z4]
  have g5 : (zrH5 s.heap l1 n).get? (zrH4 s.heap l1 n).objs.size = some _ := Heap.get?_push_size _ rfl
  have g4 : (zrH5 s.heap l1 n).get? (zrH3 s.heap l1 n).objs.size = some _ := Heap.get?_push_of_some _ (Heap.get?_push_size _ rfl)
  have g3 : (zrH5 s.heap l1 n).get? (zrH2 s.heap l1 n).objs.size = some _ := Heap.get?_push_of_some _ (Heap.get?_push_of_some _ (Heap.get?_push_size _ rfl))
  have g2 : (zrH5 s.heap l1 n).get? (zipH1 s.heap l1).objs.size = some _ := Heap.get?_push_of_some _ (Heap.get?_push_of_some _ (Heap.get?_push_of_some _ (Heap.get?_push_size _ rfl)))
  have g1 : (zrH5 s.heap l1 n).get? s.heap.objs.size = some _ := Heap.get?_push_of_some _ (Heap.get?_push_of_some _ (Heap.get?_push_of_some _ (Heap.get?_push_of_some _ (Heap.get?_push_size _ rfl))))
  have hk : ∀ c o, s.heap.get? c = some o → (zrH5 s.heap l1 n).get? c = some o := fun c o x => Heap.get?_push_of_some _ (Heap.get?_push_of_some _ (Heap.get?_push_of_some _ (Heap.get?_push_of_some _ (Heap.get?_push_of_some _ x))))
  show _ ∧ _
  rw [z2, z3, z4] at g5
  rw [z1, z2] at g3
  rw [z3] at g4
  rw [z1] at g2
  rw [z4]
  rw [rangeSize_eq] at g2
  have e0 : ((((n : Int) - 0).toNat : Nat) : Int) = (n : Int) - ((0 : Nat) : Int) := by omega
  rw [e0] at g2
  exact ⟨⟨_, g5, rfl⟩, h _ ⟨[s.heap.objs.size, l1], [s.heap.objs.size + 1], _, _, h1 ▸ nx_list (Nat.ne_of_lt t1) xs, nx_range _ n, zap t1 (L := []) (by intro _ h; cases h),
    lt_fp (j := 0) (fun c hc => by rw [List.mem_singleton.mp hc]; exact t1) (by decide), lt_fp (j := 1) (b := s.heap.objs.size) (L := []) (by intro _ h; cases h) (by decide), g5, ⟨.inl g5, g3, _, _, g4⟩, ⟨⟨_, g1, rfl, rfl⟩, hl1.at fun o e => hk l1 o e⟩, g2, z5, rfl, hk⟩⟩
theorem ZUp.start {h0 : Heap} {b : Addr} {h : Heap} {o : Obj} (U : ZUp prog w h0 h b n P1 P2) : ∃ fp1 fp2 S1 S2, Nx prog w b fp1 n P1 S1 ∧ Nx prog w (b + 1) fp2 n P2 S2 ∧ ZAp (b + 4) (b + 2) (b + 3) b (b + 1) fp1 fp2 ∧ ZNew h0 (b + 5) (b + 4) (b + 2) (b + 3) b (b + 1) fp1 fp2 ∧
    ZI P1 P2 S1 S2 h0 (b + 5) (b + 4) (b + 2) (b + 3) b (b + 1) 0 [] (h.push o) ∧ ZR (h.push o) (b + 4) (b + 2) (b + 3) .none false := by
  obtain ⟨fp1, fp2, S1, S2, N1, N2, D, f1, f2, hz, st, s1, s2, hs, h0s, hk⟩ := U
  have up : ∀ c o', h.get? c = some o' → (h.push o).get? c = some o' := fun c o' e => Heap.get?_push_of_some _ e
  have no : ∀ k, h0.get? (b + k) = none := fun k => Heap.get?_none_of_le (by rw [h0s]; exact Nat.le_add_right _ _)
  have ne : ∀ i j, i ≠ j → b + i ≠ b + j := fun i j h q => h (Nat.add_left_cancel q)
  refine ⟨fp1, fp2, S1, S2, N1, N2, D, ⟨no 5, no 4, no 3, no 0, no 1, ⟨ne 5 4 (by decide), ne 5 3 (by decide), ne 5 0 (by decide), ne 5 1 (by decide)⟩, ne 2 5 (by decide), fun hm => Nat.lt_irrefl _ (f1 _ hm), fun hm => Nat.lt_irrefl _ (f2 _ hm)⟩,
    ⟨?_, N1.keep _ _ _ s1 fun c _ o' e => up c o' e, N2.keep _ _ _ s2 fun c _ o' e => up c o' e, rfl, (fun j a ha => nomatch ha), fun c o' e => up c o' (hk c o' e)⟩, up _ _ hz⟩
  obtain ⟨zr, hTI, x, y, hTO⟩ := st
  refine ⟨?_, up _ _ hTI, x, y, up _ _ hTO⟩
  rcases zr with hz | ⟨T, f, o', hz, hT, hw⟩
  · exact .inl (up _ _ hz)
  · exact .inr ⟨T, f, o', up _ _ hz, up _ _ hT, hw⟩
/-- what was taken -/
noncomputable def ZAll (P1 P2 : Nat → Value → Prop) (h0 h : Heap) (as : List Addr) : Prop := ∀ (j : Nat) (a : Addr), as[j]? = some a → ∃ x y, P1 j x ∧ P2 j y ∧ IsPair h a x y ∧ h0.get? a = none
theorem ZGot.all {h0 h : Heap} {S z TO i1 i2 : Addr} {as : List Addr} (g : ZGot P1 P2 h0 h S z TO i1 i2 as) : ZAll P1 P2 h0 h as := fun j a ha => by
  obtain ⟨x, y, g1, g2, g3, _, _, g6⟩ := g j a ha
  exact ⟨x, y, g1, g2, g3, g6⟩
theorem list_zip {h0 : Heap} {b : Addr} {Q : Value → Shared → Prop} (hh : A.handled = none) (hn : n ≤ sizeLine) (U : ZUp prog w h0 s.heap b n P1 P2)
    (hQ : ∀ h' tk acc c as, (∀ c o, h0.get? c = some o → h'.get? c = some o) → ZAll P1 P2 h0 h' as → as.length = n → h'.get? (b + 5) = some { cls := .type "list", dict := none, data := .seq acc c, slots := #[] } → acc.toList = as.map Value.ref → Q (.ref (b + 5)) { s with heap := h', toks := tk }) :
    wpAny (model prog w) A (call (.type "list") [.ref (b + 4)]) Q E s := by
  have hs : s.heap.objs.size = b + 5 := by obtain ⟨_, _, _, _, _, _, _, _, _, _, _, _, _, hs, _⟩ := U; exact hs
  refine callType_codes (Q₁ := fun obj s₁ => obj = .ref s.heap.objs.size ∧ s₁ = { s with heap := s.heap.push { cls := .type "list", data := .seq #[] } }) PySem.F.called_list (PySem.F.typeCall_list_1 _) PySem.F.entry_list_init
    (code_list_new _ ⟨rfl, rfl⟩) fun obj s₁ h₁ => ?_
  obtain ⟨rfl, rfl⟩ := h₁
  have hS : (s.heap.push { cls := .type "list", data := .seq #[] }).get? s.heap.objs.size = some { cls := .type "list", data := .seq #[] } := Heap.get?_push_size _ rfl
  refine ⟨⟨_, hS, rfl⟩, PySem.F.args_list_init_2 _ _, ?_⟩
  obtain ⟨fp1, fp2, S1, S2, N1, N2, D, N, I, hz⟩ := U.start (o := { cls := .type "list", data := .seq #[] })
  rw [hs] at hS ⊢
  show wpAny _ _ (do let old ← Builtin.List.listItems (.ref (b + 5)); Builtin.List.listUpdate (.ref (b + 5)) (fun _ => #[]); letGo old.toList.reverse; Builtin.List.listExtendWith (.ref (b + 5)) (.ref (b + 4)) .none) _ _ _
  refine wpAny_bind ?_
  unfold Builtin.List.listItems
  refine wpAny_bind (wpAny_seqItems hS rfl (wpAny_pure ?_))
  show wpAny _ _ (updateSeq (b + 5) (fun _ => #[]) >>= fun _ => letGo (#[] : Array Value).toList.reverse >>= fun _ => Builtin.List.listExtendWith (.ref (b + 5)) (.ref (b + 4)) .none) _ _ _
  refine wpAny_bind (wpAny_updateSeq hS rfl ?_)
  have hS₂ := Heap.get?_update_self (Obj.mapSeq (fun _ => (#[] : Array Value))) hS rfl
  have oth : ∀ c o, c ≠ b + 5 → (s.heap.push { cls := .type "list", data := .seq #[] }).get? c = some o → ((s.heap.push { cls := .type "list", data := .seq #[] }).update (b + 5) (Obj.mapSeq (fun _ => (#[] : Array Value)))).get? c = some o :=
    fun c o hc e => (Heap.get?_update_other _ _ (Ne.symm hc)).trans e
  refine wpAny_bind (wpAny_letGo ?_)
  refine zip_extend (A := A.in1) hh N1 N2 D N hn .none (I.upd N1 N2 N ⟨_, hS₂⟩ oth) (oth _ _ N.Sw.1.symm hz) hS₂ fun h' tk acc c as g1 g2 g3 g4 g5 => ?_
  exact ⟨rfl, hQ h' tk acc c as g1 g2.all g3 g4 g5⟩
theorem coll_zip {h0 : Heap} {b : Addr} {R : List Value → Shared → Prop} (hh : A.handled = none) (hn : n ≤ sizeLine) (U : ZUp prog w h0 s.heap b n P1 P2)
    (hQ : ∀ h' tk as, (∀ c o, h0.get? c = some o → h'.get? c = some o) → ZAll P1 P2 h0 h' as → as.length = n → R (as.map Value.ref) { s with heap := h', toks := tk }) :
    wpAny (model prog w) A (collect (.ref (b + 4))) R E s := by
  have hs : s.heap.objs.size = b + 5 := by obtain ⟨_, _, _, _, _, _, _, _, _, _, _, _, _, hs, _⟩ := U; exact hs
  unfold collect
  refine wpAny_bind (wpAny_runValue (codeAny_builtin F.entry_proto_collect ?_))
  rw [Around.under_plainId PySem.F.plain_proto_collect _]
  show wpAny _ A.in1 (newList [] >>= fun l => again (.builtin "list.__iadd__" ⟨[l, .ref (b + 4)], []⟩)) _ _ s
  refine wpAny_bind (wpAny_newObj_type ?_)
  refine wpAny_pure ⟨plainId_quiet PySem.F.plain_list_iadd _, codeAny_builtin F.entry_list_iadd ?_⟩
  rw [Around.under_plainId PySem.F.plain_list_iadd _]
  obtain ⟨fp1, fp2, S1, S2, N1, N2, D, N, I, hz⟩ := U.start (o := { cls := .type "list", data := .seq ([] : List Value).toArray })
  have hS : (s.heap.push { cls := .type "list", data := .seq ([] : List Value).toArray }).get? s.heap.objs.size = some { cls := .type "list", data := .seq #[] } := Heap.get?_push_size _ rfl
  rw [hs] at hS
  show wpAny _ A.in1 (Builtin.List.listExtendWith (.ref s.heap.objs.size) (.ref (b + 4)) (.ref s.heap.objs.size)) _ _ _
  rw [hs]
  have key := zip_extend (A := A) (s := { s with heap := s.heap.push { cls := .type "list", data := .seq ([] : List Value).toArray } })
    (R := fun (q : Result) (s' : Shared) => ∃ (h' : Heap) (tk : Nat) (as : List Addr) (acc : Array Value) (c : Nat), q = .ok (.ret (.ref (b + 5))) ∧ s' = { s with heap := h', toks := tk } ∧ (∀ c o, h0.get? c = some o → h'.get? c = some o) ∧ ZAll P1 P2 h0 h' as ∧ as.length = n ∧
      h'.get? (b + 5) = some { cls := .type "list", dict := none, data := .seq acc c, slots := #[] } ∧ acc.toList = as.map Value.ref) hh N1 N2 D N hn (.ref (b + 5)) I hz hS fun h' tk acc c as g1 g2 g3 g4 g5 => ⟨h', tk, as, acc, c, rfl, rfl, g1, g2.all, g3, g4, g5⟩
  refine wpAny_mono key (fun fin s' x => ?_) fun e s' x => ?_
  · cases fin with
    | done f =>
      obtain ⟨h', tk, as, acc, c, e, rfl, g1, g2, g3, g4, g5⟩ := x
      cases e
      show wpAny _ A (load (b + 5) >>= _) _ _ _
      refine wpAny_bind (wpAny_load g4 ?_)
      refine wpAny_pure ?_
      show R acc.toList _
      rw [g5]
      exact hQ h' tk as g1 g2 g3
    | again c₁ =>
      refine ⟨x.1, codeAny_mono x.2 fun q s₂ y => ?_⟩
      obtain ⟨h', tk, as, acc, c, rfl, rfl, g1, g2, g3, g4, g5⟩ := y
      show wpAny _ A (load (b + 5) >>= _) _ _ _
      refine wpAny_bind (wpAny_load g4 ?_)
      refine wpAny_pure ?_
      show R acc.toList _
      rw [g5]
      exact hQ h' tk as g1 g2 g3
  · obtain ⟨_, _, _, _, _, e', _⟩ := x
    cases e'
end
end
end Mine
end

section
open PySem
set_option Elab.async false
set_option maxRecDepth 10000
set_option linter.unusedVariables false
namespace Mine

/-! zip: the words -/
noncomputable def zipV : List V → Option (List PyData × List PyData)
  | [.dat (.list ds), .dat (.list es)] => if ds.length = es.length ∧ ds.length ≤ big then some (ds, es) else none
  | [.dat (.list ds), .rng lo hi] => if lo = 0 ∧ hi = ds.length ∧ smallR lo hi = true ∧ ds.length ≤ big then some (ds, intsD lo hi) else none
  | _ => none
section
variable {X : Cx} {n : Nat} {env : Env} {P : Prm} {A : Around} {ρ : List Addr} {μ : Mu} {σ : St} {s : Shared}
theorem val_zip (ok : CxOk X) : gval X (Str.ofString "zip") = some (.type "zip") := blt_val ok (by unfold bltNames; decide) (by decide) (by decide +kernel)
/-- what a zip of two things that were given will take -/
structure ZP (h : Heap) (ok : Addr → Prop) (ds es : List PyData) (P1 P2 : Nat → Value → Prop) : Prop where
  len : ds.length = es.length
  g1 : ∀ k v, k < ds.length → P1 k v → ∃ d, ds[k]? = some d ∧ DR h ok d v
  g2 : ∀ k v, k < ds.length → P2 k v → ∃ d, es[k]? = some d ∧ DR h ok d v
theorem W_zipC {vs : List V} {xs : List Value} {ds es : List PyData} {Q : Value → Shared → Prop} {E : Value → Shared → Prop} (hz : zipV vs = some (ds, es)) (hv : VRl s.heap (okOf ρ μ) μ vs xs)
    (h : ∀ h' P1 P2, ZUp X.prog X.w s.heap h' s.heap.objs.size ds.length P1 P2 → ZP s.heap (okOf ρ μ) ds es P1 P2 → ds.length ≤ big → Q (.ref (s.heap.objs.size + 4)) { s with heap := h' }) : wpAny (model X.prog X.w) A (call (.type "zip") xs) Q E s := by
  unfold zipV at hz
  split at hz
  · rename_i ds' es'
    split at hz
    · rename_i hc
      cases hz
      obtain ⟨x, r, rfl, h1, y, r', h4, h5, h6⟩ := hv
      rw [show r = y :: r' from h4, show r' = [] from h6]
      have h1 : DR _ _ _ _ := h1
      have h5 : DR _ _ _ _ := h5
      simp only [DR] at h1 h5
      obtain ⟨a, o, ws, nn, rfl, _, i2, i3, i4, i5⟩ := h1
      obtain ⟨b, o', us, nm, rfl, _, j2, j3, j4, j5⟩ := h5
      have l1 : ws.size = ds.length := by have := i5.length; rwa [Array.length_toList] at this
      have l2 : us.size = ds.length := by have := j5.length; rw [Array.length_toList] at this; rw [this, hc.1]
      refine zip_ll ⟨o, i2, i3, nn, i4⟩ ⟨o', j2, j3, nm, j4⟩ l1 l2 fun h' U => h h' _ _ U ⟨hc.1, fun k v _ e => ?_, fun k v _ e => ?_⟩ hc.2
      · exact i5.getV (by rw [Array.getElem?_toList]; exact e)
      · exact j5.getV (by rw [Array.getElem?_toList]; exact e)
    · cases hz
  · rename_i ds' lo hi
    split at hz
    · rename_i hc
      cases hz
      obtain ⟨rfl, rfl, hs, hb⟩ := hc
      obtain ⟨x, r, rfl, h1, y, r', h4, h5, h6⟩ := hv
      rw [show r = y :: r' from h4, show r' = [] from h6]
      have h1 : DR _ _ _ _ := h1
      simp only [DR] at h1
      obtain ⟨a, o, ws, nn, rfl, _, i2, i3, i4, i5⟩ := h1
      obtain ⟨ra, t, u, v, rfl, _, hr⟩ := h5
      have l1 : ws.size = ds.length := by have := i5.length; rwa [Array.length_toList] at this
      have li : (intsD 0 (ds.length : Int)).length = ds.length := by rw [intsD_length]; omega
      refine zip_lr ⟨o, i2, i3, nn, i4⟩ hr (small_range hs).1 l1 fun h' U => h h' _ _ U ⟨li.symm, fun k v _ e => i5.getV (by rw [Array.getElem?_toList]; exact e), fun k v hk e => ?_⟩ hb
      obtain ⟨t, rfl⟩ := e
      refine ⟨.int (k : Int), ?_, by simp only [DR]; exact ⟨t, rfl⟩⟩
      unfold intsD
      rw [List.getElem?_map, List.getElem?_range (by omega)]
      show some (PyData.int (0 + (k : Int))) = _
      rw [Int.zero_add]
    · cases hz
  · cases hz
/-- the inner call -/
theorem Ev_ZipC (ok : CxOk X) {p pos : Pos} {es : List Expr} {ms : List (M V)} {vs : List V} {σ1 : St} {ds fs : List PyData} {Q : Value → Shared → Prop} (he : EvL X n env es ms) (hst : es.all noStar = true) (hk : gKind env (Str.ofString "zip") = true) (ga : Ga n A) (R : Rel X ρ μ env σ s.heap) (e1 : seqS ms σ = some (vs, σ1)) (hz : zipV vs = some (ds, fs))
    (h : ∀ μ1 s1, Step (wrt env) μ μ1 s s1 → Rel X ρ μ1 env σ1 s1.heap → ∀ h' P1 P2, ZUp X.prog X.w s1.heap h' s1.heap.objs.size ds.length P1 P2 → ZP s1.heap (okOf ρ μ1) ds fs P1 P2 → ds.length ≤ big → Q (.ref (s1.heap.objs.size + 4)) { s1 with heap := h' }) :
    wpAny (model X.prog X.w) A (eval (.Call (.Name (Str.ofString "zip") p) es [] pos) env) Q (fun _ _ => False) s := by
  refine Call_name ok R hk (val_zip ok) (PyProof.Rows.callWith_type (star_any hst) (wpAny_mono (W_args (ks := []) he hst .nil ga R e1 rfl) (fun ar s2 z => ?_) fun _ _ z => z))
  obtain ⟨μ2, st2, R2, v2, k2⟩ := z
  rw [show ar.kw = [] from k2, List.nil_append]
  exact W_zipC hz v2 (h μ2 s2 st2 R2)
end
end Mine
end

section
open PySem
set_option Elab.async false
set_option maxRecDepth 10000
set_option linter.unusedVariables false
namespace Mine

/-! a text that is split by a text -/
noncomputable def partsS (x y : Str) : List Str := Builtin.Str.partsBetween x (Builtin.Str.occurrences x y 0 x.length (x.length + 1)) y.length
noncomputable abbrev splOk (x y : Str) : Prop := (decide (x.length < y.length) || decide (Builtin.Str.strKind x < Builtin.Str.strKind y)) = false ∧ (y.length == 0) = false ∧ (Builtin.Str.occurrences x y 0 x.length (x.length + 1)).isEmpty = false ∧ x.length ≤ 1000 ∧ (partsS x y).length ≤ 1000 ∧ (partsS x y).all asc = true
noncomputable def splitM (m : M V) (y : Str) : M V := do
  let v ← m
  match v with
  | .dat (.str x) => if splOk x y then mpure (.dat (.list ((partsS x y).map .str))) else mfail
  | _ => mfail
section
variable {X : Cx} {n : Nat} {env : Env} {P : Prm} {A : Around} {ρ : List Addr} {μ : Mu} {σ : St} {s : Shared}
theorem strs_from {h : Heap} {ok : Addr → Prop} : ∀ (tk : Nat) (xs : List Str), xs.all asc = true → DRs h ok (xs.map .str) (strsFrom tk xs)
  | _, [], _ => by simp [DRs, strsFrom]
  | tk, x :: r, ha => by
    rw [List.all_cons, Bool.and_eq_true] at ha
    simp only [List.map_cons, DRs, strsFrom]
    exact ⟨_, _, rfl, by simp only [DR]; exact ⟨ha.1, _, rfl⟩, strs_from (tk + 1) r ha.2⟩
theorem Ev_Split {o : Expr} {ap pos cp : Pos} {k : Nat} {sep : Str} {mo : M V} (ho : Ev X n env o mo) (hs : asc sep = true) (hm : methOk o [.Constant (.str sep) k cp] [] ap pos = true) :
    Ev X n env (.Call (.Attribute o (Str.ofString "split") ap) [.Constant (.str sep) k cp] [] pos) (splitM mo sep) := by
  intro A ρ μ σ s ga R v σ' q
  refine mbind_elim q fun ov σ1 e1 q1 => ?_
  refine Meth_eval ho (.nil (n := n)) hm ga R e1 fun μ1 s1 x st1 R1 v1 pl => ?_
  match ov, q1, v1 with
  | .dat (.str w), q1, v1 =>
    have q1 : (if splOk w sep then mpure (V.dat (.list ((partsS w sep).map .str))) else mfail) σ1 = some (v, σ') := q1
    by_cases hc : splOk w sep
    · rw [if_pos hc] at q1
      cases q1
      have v1 : DR _ _ _ _ := v1
      simp only [DR] at v1
      obtain ⟨ha, t, rfl⟩ := v1
      refine GM.split ?_
      have hst' : [Expr.Constant (.str sep) k cp].all noStar = true := rfl
      refine Calls.callWith_builtin (star_any hst') ?_
      have hE : Ev X n env (.Constant (.str sep) k cp) (mpure (.dat (.str sep))) := by
        have h := Ev_Constant (X := X) (n := n) (env := env) (c := .str sep) (k := k) (pos := cp)
        have e : constS (.str sep) = mpure (.dat (.str sep)) := if_pos hs
        rwa [e] at h
      refine wpAny_mono (W_args (es := [.Constant (.str sep) k cp]) (ms := [mpure (.dat (.str sep))]) (ks := []) (vs := [.dat (.str sep)]) (kv := []) (.cons hE .nil) hst' (.nil (n := n)) ga R1 rfl rfl) (fun ar s2 z => ?_) fun _ _ z => z
      obtain ⟨μ2, st2, R2, ⟨y, r, hy, hvy, hr⟩, k2⟩ := z
      rw [show ar.kw = [] from k2, hy, show r = [] from hr]
      have hvy : DR _ _ _ _ := hvy
      simp only [DR] at hvy
      obtain ⟨_, u, rfl⟩ := hvy
      obtain ⟨c1, c2, c3, c4, c5, c6⟩ := hc
      have b1 : (1000 : Nat) ≤ sizeLine := Nat.le_trans (show 1000 ≤ big by decide) big_le
      refine call_meets PySem.F.slot_str_split (typeIs_str _ _ _) PySem.F.entry_str_split (PySem.F.args_str_split_2 _ _) (meets_str_split_sep w sep t u c1 c2 c3 (Nat.le_trans c4 b1) (Nat.le_trans c5 b1)) ?_
      refine post_up (st1.trans st2) (post_new (tk := s2.toks + (partsS w sep).length) R2 (fun b o e => Heap.get?_push_of_some _ e) ?_)
      show DR _ _ _ _
      simp only [DR]
      exact ⟨_, _, _, _, rfl, R2.okNew (fresh_size _), Heap.get?_push_size _ rfl, rfl, rfl, strs_from _ _ c6⟩
    · rw [if_neg hc] at q1; cases q1
end
section
variable {X : Cx} {n : Nat} {se : Env} {o : Expr} {m : M V} {pos p : Pos}
theorem D_split {k : Nat} {sep : Str} {cp : Pos} (h : EvR X n se o m) (ha : asc sep = true) (hm : methOk o [.Constant (.str sep) k cp] [] p pos = true) : EvR X n se (.Call (.Attribute o (Str.ofString "split") p) [.Constant (.str sep) k cp] [] pos) (splitM m sep) := fun v hs => Ev_Split (h v hs) ha hm
end
theorem r_split {σ σ1 : St} {m : M V} {x y : Str} {ps : List Str} (h : Run m σ (.dat (.str x)) σ1) (hc : splOk x y) (hp : partsS x y = ps) : Run (splitM m y) σ (.dat (.list (ps.map .str))) σ1 := by
  refine run_bind h ?_
  show (if splOk x y then mpure (V.dat (.list ((partsS x y).map .str))) else mfail) σ1 = _
  rw [if_pos hc, hp]; rfl
/-! figures, a stroke, figures -/
theorem kind1 (x : Str) : decide (Builtin.Str.strKind x < Builtin.Str.strKind ⟨#[47]⟩) = false := by
  have : Builtin.Str.strKind ⟨#[47]⟩ = 1 := by decide +kernel
  rw [this, decide_eq_false_iff_not]
  unfold Builtin.Str.strKind
  split
  · decide
  · split <;> decide
theorem spl_of {x y : Str} {i : Nat} {a b : Str} (ha : asc a = true) (hb : asc b = true) (h1 : x.length ≤ 1000) (h2 : ¬ x.length < 1) (ho : Builtin.Str.occurrences x ⟨#[47]⟩ 0 x.length (x.length + 1) = [i]) (hp : Builtin.Str.partsBetween x [i] 1 = [a, b]) : splOk x ⟨#[47]⟩ ∧ partsS x ⟨#[47]⟩ = [a, b] := by
  have e : partsS x ⟨#[47]⟩ = [a, b] := by unfold partsS; rw [ho]; exact hp
  refine ⟨⟨?_, rfl, by rw [ho]; rfl, h1, by rw [e]; exact (show 2 ≤ 1000 by decide), by rw [e]; simp [ha, hb]⟩, e⟩
  rw [kind1, Bool.or_false, decide_eq_false_iff_not]
  exact h2
theorem asc1 {a : Nat} (h : 47 < a ∧ a < 58) : asc ⟨#[a]⟩ = true := by unfold asc pc; simp; omega
theorem asc2 {a b : Nat} (h : 47 < a ∧ a < 58) (k : 47 < b ∧ b < 58) : asc ⟨#[a, b]⟩ = true := by unfold asc pc; simp; omega
noncomputable def fg (a : Nat) : Prop := 47 < a ∧ a < 58
theorem spl11 {a b : Nat} (ha : fg a) (hb : fg b) : splOk ⟨#[a, 47, b]⟩ ⟨#[47]⟩ ∧ partsS ⟨#[a, 47, b]⟩ ⟨#[47]⟩ = [⟨#[a]⟩, ⟨#[b]⟩] := by
  have n1 : ¬ a = 47 := Nat.ne_of_gt ha.1
  have n2 : ¬ b = 47 := Nat.ne_of_gt hb.1
  refine spl_of (y := ⟨#[47]⟩) (i := 1) (asc1 ha) (asc1 hb) (show 3 ≤ 1000 by decide) (show ¬ 3 < 1 by decide) ?_ rfl
  unfold Builtin.Str.occurrences
  simp [Std.Legacy.Range.forIn_eq_forIn_range', Std.Legacy.Range.size, List.range', Builtin.Str.subAt, Str.length, n1, n2]
theorem spl12 {a b c : Nat} (ha : fg a) (hb : fg b) (hc : fg c) : splOk ⟨#[a, 47, b, c]⟩ ⟨#[47]⟩ ∧ partsS ⟨#[a, 47, b, c]⟩ ⟨#[47]⟩ = [⟨#[a]⟩, ⟨#[b, c]⟩] := by
  have n1 : ¬ a = 47 := Nat.ne_of_gt ha.1
  have n2 : ¬ b = 47 := Nat.ne_of_gt hb.1
  have n3 : ¬ c = 47 := Nat.ne_of_gt hc.1
  refine spl_of (y := ⟨#[47]⟩) (i := 1) (asc1 ha) (asc2 hb hc) (show 4 ≤ 1000 by decide) (show ¬ 4 < 1 by decide) ?_ rfl
  unfold Builtin.Str.occurrences
  simp [Std.Legacy.Range.forIn_eq_forIn_range', Std.Legacy.Range.size, List.range', Builtin.Str.subAt, Str.length, n1, n2, n3]
theorem spl21 {a b c : Nat} (ha : fg a) (hb : fg b) (hc : fg c) : splOk ⟨#[a, b, 47, c]⟩ ⟨#[47]⟩ ∧ partsS ⟨#[a, b, 47, c]⟩ ⟨#[47]⟩ = [⟨#[a, b]⟩, ⟨#[c]⟩] := by
  have n1 : ¬ a = 47 := Nat.ne_of_gt ha.1
  have n2 : ¬ b = 47 := Nat.ne_of_gt hb.1
  have n3 : ¬ c = 47 := Nat.ne_of_gt hc.1
  refine spl_of (y := ⟨#[47]⟩) (i := 2) (asc2 ha hb) (asc1 hc) (show 4 ≤ 1000 by decide) (show ¬ 4 < 1 by decide) ?_ rfl
  unfold Builtin.Str.occurrences
  simp [Std.Legacy.Range.forIn_eq_forIn_range', Std.Legacy.Range.size, List.range', Builtin.Str.subAt, Str.length, n1, n2, n3]
theorem spl22 {a b c d : Nat} (ha : fg a) (hb : fg b) (hc : fg c) (hd : fg d) : splOk ⟨#[a, b, 47, c, d]⟩ ⟨#[47]⟩ ∧ partsS ⟨#[a, b, 47, c, d]⟩ ⟨#[47]⟩ = [⟨#[a, b]⟩, ⟨#[c, d]⟩] := by
  have n1 : ¬ a = 47 := Nat.ne_of_gt ha.1
  have n2 : ¬ b = 47 := Nat.ne_of_gt hb.1
  have n3 : ¬ c = 47 := Nat.ne_of_gt hc.1
  have n4 : ¬ d = 47 := Nat.ne_of_gt hd.1
  refine spl_of (y := ⟨#[47]⟩) (i := 2) (asc2 ha hb) (asc2 hc hd) (show 5 ≤ 1000 by decide) (show ¬ 5 < 1 by decide) ?_ rfl
  unfold Builtin.Str.occurrences
  simp [Std.Legacy.Range.forIn_eq_forIn_range', Std.Legacy.Range.size, List.range', Builtin.Str.subAt, Str.length, n1, n2, n3, n4]
noncomputable def fgs (k : Nat) : Bool := match (strI (k : Int)).cps.toList with
  | [a] => decide (47 < a) && decide (a < 58)
  | [a, b] => decide (47 < a) && decide (a < 58) && (decide (47 < b) && decide (b < 58))
  | _ => false
theorem fgs_64 : ∀ k : Nat, k < 64 → fgs k = true := by decide +kernel
theorem fgs_of {k : Nat} (h : k < 64) : (∃ a, fg a ∧ strI (k : Int) = ⟨#[a]⟩) ∨ ∃ a b, fg a ∧ fg b ∧ strI (k : Int) = ⟨#[a, b]⟩ := by
  have hf := fgs_64 k h
  unfold fgs at hf
  split at hf
  · rename_i a e
    simp only [Bool.and_eq_true, decide_eq_true_eq] at hf
    exact .inl ⟨a, hf, Str.ext' e⟩
  · rename_i a b e
    simp only [Bool.and_eq_true, decide_eq_true_eq] at hf
    exact .inr ⟨a, b, hf.1, hf.2, Str.ext' e⟩
  · cases hf
/-- the text of a figure and a place is split at its stroke -/
theorem spl_txt {f q : Nat} (hf : f < 64) (hq : q < 64) : splOk (strI (f : Int) ++ Str.ofString "/" ++ strI (q : Int)) (Str.ofString "/") ∧ partsS (strI (f : Int) ++ Str.ofString "/" ++ strI (q : Int)) (Str.ofString "/") = [strI (f : Int), strI (q : Int)] := by
  have e : Str.ofString "/" = ⟨#[47]⟩ := by decide +kernel
  rw [e]
  rcases fgs_of hf with ⟨a, ha, e1⟩ | ⟨a, b, ha, hb, e1⟩ <;> rcases fgs_of hq with ⟨c, hc, e2⟩ | ⟨c, d, hc, hd, e2⟩ <;> rw [e1, e2]
  · exact spl11 ha hc
  · exact spl12 ha hc hd
  · exact spl21 ha hb hc
  · exact spl22 ha hb hc hd
end Mine
end

section
open PySem PyProof.Rows
set_option Elab.async false
set_option maxRecDepth 10000
set_option linter.unusedVariables false
namespace Mine

/-! the sort, as what it asks -/
noncomputable def vat (g : Nat → Int) (p : Array Nat) (a : Nat) : Int := g (p.getD a 0)
structure PP (n : Nat) (p : Array Nat) : Prop where
  size : p.size = n
  perm : p.toList.Perm (List.range n)
noncomputable def Gi (g : Nat → Int) (n : Nat) : Prop := ∀ i j, i < n → j < n → g i = g j → i = j
noncomputable def CmpIs (cmp : Nat → Nat → (Bool → Shared → Prop) → Shared → Prop) (g : Nat → Int) (n : Nat) (s : Shared) : Prop := ∀ i j C, i < n → j < n → C (decide (g i < g j)) s → cmp i j C s
noncomputable def Up (g : Nat → Int) (p : Array Nat) (m : Nat) : Prop := ∀ a b, a < b → b < m → vat g p a < vat g p b
noncomputable def Dn (g : Nat → Int) (p : Array Nat) (m : Nat) : Prop := ∀ a b, a < b → b < m → vat g p b < vat g p a
section
variable {n : Nat} {g : Nat → Int} {cmp : Nat → Nat → (Bool → Shared → Prop) → Shared → Prop} {s : Shared} {p : Array Nat}
theorem getD_list {a : Nat} : p.getD a 0 = (p.toList[a]?).getD 0 := by
  rw [Array.getD_eq_getD_getElem?, Array.getElem?_toList]
theorem PP.mem (P : PP n p) {a : Nat} (h : a < n) : p.toList[a]? = some (p.getD a 0) := by
  have h2 : a < p.toList.length := by rw [Array.length_toList, P.size]; exact h
  rw [getD_list, List.getElem?_eq_getElem h2]; rfl
theorem PP.lt (P : PP n p) {a : Nat} (h : a < n) : p.getD a 0 < n := List.mem_range.mp (P.perm.mem_iff.mp (List.mem_of_getElem? (P.mem h)))
theorem PP.nd (P : PP n p) : p.toList.Nodup := P.perm.nodup_iff.mpr List.nodup_range
theorem PP.ne (P : PP n p) (hg : Gi g n) {a b : Nat} (ha : a < n) (hb : b < n) (h : a ≠ b) : vat g p a ≠ vat g p b := by
  intro q
  have e := hg _ _ (P.lt ha) (P.lt hb) q
  have h1 := P.mem ha
  have h2 := P.mem hb
  rw [e, ← h2] at h1
  exact h ((List.getElem?_inj (by rw [Array.length_toList, P.size]; exact ha) P.nd).mp h1)
theorem PP.lt_of (P : PP n p) (hg : Gi g n) {a b : Nat} (ha : a < n) (hb : b < n) (h : a ≠ b) (q : ¬ vat g p a < vat g p b) : vat g p b < vat g p a := by
  have := P.ne hg ha hb h
  omega
theorem Up.more {m : Nat} (h : Up g p m) (hm : 1 ≤ m) (q : vat g p (m - 1) < vat g p m) : Up g p (m + 1) := fun a b hab hb => by
  rcases Nat.lt_or_ge b m with h1 | h1
  · exact h a b hab h1
  · have : b = m := by omega
    subst this
    by_cases h2 : a = b - 1
    · rw [h2]; exact q
    · have := h a (b - 1) (by omega) (by omega)
      omega
theorem Dn.more {m : Nat} (h : Dn g p m) (hm : 1 ≤ m) (q : vat g p m < vat g p (m - 1)) : Dn g p (m + 1) := fun a b hab hb => by
  rcases Nat.lt_or_ge b m with h1 | h1
  · exact h a b hab h1
  · have : b = m := by omega
    subst this
    by_cases h2 : a = b - 1
    · rw [h2]; exact q
    · have := h a (b - 1) (by omega) (by omega)
      omega
theorem asc_wp (hg : Gi g n) (hc : CmpIs cmp g n s) (P : PP n p) {Q : Nat → Shared → Prop} : ∀ (f m : Nat), 1 ≤ m → m + f ≤ n → Up g p m → (∀ m', m ≤ m' → m' ≤ m + f → Up g p m' → (m' < m + f → vat g p m' < vat g p (m' - 1)) → Q m' s) → (W.kas_asc p f m).kasWp cmp Q s
  | 0, m, _, _, hu, hQ => hQ m (Nat.le_refl _) (Nat.le_refl _) hu fun h => absurd h (Nat.lt_irrefl _)
  | f + 1, m, h1, h2, hu, hQ => by
    show cmp (p.getD m 0) (p.getD (m - 1) 0) (fun c s' => (if c = true then W.KasT.ret m else W.kas_asc p f (m + 1)).kasWp cmp Q s') s
    refine hc _ _ _ (P.lt (by omega)) (P.lt (by omega)) ?_
    by_cases hq : vat g p m < vat g p (m - 1)
    · rw [show decide (g (p.getD m 0) < g (p.getD (m - 1) 0)) = true from decide_eq_true hq, if_pos rfl]
      exact hQ m (Nat.le_refl _) (by omega) hu fun _ => hq
    · rw [show decide (g (p.getD m 0) < g (p.getD (m - 1) 0)) = false from decide_eq_false hq, if_neg (by decide)]
      exact asc_wp hg hc P f (m + 1) (by omega) (by omega) (hu.more h1 (P.lt_of hg (by omega) (by omega) (by omega) hq)) fun m' a b c d => hQ m' (by omega) (by omega) c fun e => d (by omega)
theorem desc_wp (hg : Gi g n) (hc : CmpIs cmp g n s) (P : PP n p) {Q : Array Nat × Nat × Nat → Shared → Prop} : ∀ (f m : Nat), 1 ≤ m → m + f ≤ n → Dn g p m → (∀ m', m ≤ m' → m' ≤ m + f → Dn g p m' → Q (p, m', 0) s) → (W.kas_desc f p m 0).kasWp cmp Q s
  | 0, m, _, _, hu, hQ => hQ m (Nat.le_refl _) (Nat.le_refl _) hu
  | f + 1, m, h1, h2, hu, hQ => by
    show cmp (p.getD m 0) (p.getD (m - 1) 0) (fun c s' => (if c = true then (if (0 : Nat) > 0 then W.kas_desc f (W.kas_rev p (m - (0 + 1)) m) (m + 1) 0 else W.kas_desc f p (m + 1) 0)
      else W.KasT.ask (p.getD (m - 1) 0) (p.getD m 0) fun d => if d = true then .ret (p, m, 0) else W.kas_desc f p (m + 1) (0 + 1)).kasWp cmp Q s') s
    refine hc _ _ _ (P.lt (by omega)) (P.lt (by omega)) ?_
    by_cases hq : vat g p m < vat g p (m - 1)
    · rw [show decide (g (p.getD m 0) < g (p.getD (m - 1) 0)) = true from decide_eq_true hq, if_pos rfl, if_neg (Nat.lt_irrefl 0)]
      exact desc_wp hg hc P f (m + 1) (by omega) (by omega) (hu.more h1 hq) fun m' a b c => hQ m' (by omega) (by omega) c
    · rw [show decide (g (p.getD m 0) < g (p.getD (m - 1) 0)) = false from decide_eq_false hq, if_neg (by decide)]
      refine hc _ _ _ (P.lt (by omega)) (P.lt (by omega)) ?_
      have hq' := P.lt_of hg (a := m) (b := m - 1) (by omega) (by omega) (by omega) hq
      rw [show decide (g (p.getD (m - 1) 0) < g (p.getD m 0)) = true from decide_eq_true hq']
      exact hQ m (Nat.le_refl _) (by omega) hu
theorem rev_at {m k : Nat} (hm : m ≤ p.size) (hk : k < m) : (W.kas_rev p 0 m).getD k 0 = p.getD (m - 1 - k) 0 := by
  rw [Array.getD_eq_getD_getElem?, Array.getD_eq_getD_getElem?]
  unfold W.kas_rev
  rw [getElem?_mirror_all (i := 0) hm, if_pos ⟨Nat.zero_le _, hk⟩, Nat.zero_add]
theorem rev_pp (P : PP n p) (m : Nat) : PP n (W.kas_rev p 0 m) where
  size := by unfold W.kas_rev; rw [mirror_size, P.size]
  perm := (Array.perm_iff_toList_perm.mp (mirror_perm p 0 m _)).trans P.perm
theorem rev_up {m : Nat} (P : PP n p) (hm : m ≤ n) (h : Dn g p m) : Up g (W.kas_rev p 0 m) m := fun a b hab hb => by
  have hs : m ≤ p.size := by rw [P.size]; exact hm
  unfold vat
  rw [rev_at hs (by omega), rev_at hs hb]
  exact h (m - 1 - b) (m - 1 - a) (by omega) (by omega)
theorem tail3_wp (hg : Gi g n) (hc : CmpIs cmp g n s) (P : PP n p) {m : Nat} {Q : Nat × Array Nat → Shared → Prop} (h1 : 1 ≤ m) (h2 : m ≤ n) (hd : Dn g p m) (hQ : ∀ m' p', PP n p' → 1 ≤ m' → m' ≤ n → Up g p' m' → Q (m', p') s) : (W.kas_tail3 m n p).kasWp cmp Q s := by
  unfold W.kas_tail3
  rw [W.KasT.kasWp_bind]
  exact asc_wp hg hc (rev_pp P m) (n - m) m h1 (by omega) (rev_up P h2 hd) fun m' a b c _ => hQ m' _ (rev_pp P m) (by omega) (by omega) c
theorem count_wp (hg : Gi g n) (hc : CmpIs cmp g n s) (P : PP n p) (hn : 2 ≤ n) {Q : Nat × Array Nat → Shared → Prop} (hQ : ∀ m' p', PP n p' → 1 ≤ m' → m' ≤ n → Up g p' m' → Q (m', p') s) : (W.kas_count n p).kasWp cmp Q s := by
  unfold W.kas_count
  rw [W.KasT.kasWp_bind]
  refine asc_wp hg hc P (n - 1) 1 (Nat.le_refl _) (by omega) (fun a b hab hb => by omega) fun m a b c d => ?_
  by_cases h1 : m = n
  · rw [if_pos (by simp [h1])]
    exact hQ m p P a (by omega) c
  · rw [if_neg (by simpa using h1)]
    by_cases h2 : m > 1
    · rw [if_pos h2]
      show cmp (p.getD 0 0) (p.getD (m - 1) 0) (fun c s' => (if c = true then W.KasT.ret (m, p) else W.kas_descPart m n (W.kas_rev p 0 m)).kasWp cmp Q s') s
      refine hc _ _ _ (P.lt (by omega)) (P.lt (by omega)) ?_
      rw [show decide (g (p.getD 0 0) < g (p.getD (m - 1) 0)) = true from decide_eq_true (c 0 (m - 1) (by omega) (by omega)), if_pos rfl]
      exact hQ m p P a (by omega) c
    · rw [if_neg h2]
      have hm : m = 1 := by omega
      subst hm
      have hlt := d (by omega)
      unfold W.kas_descPart
      rw [W.KasT.kasWp_bind]
      refine desc_wp hg hc P (n - (1 + 1)) (1 + 1) (by omega) (by omega) (fun a b hab hb => ?_) fun m' a b c => ?_
      · have ha : a = 0 := by omega
        have hb : b = 1 := by omega
        rw [ha, hb]; exact hlt
      · show (if (0 : Nat) > 0 then _ else W.kas_tail3 m' n p : W.KasT _).kasWp cmp Q s
        rw [if_neg (Nat.lt_irrefl 0)]
        exact tail3_wp hg hc P (by omega) (by omega) c hQ
/-- where the next one goes -/
theorem place_wp (hg : Gi g n) (hc : CmpIs cmp g n s) (P : PP n p) {k : Nat} (hk : k < n) (hu : Up g p k) {Q : Nat → Shared → Prop} (hQ : ∀ l, l ≤ k → (∀ a, a < l → vat g p a < vat g p k) → (∀ a, l ≤ a → a < k → vat g p k < vat g p a) → Q l s) :
    ∀ (f l r : Nat), l ≤ r → r ≤ k → r - l ≤ f → (∀ a, a < l → vat g p a < vat g p k) → (∀ a, r ≤ a → a < k → vat g p k < vat g p a) → (W.kas_place p k f l r).kasWp cmp Q s
  | 0, l, r, h1, h2, h3, h4, h5 => hQ l (by omega) h4 fun a ha hb => h5 a (by omega) hb
  | f + 1, l, r, h1, h2, h3, h4, h5 => by
    unfold W.kas_place
    by_cases hlr : l ≥ r
    · rw [if_pos hlr]
      exact hQ l (by omega) h4 fun a ha hb => h5 a (by omega) hb
    · rw [if_neg hlr]
      have m1 : l ≤ (l + r) / 2 := by omega
      have m2 : (l + r) / 2 < r := by omega
      generalize (l + r) / 2 = m at m1 m2
      show cmp (p.getD k 0) (p.getD m 0) (fun c s' => (if c = true then W.kas_place p k f l m else W.kas_place p k f (m + 1) r).kasWp cmp Q s') s
      refine hc _ _ _ (P.lt hk) (P.lt (by omega)) ?_
      by_cases hq : vat g p k < vat g p m
      · rw [show decide (g (p.getD k 0) < g (p.getD m 0)) = true from decide_eq_true hq, if_pos rfl]
        refine place_wp hg hc P hk hu hQ f l m m1 (by omega) (by omega) h4 fun a ha hb => ?_
        rcases Nat.eq_or_lt_of_le ha with e | e
        · rw [← e]; exact hq
        · exact Int.lt_trans hq (hu m a e hb)
      · rw [show decide (g (p.getD k 0) < g (p.getD m 0)) = false from decide_eq_false hq, if_neg (by decide)]
        have hq' := P.lt_of hg (a := k) (b := m) hk (by omega) (by omega) hq
        refine place_wp hg hc P hk hu hQ f (m + 1) r (by omega) h2 (by omega) (fun a ha => ?_) h5
        rcases Nat.eq_or_lt_of_le (Nat.le_of_lt_succ ha) with e | e
        · rw [e]; exact hq'
        · exact Int.lt_trans (hu a m e (by omega)) hq'
theorem bub_pp (P : PP n p) (k d : Nat) : PP n (bubble p k d) where
  size := by rw [bubble_size, P.size]
  perm := (Array.perm_iff_toList_perm.mp (bubble_perm p k d)).trans P.perm
theorem bub_at {k l j : Nat} (hk : k < p.size) (hl : l ≤ k) : (bubble p k (k - l)).getD j 0 = if j = l then p.getD k 0 else if l < j ∧ j ≤ k then p.getD (j - 1) 0 else p.getD j 0 := by
  have e := getElem?_bubble hk (k - l) (Nat.sub_le _ _) j
  rw [show k - (k - l) = l by omega] at e
  rw [Array.getD_eq_getD_getElem?, e]
  by_cases h1 : j = l
  · rw [if_pos h1, if_pos h1, Array.getD_eq_getD_getElem?]
  · rw [if_neg h1, if_neg h1]
    by_cases h2 : l < j ∧ j ≤ k
    · rw [if_pos h2, if_pos h2, Array.getD_eq_getD_getElem?]
    · rw [if_neg h2, if_neg h2, Array.getD_eq_getD_getElem?]
theorem bub_up (P : PP n p) {k l : Nat} (hk : k < n) (hl : l ≤ k) (hu : Up g p k) (h4 : ∀ a, a < l → vat g p a < vat g p k) (h5 : ∀ a, l ≤ a → a < k → vat g p k < vat g p a) : Up g (bubble p k (k - l)) (k + 1) := fun a b hab hb => by
  have hs : k < p.size := by rw [P.size]; exact hk
  unfold vat
  rw [bub_at hs hl, bub_at hs hl]
  rcases Nat.lt_trichotomy b l with c | c | c
  · rw [if_neg (by omega), if_neg (by omega), if_neg (by omega), if_neg (by omega)]
    exact hu a b hab (by omega)
  · rw [if_neg (by omega), if_neg (by omega), if_pos c]
    exact h4 a (by omega)
  · rw [if_neg (show ¬ b = l by omega), if_pos (show l < b ∧ b ≤ k by omega)]
    rcases Nat.lt_trichotomy a l with e | e | e
    · rw [if_neg (by omega), if_neg (by omega)]
      exact hu a (b - 1) (by omega) (by omega)
    · rw [if_pos e]
      exact h5 (b - 1) (by omega) (by omega)
    · rw [if_neg (by omega), if_pos (by omega)]
      exact hu (a - 1) (b - 1) (by omega) (by omega)
theorem bin_wp (hg : Gi g n) (hc : CmpIs cmp g n s) {Q : Array Nat → Shared → Prop} (hQ : ∀ p', PP n p' → Up g p' n → Q p' s) : ∀ (f : Nat) (p : Array Nat) (k : Nat), PP n p → k + f = n → Up g p k → (W.kas_bin f p k).kasWp cmp Q s
  | 0, p, k, P, h, hu => hQ p P (by rw [← h]; exact hu)
  | f + 1, p, k, P, h, hu => by
    unfold W.kas_bin
    rw [W.KasT.kasWp_bind]
    have hk : k < n := by omega
    refine place_wp hg hc P hk hu (fun l a b c => ?_) k 0 k (Nat.zero_le _) (Nat.le_refl _) (Nat.sub_le _ _) (fun a ha => absurd ha (Nat.not_lt_zero _)) fun a ha hb => by omega
    exact bin_wp hg hc hQ f _ (k + 1) (bub_pp P k _) (by omega) (bub_up P hk a hu b c)
theorem sort_wp (hg : Gi g n) (hc : CmpIs cmp g n s) (hn : 2 ≤ n) {Q : Array Nat → Shared → Prop} (hQ : ∀ p', PP n p' → Up g p' n → Q p' s) : (W.kas_sort n).kasWp cmp Q s := by
  unfold W.kas_sort
  rw [W.KasT.kasWp_bind]
  have hsz : (List.toArray (List.range n)).size = n := (List.size_toArray).trans List.length_range
  refine count_wp hg hc ⟨hsz, List.Perm.refl _⟩ hn fun m p P h1 h2 hu => ?_
  show (if m < n then W.kas_bin (n - max m 1) p (max m 1) else W.KasT.ret p).kasWp cmp Q s
  rw [Nat.max_eq_left h1]
  by_cases h : m < n
  · rw [if_pos h]
    exact bin_wp hg hc hQ (n - m) p m P (by omega) hu
  · rw [if_neg h]
    have : m = n := by omega
    exact hQ p P (this ▸ hu)
end
end Mine
end

section
open PySem PyProof.Rows
set_option Elab.async false
set_option maxRecDepth 10000
set_option linter.unusedVariables false
namespace Mine

/-! sorted(zip(numbers, range(..))) -/
noncomputable def keyZ (p : Int × Nat) : Int := p.1 * 64 + (p.2 : Int)
noncomputable def keysZ (fs : List Int) : List Int := fs.zipIdx.map keyZ
noncomputable def decZ (k : Int) : PyData := .tuple [.int (k / 64), .int (k % 64)]
theorem dec_key (f : Int) {i : Nat} (h : i < 64) : decZ (keyZ (f, i)) = .tuple [.int f, .int (i : Int)] := by
  unfold decZ keyZ
  have h1 : (f * 64 + (i : Int)) / 64 = f := by omega
  have h2 : (f * 64 + (i : Int)) % 64 = (i : Int) := by omega
  rw [h1, h2]
section
variable {prog : Program} {w : World} {A : Around} {E : Value → Shared → Prop} {s : Shared}
/-- the pairs, as they lie there -/
structure PrsAt (h : Heap) (vs : List Value) (fs : List Int) : Prop where
  len : vs.length = fs.length
  get : ∀ (i : Nat) (f : Int), fs[i]? = some f → ∃ (a : Addr) (t u : Tok), vs[i]? = some (Value.ref a) ∧ IsPair h a (.int f t) (.int (i : Int) u)
theorem PrsAt.mono {h h' : Heap} {vs : List Value} {fs : List Int} (P : PrsAt h vs fs) (k : ∀ b o, o.cls = .type "tuple" → h.get? b = some o → h'.get? b = some o) : PrsAt h' vs fs := ⟨P.len, fun i f e => by
  obtain ⟨a, t, u, h1, h2⟩ := P.get i f e
  exact ⟨a, t, u, h1, k _ _ rfl h2⟩⟩
noncomputable def gZ (fs : List Int) (i : Nat) : Int := keyZ (fs.getD i 0, i)
theorem gZ_lt {fs : List Int} {i j : Nat} (hi : i < 64) (hj : j < 64) : (gZ fs i < gZ fs j) ↔ (fs.getD i 0 < fs.getD j 0 ∨ (fs.getD i 0 = fs.getD j 0 ∧ i < j)) := by
  unfold gZ keyZ
  show (fs.getD i 0 * 64 + (i : Int) < fs.getD j 0 * 64 + (j : Int)) ↔ _
  omega
theorem gZ_inj {fs : List Int} {n : Nat} (h : n ≤ 64) : Gi (gZ fs) n := fun i j hi hj e => by
  unfold gZ keyZ at e
  have e : fs.getD i 0 * 64 + (i : Int) = fs.getD j 0 * 64 + (j : Int) := e
  omega
theorem ask_pairs {fs : List Int} {vs : List Value} (P : PrsAt s.heap vs fs) (h64 : fs.length < 64) : CmpIs (W.kas_ask prog w A (tuples' true) vs) (gZ fs) fs.length s := fun i j C hi hj hC => by
  have hi' : fs[i]? = some (fs.getD i 0) := by rw [List.getD_eq_getElem?_getD, List.getElem?_eq_getElem hi]; rfl
  have hj' : fs[j]? = some (fs.getD j 0) := by rw [List.getD_eq_getElem?_getD, List.getElem?_eq_getElem hj]; rfl
  obtain ⟨a, t, u, h1, h2⟩ := P.get i _ hi'
  obtain ⟨b, t', u', h3, h4⟩ := P.get j _ hj'
  have d1 : vs.getD i Value.none = .ref a := by rw [List.getD_eq_getElem?_getD, h1]; rfl
  have d2 : vs.getD j Value.none = .ref b := by rw [List.getD_eq_getElem?_getD, h3]; rfl
  have hlt := gZ_lt (fs := fs) (i := i) (j := j) (by omega) (by omega)
  generalize fs.getD i 0 = f at *
  generalize fs.getD j 0 = f' at *
  unfold W.kas_ask
  rw [d1, d2]
  refine W.kat_lt h2 rfl h4 rfl ?_
  show W.KatLex prog w A true _ C [(.int f t, .int f' t'), (.int (i : Int) u, .int (j : Int) u')] 0 s
  refine W.kat_cons (SeqAt.EqAt.int_int f t f' t' prog w _ _ ?_)
  by_cases hf : f = f'
  · rw [show (f == f') = true from beq_iff_eq.mpr hf]
    refine W.kat_yes (W.kat_cons (SeqAt.EqAt.int_int (i : Int) u (j : Int) u' prog w _ _ ?_))
    by_cases hij : i = j
    · rw [show ((i : Int) == (j : Int)) = true from by rw [beq_iff_eq, hij]]
      refine W.kat_yes (W.kat_nil ?_)
      have e : decide (gZ fs i < gZ fs j) = false := decide_eq_false (by rw [hlt]; omega)
      rw [e] at hC
      exact hC
    · rw [show ((i : Int) == (j : Int)) = false from by rw [beq_eq_false_iff_ne]; omega]
      refine W.kat_no ?_
      show wpAny _ _ (oneLt' false (.int (i : Int) u) (.int (j : Int) u')) _ _ _
      have e : decide (gZ fs i < gZ fs j) = decide ((i : Int) < (j : Int)) := by
        rw [Bool.eq_iff_iff, decide_eq_true_eq, decide_eq_true_eq, hlt]; omega
      rw [e] at hC
      exact W.kat_one _ _ (PyProof.Rows.lt_int hC)
  · rw [show (f == f') = false from by rw [beq_eq_false_iff_ne]; exact hf]
    refine W.kat_no ?_
    show wpAny _ _ (oneLt' true (.int f t) (.int f' t')) _ _ _
    have e : decide (gZ fs i < gZ fs j) = decide (f < f') := by
      rw [Bool.eq_iff_iff, decide_eq_true_eq, decide_eq_true_eq, hlt]; omega
    rw [e] at hC
    rw [← keyLt'_oneType]
    exact W.kat_lt_int hC
theorem tups_of {h : Heap} : ∀ {vs : List Value} {fs : List Int} {k : Nat}, vs.length = fs.length → (∀ (i : Nat) (f : Int), fs[i]? = some f → ∃ (a : Addr) (t u : Tok), vs[i]? = some (Value.ref a) ∧ IsPair h a (.int f t) (.int ((k + i : Nat) : Int) u)) → ∃ ws, W.KatTups h vs ws ∧ ws.length = fs.length ∧ ∀ v ∈ ws, ∃ f t, v = .int f t
  | [], [], _, _, _ => ⟨[], W.KatTups.nil, rfl, fun _ h => nomatch h⟩
  | [], _ :: _, _, e, _ => nomatch e
  | _ :: _, [], _, e, _ => nomatch e
  | v :: vs, f :: fs, k, e, H => by
    obtain ⟨a, t, u, h1, h2⟩ := H 0 f rfl
    cases h1
    obtain ⟨ws, g1, g2, g3⟩ := tups_of (vs := vs) (fs := fs) (k := k + 1) (Nat.succ.inj e) fun i f' hf => by
      obtain ⟨a, t, u, h1, h2⟩ := H (i + 1) f' hf
      exact ⟨a, t, u, h1, by rw [show k + 1 + i = k + (i + 1) by omega]; exact h2⟩
    refine ⟨.int f t :: ws, W.KatTups.cons h2 rfl rfl rfl g1, by rw [List.length_cons, List.length_cons, g2], fun w hw => ?_⟩
    rcases List.mem_cons.mp hw with rfl | hw
    · exact ⟨_, _, rfl⟩
    · exact g3 w hw
theorem list_sort_pairs {a : Addr} {vs : List Value} {fs : List Int} {n : Nat} {P : PySem.Fin → Shared → Prop} (ho : s.heap.get? a = some (seqObj "list" vs.toArray n)) (H : PrsAt s.heap vs fs) (h64 : fs.length < 64)
    (h : ∀ p : Array Nat, PP fs.length p → Up (gZ fs) p fs.length → P (.done (.ret .none)) { s with heap := sortedHeap s.heap a vs (List.toArray (p.toList.map fun i => vs.getD i Value.none)) }) :
    wpAny (model prog w) A (Builtin.«list.sort» ⟨[.ref a], []⟩) P E s := by
  rw [list_sort_plain]
  have ha : a < s.heap.objs.size := Heap.lt_size ho
  have hv64 : vs.length < 64 := by rw [H.len]; exact h64
  refine wpAny_bind (listItems_at ho rfl ?_)
  refine wpAny_bind (listUpdate_at ho rfl ?_ (by rw [List.size_toArray, sizeLine_eq]; omega) (Nat.zero_le _))
  obtain ⟨e1, ho1⟩ : ∃ e1, (s.heap.update a (Obj.mapSeq fun _ => #[])).get? a = some (seqObj "list" #[] e1) := ⟨_, get?_update_seq ho (fun _ => #[])⟩
  refine wpAny_bind (seqEpoch_at ho1 rfl ?_)
  refine wpAny_bind (wpAny_newTuple ?_ (by show vs.length ≤ _; rw [sizeLine_eq]; omega))
  refine wpAny_bind (wpAny_newList ?_ (Nat.zero_le _))
  refine wpAny_holding ?_
  have ho6 : (((s.heap.update a (Obj.mapSeq fun _ => #[])).push (seqObj "tuple" vs.toArray 0)).push (seqObj "list" #[] 0)).get? a = some (seqObj "list" #[] e1) := by
    rw [Heap.get?_push_ne _ _ _ (by rw [size_push', Heap.size_update]; exact Nat.ne_of_lt (Nat.lt_succ_of_lt ha)), Heap.get?_push_ne _ _ _ (by rw [Heap.size_update]; exact Nat.ne_of_lt ha)]
    exact ho1
  have H6 : PrsAt (((s.heap.update a (Obj.mapSeq fun _ => #[])).push (seqObj "tuple" vs.toArray 0)).push (seqObj "list" #[] 0)) vs fs := H.mono fun b o hc e => by
    have hba : b ≠ a := fun q => by rw [q, ho] at e; cases e; exact absurd hc (by simp)
    exact Heap.get?_push_of_some _ (Heap.get?_push_of_some _ ((Heap.get?_update_ne _ _ _ _ hba).trans e))
  show wpAny (model prog w) A _ P E { s with heap := ((s.heap.update a (Obj.mapSeq fun _ => #[])).push (seqObj "tuple" vs.toArray 0)).push (seqObj "list" #[] 0) }
  dsimp only
  have fin := h
  unfold sortedHeap at fin
  generalize ((s.heap.update a (Obj.mapSeq fun _ => #[])).push (seqObj "tuple" vs.toArray 0)).push (seqObj "list" #[] 0) = h6 at ho6 H6 fin ⊢
  by_cases h2 : vs.toArray.size < 2
  · rw [if_pos h2, if_pos h2]
    refine wpAny_bind (wpAny_pure ?_)
    rw [StateT.run_pure]
    refine wpAny_bind (wpAny_pure ?_)
    dsimp only
    refine wpAny_bind (seqEpoch_at ho6 rfl ?_)
    refine wpAny_bind (listUpdate_at ho6 rfl ?_ (Nat.zero_le _) (by rw [Array.size_map]; show (pairsOf vs).size ≤ _; rw [pairsOf_size, sizeLine_eq]; omega))
    simp only [bne_self_eq_false, Bool.false_eq_true, if_false]
    rw [List.size_toArray, H.len] at h2
    have hr : PP fs.length (List.toArray (List.range fs.length)) := ⟨(List.size_toArray).trans List.length_range, List.Perm.refl _⟩
    have hp := fin (List.toArray (List.range fs.length)) hr fun a b hab hb => by omega
    refine wpAny_pure ?_
    have e : (arrOf (SortSt.mk' general' (vs.toArray.zip vs.toArray) #[] 7 none)).map (·.2) = List.toArray ((List.toArray (List.range fs.length)).toList.map fun i => vs.getD i Value.none) := by
      apply Array.toList_inj.mp
      show ((pairsOf vs).map (·.2)).toList = (List.range fs.length).map fun i => vs.getD i Value.none
      rw [Array.toList_map, pairsOf_toList, List.map_snd_zip (Nat.le_refl _), ← H.len]
      apply List.ext_getElem?
      intro k
      rw [List.getElem?_map]
      by_cases hk : k < vs.length
      · rw [List.getElem?_range hk, List.getElem?_eq_getElem hk]
        show some vs[k] = some (vs.getD k Value.none)
        rw [List.getD_eq_getElem?_getD, List.getElem?_eq_getElem hk]; rfl
      · rw [List.getElem?_eq_none (by omega), List.getElem?_eq_none (by rw [List.length_range]; omega)]; rfl
    rw [e]
    exact hp
  · rw [if_neg h2, if_neg h2]
    rw [List.size_toArray] at h2
    obtain ⟨ws, t1, t2, t3⟩ := tups_of (k := 0) H6.len fun i f hf => by
      obtain ⟨a, t, u, h1, h2⟩ := H6.get i f hf
      exact ⟨a, t, u, h1, by rw [Nat.zero_add]; exact h2⟩
    refine wpAny_bind (W.kat_kind (T := .type "int") t1 (by rw [t2, ← H.len]; omega) (fun v hv => ?_) rfl ?_)
    · obtain ⟨f, t, rfl⟩ := t3 v hv
      exact W.Looks.of_pure rfl
    · show wpAny _ _ _ _ _ _
      have hs := sort_wp (s := { s with heap := h6 }) (cmp := W.kas_ask prog w A (tuples' true) vs) (gZ_inj (fs := fs) (n := fs.length) (by omega)) (ask_pairs H6 h64) (by rw [← H.len]; omega) (Q := fun p s' => s' = { s with heap := h6 } ∧ PP fs.length p ∧ Up (gZ fs) p fs.length) fun p a b => ⟨rfl, a, b⟩
      rw [← H.len] at hs
      refine wpAny_bind (wpAny_mono (W.kat_run (ks := vs) (vs := vs) (Q := fun st' s' => ∃ p : Array Nat, arrOf st' = p.map (W.kas_item (vs.toArray.zip vs.toArray)) ∧ failedOf st' = none ∧ s' = { s with heap := h6 } ∧ PP fs.length p ∧ Up (gZ fs) p fs.length) rfl (by omega) hv64 (fun p' st' s' a1 a2 a3 a4 => ⟨p', a2, a3, a4⟩) (by rw [H.len] at hs ⊢; exact hs)) ?_ fun _ _ e => e)
      rintro ⟨⟨⟩, st'⟩ s' ⟨p, har, hf, rfl, hp, hu⟩
      dsimp only
      have hout := W.kat_snds rfl har
      rw [hout]
      refine wpAny_bind (seqEpoch_at ho6 rfl ?_)
      refine wpAny_bind (listUpdate_at ho6 rfl ?_ (Nat.zero_le _) (by rw [List.size_toArray, List.length_map, Array.length_toList, hp.size, sizeLine_eq]; omega))
      rw [hf]
      simp only [bne_self_eq_false, Bool.false_eq_true, if_false]
      exact wpAny_pure (fin p hp hu)
end
end Mine
end

section
open PySem PyProof.Rows
set_option Elab.async false
set_option maxRecDepth 10000
set_option linter.unusedVariables false
namespace Mine

noncomputable def sortZV : List V → Option (List PyData)
  | [.dat (.list ds), .rng lo hi] => if lo = 0 ∧ hi = ds.length ∧ ds.length < 64 then (intsOf ds).map fun fs => (sortI (keysZ fs)).map decZ else none
  | _ => none
noncomputable def sortZM (ms : List (M V)) : M V := do
  let vs ← seqS ms
  match sortZV vs with
  | some ds => mpure (.dat (.list ds))
  | none => mfail
theorem keysZ_eq (fs : List Int) : keysZ fs = (List.range fs.length).map (gZ fs) := by
  unfold keysZ
  apply List.ext_getElem?
  intro k
  rw [List.getElem?_map, List.getElem?_map, List.getElem?_zipIdx]
  by_cases hk : k < fs.length
  · rw [List.getElem?_range hk, List.getElem?_eq_getElem hk]
    show some (keyZ (fs[k], 0 + k)) = some (gZ fs k)
    unfold gZ
    rw [List.getD_eq_getElem?_getD, List.getElem?_eq_getElem hk, Nat.zero_add]; rfl
  · rw [List.getElem?_eq_none (by omega), List.getElem?_eq_none (by rw [List.length_range]; omega)]; rfl
theorem sortZ_eq {fs : List Int} {p : Array Nat} (P : PP fs.length p) (hu : Up (gZ fs) p fs.length) : p.toList.map (gZ fs) = sortI (keysZ fs) := by
  refine sortI_eq ?_ ?_
  · rw [keysZ_eq]; exact P.perm.map _
  · rw [List.pairwise_iff_getElem]
    intro i j hi hj hij
    rw [List.length_map, Array.length_toList, P.size] at hi hj
    have h := hu i j hij hj
    unfold vat at h
    have e1 := P.mem hi
    have e2 := P.mem hj
    rw [List.getElem_map, List.getElem_map]
    rw [List.getElem?_eq_getElem (by rw [Array.length_toList, P.size]; exact hi)] at e1
    rw [List.getElem?_eq_getElem (by rw [Array.length_toList, P.size]; exact hj)] at e2
    rw [Option.some.inj e1, Option.some.inj e2]
    exact decide_eq_true (Int.le_of_lt h)
theorem intsOf_at : ∀ {ds : List PyData} {fs : List Int}, intsOf ds = some fs → ds = fs.map .int
  | [], fs, h => by cases h; rfl
  | d :: ds, fs, h => by
    cases d with
    | int i =>
      obtain ⟨gs, hg, rfl⟩ := Option.map_eq_some_iff.mp h
      rw [intsOf_at hg]; rfl
    | _ => cases h
section
variable {X : Cx} {n : Nat} {env : Env} {P : Prm} {A : Around} {ρ : List Addr} {μ : Mu} {σ : St} {s : Shared}
theorem prs_of {h0 h : Heap} {ok : Addr → Prop} {fs : List Int} {P1 P2 : Nat → Value → Prop} {as : List Addr} (Z : ZP h0 ok (fs.map .int) (intsD 0 (fs.length : Int)) P1 P2) (G : ZAll P1 P2 h0 h as) (hl : as.length = fs.length) : PrsAt h (as.map Value.ref) fs where
  len := by rw [List.length_map, hl]
  get := fun i f hf => by
    have hi : i < fs.length := (List.getElem?_eq_some_iff.mp hf).1
    have ha : as[i]? = some as[i] := List.getElem?_eq_getElem (by rw [hl]; exact hi)
    obtain ⟨x, y, h1, h2, h3, _⟩ := G i _ ha
    obtain ⟨d1, e1, r1⟩ := Z.g1 i x (by rw [List.length_map]; exact hi) h1
    obtain ⟨d2, e2, r2⟩ := Z.g2 i y (by rw [List.length_map]; exact hi) h2
    rw [List.getElem?_map, hf] at e1
    cases e1
    unfold intsD at e2
    rw [List.getElem?_map, List.getElem?_range (by omega)] at e2
    cases e2
    simp only [DR] at r1 r2
    obtain ⟨t, rfl⟩ := r1
    obtain ⟨u, rfl⟩ := r2
    rw [Int.zero_add] at h3
    exact ⟨as[i], t, u, by rw [List.getElem?_map, ha]; rfl, h3⟩
theorem Ev_SortZip (ok : CxOk X) {p1 p2 pos1 pos2 : Pos} {es : List Expr} {ms : List (M V)} (he : EvL X (n + 1) env es ms) (hst : es.all noStar = true) (hk1 : gKind env (Str.ofString "sorted") = true) (hk2 : gKind env (Str.ofString "zip") = true) :
    Ev X (n + 1) env (.Call (.Name (Str.ofString "sorted") p1) [.Call (.Name (Str.ofString "zip") p2) es [] pos2] [] pos1) (sortZM ms) := by
  intro A ρ μ σ s ga R v σ' e
  refine mbind_elim e fun vs σ1 e1 q => ?_
  match vs, e1, q with
  | [.dat (.list ds), .rng lo hi], e1, q =>
    by_cases hc : lo = 0 ∧ hi = ds.length ∧ ds.length < 64
    · cases hi0 : intsOf ds with
      | none =>
        have q : (match (if lo = 0 ∧ hi = ds.length ∧ ds.length < 64 then (intsOf ds).map fun fs => (sortI (keysZ fs)).map decZ else none) with | some ds => mpure (V.dat (.list ds)) | none => mfail) σ1 = some (v, σ') := q
        rw [if_pos hc, hi0] at q; cases q
      | some fs =>
        have q : (match (if lo = 0 ∧ hi = ds.length ∧ ds.length < 64 then (intsOf ds).map fun fs => (sortI (keysZ fs)).map decZ else none) with | some ds => mpure (V.dat (.list ds)) | none => mfail) σ1 = some (v, σ') := q
        rw [if_pos hc, hi0] at q
        cases q
        have hds := intsOf_at hi0
        subst hds
        obtain ⟨rfl, rfl, h64⟩ := hc
        rw [List.length_map] at h64
        have hsm : smallR 0 ((fs.map PyData.int).length : Int) = true := by rw [List.length_map]; exact decide_eq_true ⟨by decide, by omega, by unfold big; omega⟩
        have hz : zipV [.dat (.list (fs.map .int)), .rng 0 ((fs.map PyData.int).length : Int)] = some (fs.map .int, intsD 0 ((fs.map PyData.int).length : Int)) := if_pos ⟨rfl, rfl, hsm, by rw [List.length_map]; unfold big; omega⟩
        refine Call_name ok R hk1 (val_sorted ok) (Calls.callWith_builtin rfl ?_)
        refine Calls.evalArgs_plain (Calls.spliced_cons (Ev_ZipC ok he hst hk2 ga R e1 hz fun μ1 s1 st1 R1 h' P1 P2 U Z hb => Calls.spliced_nil ?_))
        rw [List.nil_append]
        rw [List.length_map] at U Z
        refine Calls.call_function_entry kind_sorted plain_sorted entry_sorted (args_sorted1 _) ?_
        unfold Builtin.«sorted»
        refine wpAny_bind (m := checkCount "sorted" 1 1 _) (wpAny_pure ?_)
        refine wpAny_bind (coll_zip (A := A.in1) ga.handled (by rw [sizeLine_eq]; omega) U fun h2 tk as g1 g2 g3 => ?_)
        have hal : (as.map Value.ref).length = fs.length := by rw [List.length_map, g3]
        refine wpAny_bind (wpAny_newList ?_ (by rw [hal, sizeLine_eq]; omega))
        have H := prs_of Z g2 g3
        have H' : PrsAt (h2.push { cls := .type "list", data := .seq (as.map Value.ref).toArray }) (as.map Value.ref) fs := H.mono fun b o _ e => Heap.get?_push_of_some _ e
        have hoL : (h2.push { cls := .type "list", data := .seq (as.map Value.ref).toArray }).get? h2.objs.size = some (seqObj "list" (as.map Value.ref).toArray 0) := Heap.get?_push_size _ rfl
        refine wpAny_bind (wpAny_holding (wpAny_call_entry slot_list_sort ⟨_, hoL, rfl⟩ entry_list_sort (list_sort_pairs hoL H' h64 fun p hp hu => ⟨_, rfl, ?_⟩) (args_list_sort _)))
        refine wpAny_pure ⟨_, rfl, ?_⟩
        have old : ∀ b o, h2.get? b = some o → (sortedHeap (h2.push { cls := .type "list", data := .seq (as.map Value.ref).toArray }) h2.objs.size (as.map Value.ref) (List.toArray (p.toList.map fun i => (as.map Value.ref).getD i Value.none))).get? b = some o := fun b o e => by
          have hlt := Heap.lt_size e
          rw [sortedHeap_old (Nat.ne_of_lt hlt) (by rw [size_push']; exact Nat.lt_succ_of_lt hlt)]
          exact Heap.get?_push_of_some _ e
        obtain ⟨ee, hee⟩ := sortedHeap_at (out := List.toArray (p.toList.map fun i => (as.map Value.ref).getD i Value.none)) hoL
        refine post_up st1 (post_new R1 (fun b o e => old b o (g1 b o e)) ?_)
        show DR _ _ _ _
        simp only [DR]
        refine ⟨_, _, _, _, rfl, R1.okNew ?_, hee, rfl, rfl, ?_⟩
        · cases hq : s1.heap.get? h2.objs.size with
          | none => rfl
          | some o => exact absurd (Heap.lt_size (g1 _ _ hq)) (Nat.lt_irrefl _)
        · rw [← sortZ_eq hp hu]
          refine DRs.of_items (by rw [List.length_map, List.length_map, List.length_map]) fun j d w hd hw => ?_
          have hw : (p.toList.map fun i => (as.map Value.ref).getD i Value.none)[j]? = some w := hw
          rw [List.getElem?_map] at hw
          rw [List.getElem?_map, List.getElem?_map] at hd
          obtain ⟨i, hi, rfl⟩ := Option.map_eq_some_iff.mp hw
          rw [hi] at hd
          cases hd
          have hin : i < fs.length := List.mem_range.mp (hp.perm.mem_iff.mp (List.mem_of_getElem? hi))
          have hf : fs[i]? = some (fs.getD i 0) := by rw [List.getD_eq_getElem?_getD, List.getElem?_eq_getElem hin]; rfl
          obtain ⟨a, t, u, h5, h6⟩ := H.get i _ hf
          have ha : as[i]? = some a := by
            rw [List.getElem?_map] at h5
            obtain ⟨b, hb, e⟩ := Option.map_eq_some_iff.mp h5
            cases e; exact hb
          obtain ⟨_, _, _, _, _, hfresh⟩ := g2 i a ha
          rw [List.getD_eq_getElem?_getD, h5]
          show DR _ _ (decZ (gZ fs i)) (.ref a)
          unfold gZ
          rw [dec_key _ (by omega)]
          simp only [DR]
          exact ⟨a, _, _, _, rfl, R1.okNew hfresh, old _ _ h6, rfl, rfl, _, _, rfl, ⟨t, rfl⟩, _, _, rfl, ⟨u, rfl⟩, rfl⟩
    · have q : (match (if lo = 0 ∧ hi = ds.length ∧ ds.length < 64 then (intsOf ds).map fun fs => (sortI (keysZ fs)).map decZ else none) with | some ds => mpure (V.dat (.list ds)) | none => mfail) σ1 = some (v, σ') := q
      rw [if_neg hc] at q; cases q
end
section
variable {X : Cx} {n : Nat} {se : Env} {es : List Expr} {ms : List (M V)}
theorem D_sortZ (ok : CxOk X) {p1 p2 pos1 pos2 : Pos} (h : EvLR X (n + 1) se es ms) (hst : es.all noStar = true) (hk1 : gKind se (Str.ofString "sorted") = true) (hk2 : gKind se (Str.ofString "zip") = true) : EvR X (n + 1) se (.Call (.Name (Str.ofString "sorted") p1) [.Call (.Name (Str.ofString "zip") p2) es [] pos2] [] pos1) (sortZM ms) :=
  fun v hs => Ev_SortZip ok (h v hs) hst (by rw [← hs.gKind]; exact hk1) (by rw [← hs.gKind]; exact hk2)
end
theorem r_sortZ {σ σ1 : St} {ms : List (M V)} {fs : List Int} (h : Run (seqS ms) σ [.dat (.list (fs.map .int)), .rng 0 (fs.length : Int)] σ1) (hl : fs.length < 64) : Run (sortZM ms) σ (.dat (.list ((sortI (keysZ fs)).map decZ))) σ1 := by
  refine run_bind h ?_
  show Run (match (if (0 : Int) = 0 ∧ (fs.length : Int) = ((fs.map PyData.int).length : Int) ∧ (fs.map PyData.int).length < 64 then (intsOf (fs.map .int)).map fun fs => (sortI (keysZ fs)).map decZ else none) with | some ds => mpure (V.dat (.list ds)) | none => mfail) _ _ _
  rw [if_pos ⟨rfl, by rw [List.length_map], by rw [List.length_map]; exact hl⟩, intsOf_map]; rfl
end Mine
end

section
open PySem PySem.W PyProof.Rows
set_option Elab.async false
set_option maxRecDepth 100000
set_option maxHeartbeats 8000000
namespace Mine
open_top hd for PySem.Challenge.rw_dn0264_02
end Mine
end

section
open PySem
set_option Elab.async false
set_option maxRecDepth 10000
set_option linter.unusedVariables false
namespace Mine
noncomputable def law02_letter (Q : Prm) : M Fl := thenM (asgM x_letter (itemM Q (datM (.str (Str.ofString "abcd"))) (binM .Mod (binM .FloorDiv (nameS x_figure) (nameS x_weight)) (datM (.int 4))))) (thenM (retM (ifxM (truT (nameS x_great)) (strM up (nameS x_letter)) (nameS x_letter))) (endM))
noncomputable def law02_b1 (Q : Prm) : M Fl := thenM (exprM (lmM appF (nameS x_row) [binM .Add (binM .Add (bltM strB [itemM Q (nameS x_figures) (nameS x_place)]) (datM (.str (Str.ofString "/")))) (bltM strB [nameS x_place])])) (endM)
noncomputable def law02_b2 (Q : Prm) : M Fl := thenM (asgM x_place (bltM intB [itemM Q (splitM (nameS x_text) (Str.ofString "/")) (datM (.int 1))])) (thenM (asgM x_great (cmpM Q .Eq (binM .Mod (binM .FloorDiv (itemM Q (nameS x_script) (nameS x_place)) (datM (.int 64))) (binM .Add (nameS x_times) (datM (.int 1)))) (datM (.int 1)))) (thenM (exprM (lmM appF (nameS x_pairs) [tupM Q [callM Q x__law_letter [itemM Q (nameS x_figures) (nameS x_place), nameS x_weight, nameS x_great], nameS x_text]])) (endM)))
noncomputable def law02_b3 (Q : Prm) : M Fl := thenM (asgM x_row (binM .Add (nameS x_row) (imM Q (nameS x_table) x_get_all [nameS x_letter] []))) (endM)
noncomputable def law02_r4 (Q : Prm) : M Fl := thenM (ifM (truT (cmpM Q .NotEq (imM Q (nameS x_table) x_get_all [datM (.str (Str.ofString "e"))] []) (lstM Q []))) (thenM (retM (datM (.bool false))) (endM)) (endM)) (endM)
noncomputable def law02_r5 (Q : Prm) : M Fl := thenM (ifM (truT (cmpM Q .NotEq (bltM (lenB Q) [nameS x_table]) (bltM (lenB Q) [nameS x_figures]))) (thenM (retM (datM (.bool false))) (endM)) (endM)) (law02_r4 Q)
noncomputable def law02_r6 (Q : Prm) : M Fl := thenM (asgM x_table (mkM Q [nameS x_pairs])) (thenM (asgM x_row (ownLstM Q [])) (thenM (forM (setLoc x_letter) (law02_b3 Q) (tupM Q [datM (.str (Str.ofString "a")), datM (.str (Str.ofString "B")), datM (.str (Str.ofString "c")), datM (.str (Str.ofString "D"))])) (law02_r5 Q)))
noncomputable def law02_b7 (Q : Prm) : M Fl := thenM (augM x_times .Add (datM (.int 1))) (thenM (asgM x_pairs (ownLstM Q [])) (thenM (forM (setLoc x_text) (law02_b2 Q) (nameS x_row)) (law02_r6 Q)))
noncomputable def law02_b8 (Q : Prm) : M Fl := thenM (exprM (lmM appF (nameS x_right) [binM .Add (binM .Add (bltM strB [nameS x_figure]) (datM (.str (Str.ofString "/")))) (bltM strB [nameS x_place])])) (endM)
noncomputable def law02_r9 (Q : Prm) : M Fl := thenM (retM (cmpM Q .Eq (nameS x_row) (nameS x_right))) (endM)
noncomputable def law02_r10 (Q : Prm) : M Fl := thenM (asgM x_right (ownLstM Q [])) (thenM (forM (two (setLoc x_figure) (setLoc x_place)) (law02_b8 Q) (sortZM [nameS x_figures, bltM rangeB [bltM (lenB Q) [nameS x_figures]]])) (law02_r9 Q))
noncomputable def law02_r11 (Q : Prm) : M Fl := thenM (asgM x_times (datM (.int 0))) (thenM (forM (setLoc x_weight) (law02_b7 Q) (tupM Q [datM (.int 1), datM (.int 4), datM (.int 16)])) (law02_r10 Q))
noncomputable def law02 (Q : Prm) : M Fl := thenM (asgM x_figures (lcM (fscope [(x_dot0, .local), (x_number, .local)]) (setLoc x_number) [] (binM .Mod (nameS x_number) (datM (.int 64))) (nameS x_script))) (thenM (asgM x_row (ownLstM Q [])) (thenM (forM (setLoc x_place) (law02_b1 Q) (bltM rangeB [bltM (lenB Q) [nameS x_figures]])) (law02_r11 Q)))
end Mine
end

section
open PySem
set_option Elab.async false
set_option maxRecDepth 100000
set_option linter.unusedVariables false
namespace Mine.L02

noncomputable abbrev KK (p : Params) : W.Frag := hd.heap_39 p
section
variable (p : Params)
theorem k1 : W.findIn (KK p) (.ref 169) "__getattribute__" = some (some (.builtin "object.__getattribute__")) := by kernel_rfl
theorem k2 : W.findIn (KK p) (.ref 169) "__getattr__" = some none := by kernel_rfl
theorem k3 : W.noSeq (KK p) 169 = true := by kernel_rfl
theorem k4 : W.findIn (KK p) (.ref 169) "__setattr__" = some (some (.builtin "object.__setattr__")) := by kernel_rfl
theorem k5 : W.plainOver (KK p) 169 = true := by kernel_rfl
theorem k6 : W.findIn (KK p) (.ref 169) hdrKey = some none := by kernel_rfl
theorem k7 : (W.clsIn (KK p) 169).any (·.hasDict) = true := by kernel_rfl
theorem k8 : W.keepIn (KK p) (.ref 169) = true := by kernel_rfl
theorem k9 : W.makesIn (KK p) 169 = true := by kernel_rfl
theorem g0 : isDict (KK p) mainGlobals = true := by kernel_rfl
theorem g4 : bltNames.all (fun x => (nsFind (dictOf (KK p) mainGlobals) x).isNone) = true := by kernel_rfl
theorem gn (x : Str) (v : Value) (h : (nsFind (dictOf (KK p) mainGlobals) x == some v) = true) : nsFind (dictOf (KK p) mainGlobals) x = some v := by simpa using h
end

section
variable (p : Params)
theorem f_init : fnChk (KK p) 63 [x_self, x_headers] = true := by kernel_rfl
theorem df_init : (fdOf (KK p) 63).defaults = .ref 56 := by kernel_rfl
theorem dl_init : (KK p).lookup 56 = some { cls := .type "tuple", data := .seq #[.none] 0 } := by kernel_rfl
theorem b_init {s : Shared} (hK : (KK p).In s.heap) (x y : Value) : BindsTo s (fdOf (KK p) 63) ⟨[x, y], []⟩ [(x_self, x), (x_headers, y)] := BindsTo.of_defaults (df_init p) (hK _ _ (dl_init p)) rfl (by unfold bindArgs; rfl) (by kernel_rfl)
theorem c_init {s : Shared} (hK : (KK p).In s.heap) (x : Value) : BindsTo s (fdOf (KK p) 63) ⟨[x], []⟩ [(x_self, x), (x_headers, .none)] := BindsTo.of_defaults (df_init p) (hK _ _ (dl_init p)) rfl (by unfold bindArgs; rfl) (by kernel_rfl)
theorem f_len : fnChk (KK p) 77 [x_self] = true := by kernel_rfl
theorem b_len (x : Value) : bindArgs (fdOf (KK p) 77) ⟨[x], []⟩ = pure [(x_self, x)] := by kernel_rfl
theorem f_get_all : fnChk (KK p) 108 [x_self, x_name] = true := by kernel_rfl
theorem b_get_all (x y : Value) : bindArgs (fdOf (KK p) 108) ⟨[x, y], []⟩ = pure [(x_self, x), (x_name, y)] := by kernel_rfl
theorem f_convert_string_type : fnChk (KK p) 70 [x_self, x_value, x_name] = true := by kernel_rfl
theorem b_convert_string_type (x y z : Value) : bindArgs (fdOf (KK p) 70) ⟨[x, y], [(sName, z)]⟩ = pure [(sSelf, x), (sValue, y), (sName, z)] := by kernel_rfl
end
section
variable {X : Cx} {n : Nat} {P : Prm} (p : Params) (ok : CxOk X) (pok : PrmOk X n P)
include ok pok
theorem d_init : ExsR X (n + 1) (fnEnv (fdOf (KK p) 63).scope) (bodyOf (fdOf (KK p) 63)) (Dinit P) := by
  conv => arg 4; whnf
  exact S_cons (X_asg (D_ifx (T_cmp ok pok (D_name) (D_none) rfl) (D_name) (O_lst (L_nil) rfl)) (by kernel_rfl) rfl) (S_cons (X_if (T_typ ok (D_name) (by kernel_rfl)) (S_cons (X_fail) (S_nil)) (S_nil)) (S_cons (X_asgAttr ok (D_name) (D_name) rfl) (S_cons (X_if (T_plain (D_bool) rfl) (S_cons (X_for (D_name) (A_two (A_name (by kernel_rfl)) (A_name (by kernel_rfl)) rfl) (S_cons (X_expr (D_im ok pok (D_name) (L_cons (D_name) (L_nil)) (K_cons (D_bool) (K_nil)) rfl) rfl) (S_cons (X_expr (D_im ok pok (D_name) (L_cons (D_name) (L_nil)) (K_cons (D_bool) (K_nil)) rfl) rfl) (S_nil))) rfl) (S_nil)) (S_nil)) (S_nil))))
theorem d_len : ExsR X (n + 1) (fnEnv (fdOf (KK p) 77).scope) (bodyOf (fdOf (KK p) 77)) (Dlen P) := by
  conv => arg 4; whnf
  exact S_cons (X_ret (D_len ok pok (L_cons (D_attr ok) (L_nil)) rfl (by kernel_rfl))) (S_nil)
theorem d_get_all : ExsR X (n + 1) (fnEnv (fdOf (KK p) 108).scope) (bodyOf (fdOf (KK p) 108)) (Dall P) := by
  conv => arg 4; whnf
  exact S_cons (X_asg (D_im ok pok (D_name) (L_cons (D_sm lower_ok (D_name) rfl) (L_nil)) (K_cons (D_bool) (K_nil)) rfl) (by kernel_rfl) rfl) (S_cons (X_ret (D_lc ⟨(by kernel_rfl), D_attr ok, A_name (by kernel_rfl), TL_cons (T_cmp ok pok (D_sm lower_ok (D_item ok pok (D_name) (D_int) rfl) rfl) (D_name) rfl) (TL_nil), D_item ok pok (D_name) (D_int) rfl, rfl⟩)) (S_nil))
set_option maxHeartbeats 4000000 in
theorem d_fn_law_letter : ExsR X (n + 1) (fnEnv (fdOf (KK p) 180).scope) (bodyOf (fdOf (KK p) 180)) (law02_letter P) := by
  conv => arg 4; whnf
  exact S_cons (X_asg (D_item ok pok (D_str (by kernel_rfl)) (D_bin (D_bin (D_name) (D_name)) (D_int)) rfl) (by kernel_rfl) rfl) (S_cons (X_ret (D_ifx (T_plain (D_name) rfl) (D_sm upper_ok (D_name) rfl) (D_name))) (S_nil))
set_option maxHeartbeats 4000000 in
theorem d_fnlaw : ExsR X (n + 1) (fnEnv (fdOf (KK p) 185).scope) (bodyOf (fdOf (KK p) 185)) (law02 P) := by
  conv => arg 4; whnf
  exact S_cons (X_asgLc ⟨(by kernel_rfl), D_name, A_name (by kernel_rfl), TL_nil, D_bin (D_name) (D_int), rfl⟩ (by kernel_rfl)) (S_cons (X_asg (O_lst (L_nil) rfl) (by kernel_rfl) rfl) (S_cons (X_for (D_range ok (L_cons (D_len ok pok (L_cons (D_name) (L_nil)) rfl (by kernel_rfl)) (L_nil)) rfl (by kernel_rfl)) (A_name (by kernel_rfl)) (S_cons (X_expr (D_lm append_get append_ok (D_name) (L_cons (D_bin (D_bin (D_strB ok (L_cons (D_item ok pok (D_name) (D_name) rfl) (L_nil)) rfl (by kernel_rfl)) (D_str (by kernel_rfl))) (D_strB ok (L_cons (D_name) (L_nil)) rfl (by kernel_rfl))) (L_nil)) rfl) rfl) (S_nil)) rfl) (S_cons (X_asg (D_int) (by kernel_rfl) rfl) (S_cons (X_for (D_tup (L_cons (D_int) (L_cons (D_int) (L_cons (D_int) (L_nil)))) rfl) (A_name (by kernel_rfl)) (S_cons (X_aug (D_int) (by kernel_rfl) rfl) (S_cons (X_asg (O_lst (L_nil) rfl) (by kernel_rfl) rfl) (S_cons (X_for (D_name) (A_name (by kernel_rfl)) (S_cons (X_asg (D_intB ok (L_cons (D_item ok pok (D_split (D_name) (by kernel_rfl) rfl) (D_int) rfl) (L_nil)) rfl (by kernel_rfl)) (by kernel_rfl) rfl) (S_cons (X_asg (D_cmp ok pok (D_bin (D_bin (D_item ok pok (D_name) (D_name) rfl) (D_int)) (D_bin (D_name) (D_int))) (D_int) rfl) (by kernel_rfl) rfl) (S_cons (X_expr (D_lm append_get append_ok (D_name) (L_cons (D_tup (L_cons (D_call ok pok (L_cons (D_item ok pok (D_name) (D_name) rfl) (L_cons (D_name) (L_cons (D_name) (L_nil)))) rfl (by kernel_rfl)) (L_cons (D_name) (L_nil))) rfl) (L_nil)) rfl) rfl) (S_nil)))) rfl) (S_cons (X_asg (D_mk ok pok (L_cons (D_name) (L_nil)) rfl (by kernel_rfl)) (by kernel_rfl) rfl) (S_cons (X_asg (O_lst (L_nil) rfl) (by kernel_rfl) rfl) (S_cons (X_for (D_tup (L_cons (D_str (by kernel_rfl)) (L_cons (D_str (by kernel_rfl)) (L_cons (D_str (by kernel_rfl)) (L_cons (D_str (by kernel_rfl)) (L_nil))))) rfl) (A_name (by kernel_rfl)) (S_cons (X_asg (D_bin (D_name) (D_im ok pok (D_name) (L_cons (D_name) (L_nil)) (K_nil) rfl)) (by kernel_rfl) rfl) (S_nil)) rfl) (S_cons (X_if (T_cmp ok pok (D_len ok pok (L_cons (D_name) (L_nil)) rfl (by kernel_rfl)) (D_len ok pok (L_cons (D_name) (L_nil)) rfl (by kernel_rfl)) rfl) (S_cons (X_ret (D_bool)) (S_nil)) (S_nil)) (S_cons (X_if (T_cmp ok pok (D_im ok pok (D_name) (L_cons (D_str (by kernel_rfl)) (L_nil)) (K_nil) rfl) (D_lst (L_nil) rfl) rfl) (S_cons (X_ret (D_bool)) (S_nil)) (S_nil)) (S_nil))))))))) rfl) (S_cons (X_asg (O_lst (L_nil) rfl) (by kernel_rfl) rfl) (S_cons (X_for (D_sortZ ok (L_cons (D_name) (L_cons (D_range ok (L_cons (D_len ok pok (L_cons (D_name) (L_nil)) rfl (by kernel_rfl)) (L_nil)) rfl (by kernel_rfl)) (L_nil))) rfl (by kernel_rfl) (by kernel_rfl)) (A_two (A_name (by kernel_rfl)) (A_name (by kernel_rfl)) rfl) (S_cons (X_expr (D_lm append_get append_ok (D_name) (L_cons (D_bin (D_bin (D_strB ok (L_cons (D_name) (L_nil)) rfl (by kernel_rfl)) (D_str (by kernel_rfl))) (D_strB ok (L_cons (D_name) (L_nil)) rfl (by kernel_rfl))) (L_nil)) rfl) rfl) (S_nil)) rfl) (S_cons (X_ret (D_cmp ok pok (D_name) (D_name) rfl)) (S_nil))))))))
end
section
variable (p : Params)
theorem f_fn_law_letter : fnChk (KK p) 180 [x_figure, x_weight, x_great] = true := by kernel_rfl
theorem b_fn_law_letter (x y z : Value) : bindArgs (fdOf (KK p) 180) ⟨[x, y, z], []⟩ = pure [(x_figure, x), (x_weight, y), (x_great, z)] := by kernel_rfl
end

noncomputable def mkX (prog : Program) (w : World) (base : Heap) (mg mb : Str → Option Value) : Cx := ⟨prog, w, base, 169, KK w.params, mg, mb⟩

noncomputable def mtL : List (Str × Info) := [(x___len__, ⟨77, [x_self], [], Dlen⟩), (x_get_all, ⟨108, [x_self, x_name], [], Dall⟩)]
noncomputable def fnL : List (Str × Info) := [(x__law_letter, ⟨180, [x_figure, x_weight, x_great], [], law02_letter⟩)]
noncomputable def T : Tab := ⟨fun x => List.lookup x mtL, fun x => List.lookup x fnL, ⟨63, [x_self, x_headers], [.none], Dinit⟩, 1000⟩

variable {prog : Program} {w : World} {base : Heap} {mg mb : Str → Option Value}
theorem cxok (hK : (KK w.params).In base) (hg : base.Ns mainGlobals mg) (hb : base.Ns builtinsNs mb) (hbt : ∀ x : Str, x ≠ "__name__" → mb x = bootBuiltins x) (hn : base.NoLimit) : CxOk (mkX prog w base mg mb) where
  kin := hK
  g := hg
  b := hb
  blt := hbt
  nolimit := hn
  ga := k1 _
  noga := k2 _
  noSeq := k3 _
  noG := fun x hx => by
    show mg x = none
    rw [mg_of hK hg (g0 _)]
    exact Option.isNone_iff_eq_none.mp (List.all_eq_true.mp (g4 w.params) x hx)
  sa := k4 _
  po := k5 _
  hd := k6 _
  hasD := k7 _
  keep := k8 _
theorem p1 (p : Params) : PatAt (KK p) 43 code1 := ⟨_, _, _, _, _, _, _, _, rfl, rfl, by kernel_rfl⟩
theorem p2 (p : Params) : PatAt (KK p) 48 code2 := ⟨_, _, _, _, _, _, _, _, rfl, rfl, by kernel_rfl⟩
theorem m1 (p : Params) : (match W.findIn (KK p) (.ref 169) sConv with | some (some (.ref f)) => if W.isFn (KK p) (.ref f) && W.fnIn (KK p) f then some f else none | _ => none) = some 70 := by kernel_rfl
theorem i1 (p : Params) : W.findIn (KK p) (.ref 169) "__init__" = some (some (.ref 63)) := by kernel_rfl
theorem i2 (p : Params) : W.typeIn (KK p) (.ref 63) = some (.type "function") := by kernel_rfl
theorem c1 (p : Params) : (fnEnv (fdOf (KK p) 70).scope).kindOf sRegex = some .local := by kernel_rfl
theorem c2 (p : Params) (q : Pos) : typOk (fnEnv (fdOf (KK p) 70).scope) (.Name sValue q) (Str.ofString "str") = true := by kernel_rfl
theorem c3 (p : Params) : gKind (fnEnv (fdOf (KK p) 70).scope) (Str.ofString "_name_disallowed_re") = true := by kernel_rfl
theorem c4 (p : Params) : gKind (fnEnv (fdOf (KK p) 70).scope) (Str.ofString "_value_disallowed_re") = true := by kernel_rfl
theorem mth_of (name : Str) (f : Addr) (h : ((match W.findIn (KK w.params) (.ref 169) name with | some (some (.ref f)) => if W.isFn (KK w.params) (.ref f) && W.fnIn (KK w.params) f then some f else none | _ => none) == some f) = true) : mth (mkX prog w base mg mb) name = some f := beq_iff_eq.mp h

theorem mt_ok (ok : CxOk (mkX prog w base mg mb)) : ∀ q ∈ mtL, InfoOk (mkX prog w base mg mb) q.2 ∧ mth (mkX prog w base mg mb) q.1 = some q.2.f := by
  unfold mtL
  refine List.forall_mem_cons.mpr ⟨⟨.plain (f_len _) (fun n P pok => d_len _ ok pok) rfl (bind1 (b_len _)), mth_of _ _ (by kernel_rfl)⟩, ?_⟩
  refine List.forall_mem_cons.mpr ⟨⟨.plain (f_get_all _) (fun n P pok => d_get_all _ ok pok) rfl (bind2 (b_get_all _)), mth_of _ _ (by kernel_rfl)⟩, ?_⟩
  exact fun q h => by cases h
theorem fn_ok (hK : (KK w.params).In base) (hg : base.Ns mainGlobals mg) (ok : CxOk (mkX prog w base mg mb)) : ∀ q ∈ fnL, InfoOk (mkX prog w base mg mb) q.2 ∧ mg q.1 = some (.ref q.2.f) := by
  unfold fnL
  refine List.forall_mem_cons.mpr ⟨⟨.plain (f_fn_law_letter _) (fun n P pok => d_fn_law_letter _ ok pok) rfl (bind3 (b_fn_law_letter _)), by rw [mg_of hK hg (g0 _)]; exact gn _ _ _ (by kernel_rfl)⟩, ?_⟩
  exact fun q h => by cases h

set_option maxHeartbeats 4000000 in
theorem tabok (hK : (KK w.params).In base) (hg : base.Ns mainGlobals mg) (ok : CxOk (mkX prog w base mg mb)) : TabOk (mkX prog w base mg mb) T where
  mt := fun name i h => mt_ok ok _ (mem_of_look h)
  fn := fun name i h => fn_ok hK hg ok _ (mem_of_look h)
  init := .plain (f_init _) (fun n P pok => d_init _ ok pok) rfl (bind2d (fun s x y hK => b_init _ hK x y) (fun s x hK => c_init _ hK x))
  initF := i1 _
  initT := i2 _
  makes := k9 _
  head := by
    show mg _ = _
    rw [mg_of hK hg (g0 _)]; exact gn _ _ _ (by kernel_rfl)
  conv := by
    refine ⟨70, m1 w.params, f_convert_string_type w.params, fun k env' hs => ?_, fun s x y z => ?_⟩
    rotate_left
    · show BindsTo s (fdOf (KK w.params) 70) ⟨[x, y], [(sName, z)]⟩ [(sSelf, x), (sValue, y), (sName, z)]
      exact BindsTo.of_eq (b_convert_string_type w.params x y z)
    have q1 : PatOk (mkX prog w base mg mb) (Str.ofString "_name_disallowed_re") := patOk_of hK (by show mg _ = _; rw [mg_of hK hg (g0 _)]; exact gn _ _ _ (by kernel_rfl)) (p1 _) code1_ok
    have q2 : PatOk (mkX prog w base mg mb) (Str.ofString "_value_disallowed_re") := patOk_of hK (by show mg _ = _; rw [mg_of hK hg (g0 _)]; exact gn _ _ _ (by kernel_rfl)) (p2 _) code2_ok
    exact Exs_conv ok q1 q2 (by rw [← hs.kindOf]; exact c1 _) (by rw [← hs.typOk]; exact c2 _ _) (by rw [← hs.gKind]; exact c3 _) (by rw [← hs.gKind]; exact c4 _) rfl

theorem h_make1 : MMake1 (prm T 20) := tb_make1 (k := 18) rfl
theorem h_all : MAll (prm T 20) := tb_all (k := 18) ⟨_, rfl⟩
theorem h_len : MLen (prm T 20) := tb_len (k := 19) ⟨_, rfl⟩
end Mine.L02
end

section
open PySem
set_option Elab.async false
set_option maxRecDepth 10000
set_option linter.unusedVariables false
namespace Mine
/-! Rows by figures. `F` the figures, a row is a list of places. -/
noncomputable def fg2 (F : List Nat) (q : Nat) : Nat := F.getD q 0
noncomputable def tq (F : List Nat) (q : Nat) : Str := strI ((fg2 F q : Nat) : Int) ++ Str.ofString "/" ++ strI (q : Int)
noncomputable def dg (F : List Nat) (w q : Nat) : Nat := fg2 F q / w % 4
noncomputable def pass (F : List Nat) (w : Nat) (rs : List Nat) (t : Nat) : List Nat := (List.range t).flatMap fun d => rs.filter fun q => dg F w q == d
theorem pass_succ (F : List Nat) (w : Nat) (rs : List Nat) (t : Nat) : pass F w rs (t + 1) = pass F w rs t ++ rs.filter fun q => dg F w q == t := by
  unfold pass
  rw [List.range_succ, List.flatMap_append, List.flatMap_singleton]
theorem pass_part (F : List Nat) (w : Nat) (rs : List Nat) : ∀ t, (pass F w rs t).Perm (rs.filter fun q => decide (dg F w q < t))
  | 0 => by unfold pass; simp
  | t + 1 => by
    rw [pass_succ]
    refine ((pass_part F w rs t).append_right _).trans ?_
    have := List.filter_append_perm (fun q => decide (dg F w q < t)) (rs.filter fun q => decide (dg F w q < t + 1))
    rw [List.filter_filter, List.filter_filter] at this
    refine List.Perm.trans (List.Perm.of_eq ?_) this
    congr 1
    · apply List.filter_congr
      intro q _
      by_cases h : dg F w q < t
      · simp [h, Nat.lt_succ_of_lt h]
      · simp [h]
    · apply List.filter_congr
      intro q _
      by_cases h : dg F w q = t
      · simp [h]
      · by_cases h2 : dg F w q < t
        · simp [h, h2]
        · have : ¬ dg F w q < t + 1 := by omega
          simp [h, this]
theorem pass_perm (F : List Nat) (w : Nat) (rs : List Nat) : (pass F w rs 4).Perm rs := by
  refine (pass_part F w rs 4).trans (List.Perm.of_eq (List.filter_eq_self.mpr fun q _ => ?_))
  exact decide_eq_true (Nat.mod_lt _ (by decide))
/-- sorted by what is left of the figures by a weight, then by places -/
noncomputable def Lw (F : List Nat) (w : Nat) (q r : Nat) : Prop := fg2 F q % w < fg2 F r % w ∨ (fg2 F q % w = fg2 F r % w ∧ q < r)
theorem pass_sorted {F : List Nat} {w : Nat} {rs : List Nat} (hw : 0 < w) (h : rs.Pairwise (Lw F w)) : (pass F w rs 4).Pairwise (Lw F (w * 4)) := by
  have e : ∀ q, fg2 F q % (w * 4) = fg2 F q % w + w * dg F w q := fun q => Nat.mod_mul
  unfold pass
  rw [List.pairwise_flatMap]
  refine ⟨fun d _ => ?_, ?_⟩
  · have h2 : (rs.filter fun q => dg F w q == d).Pairwise (Lw F w) := List.Pairwise.filter _ h
    refine List.Pairwise.imp_of_mem (fun {a b} ha hb hab => ?_) h2
    have ha := beq_iff_eq.mp (List.mem_filter.mp ha).2
    have hb := beq_iff_eq.mp (List.mem_filter.mp hb).2
    unfold Lw at hab ⊢
    rw [e, e, ha, hb]
    omega
  · refine List.Pairwise.imp (fun {d d'} hd a ha b hb => ?_) (List.pairwise_lt_range (n := 4))
    have ha := beq_iff_eq.mp (List.mem_filter.mp ha).2
    have hb := beq_iff_eq.mp (List.mem_filter.mp hb).2
    left
    rw [e, e, ha, hb]
    have h1 := Nat.mod_lt (fg2 F a) hw
    have h2 : w * (d + 1) ≤ w * d' := Nat.mul_le_mul_left w hd
    rw [Nat.mul_succ] at h2
    omega
noncomputable def row3 (F : List Nat) : List Nat := pass F 16 (pass F 4 (pass F 1 (List.range F.length) 4) 4) 4
theorem row3_perm (F : List Nat) : (row3 F).Perm (List.range F.length) := (pass_perm _ _ _).trans ((pass_perm _ _ _).trans (pass_perm _ _ _))
theorem row3_sorted (F : List Nat) : (row3 F).Pairwise (Lw F 64) := by
  have h0 : (List.range F.length).Pairwise (Lw F 1) := List.Pairwise.imp (fun {a b} h => .inr ⟨by rw [Nat.mod_one, Nat.mod_one], h⟩) List.pairwise_lt_range
  exact pass_sorted (w := 16) (by decide) (pass_sorted (w := 4) (by decide) (pass_sorted (w := 1) (by decide) h0))
theorem fg_64 {F : List Nat} (hF : ∀ f ∈ F, f < 64) (q : Nat) : fg2 F q < 64 := by
  unfold fg2
  rw [List.getD_eq_getElem?_getD]
  cases h : F[q]? with
  | none => decide
  | some f => exact hF f (List.mem_of_getElem? h)
noncomputable def ints2 (F : List Nat) : List Int := F.map fun f => ((f : Nat) : Int)
theorem ints_at (F : List Nat) (q : Nat) : (ints2 F).getD q 0 = ((fg2 F q : Nat) : Int) := by
  unfold ints2 fg2
  rw [List.getD_eq_getElem?_getD, List.getD_eq_getElem?_getD, List.getElem?_map]
  cases F[q]? <;> rfl
theorem row3_key {F : List Nat} (hF : ∀ f ∈ F, f < 64) (h64 : F.length ≤ 64) : (row3 F).map (gZ (ints2 F)) = sortI (keysZ (ints2 F)) := by
  refine sortI_eq ?_ ?_
  · rw [keysZ_eq]
    have : (ints2 F).length = F.length := List.length_map _
    rw [this]
    exact (row3_perm F).map _
  · rw [List.pairwise_map]
    refine List.Pairwise.imp_of_mem (fun {a b} ha hb hab => ?_) (row3_sorted F)
    have h1 := fg_64 hF a
    have h2 := fg_64 hF b
    have ha := List.mem_range.mp ((row3_perm F).mem_iff.mp ha)
    have hb := List.mem_range.mp ((row3_perm F).mem_iff.mp hb)
    refine decide_eq_true ?_
    unfold gZ keyZ
    rw [ints_at, ints_at]
    unfold Lw at hab
    rw [Nat.mod_eq_of_lt h1, Nat.mod_eq_of_lt h2] at hab
    show ((fg2 F a : Nat) : Int) * 64 + (a : Int) ≤ ((fg2 F b : Nat) : Int) * 64 + (b : Int)
    omega
theorem row3_dec {F : List Nat} (hF : ∀ f ∈ F, f < 64) (h64 : F.length ≤ 64) : (sortI (keysZ (ints2 F))).map decZ = (row3 F).map fun q => .tuple [.int ((fg2 F q : Nat) : Int), .int (q : Int)] := by
  rw [← row3_key hF h64, List.map_map]
  apply List.map_congr_left
  intro q hq
  have hq := List.mem_range.mp ((row3_perm F).mem_iff.mp hq)
  show decZ (gZ (ints2 F) q) = _
  unfold gZ
  rw [dec_key _ (by omega), ints_at]
/-- letters -/
theorem dg_4 (F : List Nat) (w q : Nat) : dg F w q < 4 := Nat.mod_lt _ (by decide)
noncomputable def sg2 (F : List Nat) (w : Nat) (gr : Nat → Bool) (q : Nat) : Nat := if gr q then upC (97 + dg F w q) else 97 + dg F w q
theorem low_97 : ∀ d, d < 4 → lowC (97 + d) = 97 + d ∧ lowC (upC (97 + d)) = 97 + d := by decide
theorem low_sg (F : List Nat) (w : Nat) (gr : Nat → Bool) (q : Nat) : lowC (sg2 F w gr q) = 97 + dg F w q := by
  have h := low_97 _ (dg_4 F w q)
  unfold sg2
  split
  · exact h.2
  · exact h.1
noncomputable def pp2 (F : List Nat) (w : Nat) (gr : Nat → Bool) (rs : List Nat) : List (Str × Str) := rs.map fun q => (ch (sg2 F w gr q), tq F q)
theorem all2 {F : List Nat} {w : Nat} {gr : Nat → Bool} {rs : List Nat} {c d : Nat} (hc : lowC c = 97 + d) : allP (pp2 F w gr rs) (ch c) = (rs.filter fun q => dg F w q == d).map (tq F) := by
  unfold allP pp2
  rw [List.filter_map, List.map_map]
  have e : ((fun p : Str × Str => low p.1 == low (ch c)) ∘ fun q => (ch (sg2 F w gr q), tq F q)) = fun q => dg F w q == d := by
    funext q
    show (low (ch (sg2 F w gr q)) == low (ch c)) = _
    rw [low_ch, low_ch, low_sg, hc, Bool.eq_iff_iff, beq_iff_eq, beq_iff_eq, ch_inj]
    omega
  rw [e]; rfl
theorem tq_len {F : List Nat} (hF : ∀ f ∈ F, f < 64) {q : Nat} (hq : q < 64) : (tq F q).length ≤ 1000 := by
  have h1 := strI_tiny64 (fg2 F q) (Nat.lt_trans (fg_64 hF q) (by decide))
  have f : ∀ k : Nat, k < 64 → (strI (k : Int)).length ≤ 10 := by decide +kernel
  have h2 := f _ (fg_64 hF q)
  have h3 := f _ hq
  unfold tq
  rw [app_len, app_len]
  have : (Str.ofString "/").length = 1 := by decide +kernel
  omega
theorem pp2_tiny {F : List Nat} {w : Nat} {gr : Nat → Bool} {rs : List Nat} (hF : ∀ f ∈ F, f < 64) (hr : rs.Perm (List.range F.length)) (hl : F.length ≤ 64) : tiny (pp2 F w gr rs) := by
  refine ⟨?_, fun p hp => ?_⟩
  · unfold pp2
    rw [List.length_map, hr.length_eq, List.length_range]; omega
  · obtain ⟨q, hq, rfl⟩ := List.mem_map.mp hp
    have hq := List.mem_range.mp (hr.mem_iff.mp hq)
    exact ⟨ch_tiny _, tq_len hF (by omega)⟩
end Mine
end

section
open PySem
set_option Elab.async false
set_option maxRecDepth 10000
set_option linter.unusedVariables false
namespace Mine

noncomputable def iN (k : Nat) : PyData := .int (k : Int)
noncomputable def tS (F : List Nat) (q : Nat) : PyData := .str (tq F q)
theorem intsN (n : Nat) : intsD 0 n = (List.range n).map iN := by
  rw [ints0]
  apply List.map_congr_left
  intro k _
  show PyData.int _ = PyData.int _
  rw [Int.zero_add]
theorem figs_at {F : List Nat} {q : Nat} (hq : q < F.length) : itemD (.list ((ints2 F).map PyData.int)) (.int (q : Int)) = some (.int ((fg2 F q : Nat) : Int)) := by
  refine item_map ?_
  rw [← ints_at, List.getD_eq_getElem?_getD, List.getElem?_eq_getElem (show q < (ints2 F).length by unfold ints2; rw [List.length_map]; exact hq)]; rfl
theorem strI_10 {k : Nat} (h : k < 64) : (strI (k : Int)).length ≤ 10 := by
  have f : ∀ k : Nat, k < 64 → (strI (k : Int)).length ≤ 10 := by decide +kernel
  exact f k h
theorem txt_len {f q : Nat} (hf : f < 64) (hq : q < 64) : (strI (f : Int)).length + (Str.ofString "/").length ≤ big ∧ (strI (f : Int) ++ Str.ofString "/" : Str).length + (strI (q : Int)).length ≤ big := by
  have h1 := strI_10 hf
  have h2 := strI_10 hq
  have h3 : (Str.ofString "/").length = 1 := by decide +kernel
  have h4 : (1000 : Nat) ≤ big := by decide
  rw [app_len, h3]
  omega
noncomputable def MLet (Q : Prm) : Prop := ∀ {hp : List AObj} {f w : Nat} {g : Bool} {l : Str → Option V}, 0 < w → w ≤ 16 → Run (Q.fn x__law_letter [.dat (iN f), .dat (iN w), .dat (.bool g)]) ⟨l, hp⟩ (.dat (.str (ch (if g then upC (97 + f / w % 4) else 97 + f / w % 4)))) ⟨l, hp⟩

section
variable {Q : Prm} {l : Str → Option V} {hp : List AObj} {R : Fl → St → Prop}

theorem abcd_at : ∀ d, d < 4 → (Str.ofString "abcd").cps.toList[d]? = some (97 + d) := by decide +kernel
theorem let_ok {f w : Nat} {g : Bool} (hw : 0 < w) (hw2 : w ≤ 16) (hk : Kn [(x_figure, .dat (iN f)), (x_weight, .dat (iN w)), (x_great, .dat (.bool g))] l) : Ok (law02_letter Q) ⟨l, hp⟩ fun h s => retV h = .dat (.str (ch (if g then upC (97 + f / w % 4) else 97 + f / w % 4))) ∧ s.heap = hp := by
  have hk : Kn [(x_figure, .dat (.int (f : Int))), (x_weight, .dat (.int (w : Int))), (x_great, .dat (.bool g))] l := hk
  have e : (((f : Int)).fdiv (w : Int)).fmod 4 = ((f / w % 4 : Nat) : Int) := by
    rw [Int.fdiv_eq_ediv_of_nonneg _ (by omega), Int.fmod_eq_emod_of_nonneg _ (by decide)]; rfl
  have hi : itemD (.str (Str.ofString "abcd")) (.int ((((f : Int)).fdiv (w : Int)).fmod 4)) = some (.str (ch (97 + f / w % 4))) := by
    rw [e]; exact item_str (abcd_at _ (Nat.mod_lt _ (by decide)))
  have hs : smallI (.int ((((f : Int)).fdiv (w : Int)).fmod 4)) = true := by
    rw [e]; exact small_int (by have := Nat.mod_lt (f / w) (show 0 < 4 by decide); omega)
  have hd : ((w : Nat) : Int) ≠ 0 ∧ ((w : Nat) : Int).natAbs < 2 ^ 30 := ⟨by omega, by omega⟩
  have hb := (ch_tiny (97 + f / w % 4)).big
  unfold law02_letter
  wtm_at "st"
  refine o_ret (v := .dat (if g then .str (up (ch (97 + f / w % 4))) else .str (ch (97 + f / w % 4)))) (σ1 := ⟨l, hp⟩) (r_ifxB (t_tru (r_name hk rfl) rd_dat rfl) (by wtm_at "ev") (by wtm_at "ev")) ⟨?_, rfl⟩
  show V.dat (if g = true then PyData.str (up (ch (97 + f / w % 4))) else .str (ch (97 + f / w % 4))) = _
  cases g <;> rfl

noncomputable abbrev KS (is : List Int) (F : List Nat) : List (Str × V) := [(x_script, .dat (.list (is.map .int))), (x_figures, .dat (.list ((ints2 F).map .int)))]
noncomputable abbrev KP (is : List Int) (F : List Nat) (w : Nat) (t : Int) : List (Str × V) := (x_pairs, .obj 1) :: (x_times, .dat (.int t)) :: (x_weight, .dat (iN w)) :: KS is F
noncomputable def gr2 (is : List Int) (t : Int) (q : Nat) : Bool := decide (((is.getD q 0).fdiv 64).fmod (t + 1) = 1)

/-- a text of the row goes into the table's pairs -/
theorem b2_ok (hlet : MLet Q) {is : List Int} {F : List Nat} {w k q : Nat} {t : Int} {rs : List Nat} {o : AObj} (ho : okO 2 o = true) (hF : ∀ f ∈ F, f < 64) (hl : is.length = F.length) (h64 : F.length < 64) (hw : 0 < w) (hw2 : w ≤ 16) (ht : 0 < t) (hr : rs.length ≤ 64) (hq : q < F.length) (hrk : rs[k]? = some q)
    (hk : Kn ((x_text, .dat (tS F q)) :: KP is F w t) l) (hR : ∀ l, Kn (KP is F w t) l → R .next ⟨l, [o, .lst ((pp2 F w (gr2 is t) (rs.take (k + 1))).map pr)]⟩) : Ok (law02_b2 Q) ⟨l, [o, .lst ((pp2 F w (gr2 is t) (rs.take k)).map pr)]⟩ (Cut 2 R) := by
  have hk : Kn ((x_text, .dat (.str (tq F q))) :: (x_pairs, .obj 1) :: (x_times, .dat (.int t)) :: (x_weight, .dat (.int (w : Int))) :: KS is F) l := hk
  have hf := fg_64 hF q
  have hq64 : q < 64 := by omega
  obtain ⟨s1, s2⟩ := spl_txt hf hq64
  have hw0 : wf [o, .lst ((pp2 F w (gr2 is t) (rs.take k)).map pr)] = true := by
    unfold wf; rw [List.all_cons, show okO [o, AObj.lst ((pp2 F w (gr2 is t) (rs.take k)).map pr)].length o = true from ho]; rfl
  have hw1 : ∀ ds, wf [o, .lst ds] = true := fun ds => by
    unfold wf; rw [List.all_cons, show okO [o, AObj.lst ds].length o = true from ho]; rfl
  have e1 : pp2 F w (gr2 is t) (rs.take (k + 1)) = pp2 F w (gr2 is t) (rs.take k) ++ [(ch (sg2 F w (gr2 is t) q), tq F q)] := by
    unfold pp2
    rw [List.take_add_one, hrk, List.map_append]; rfl
  unfold law02_b2
  have hspl : Run (splitM (nameS x_text) (Str.ofString "/")) ⟨l, [o, .lst ((pp2 F w (gr2 is t) (rs.take k)).map pr)]⟩ (.dat (.list [.str (strI ((fg2 F q : Nat) : Int)), .str (strI (q : Int))])) ⟨l, [o, .lst ((pp2 F w (gr2 is t) (rs.take k)).map pr)]⟩ := r_split (ps := [strI ((fg2 F q : Nat) : Int), strI (q : Int)]) (r_name hk rfl) s1 s2
  have hit : Run (itemM Q (splitM (nameS x_text) (Str.ofString "/")) (datM (.int 1))) ⟨l, [o, .lst ((pp2 F w (gr2 is t) (rs.take k)).map pr)]⟩ (.dat (.str (strI (q : Int)))) ⟨l, [o, .lst ((pp2 F w (gr2 is t) (rs.take k)).map pr)]⟩ := r_item hspl r_dat (i_rd rd_dat rfl rfl)
  refine o_asg (r_blt (q_cons hit q_nil) (f_intI ⟨by omega, by omega⟩)) hk fun l hk => ?_
  have hsc : itemD (.list (is.map PyData.int)) (.int (q : Int)) = some (.int (is.getD q 0)) := item_map (by rw [List.getD_eq_getElem?_getD, List.getElem?_eq_getElem (by omega : q < is.length)]; rfl)
  have hsm := small_int (k := q) (by omega)
  have ht1 : t + 1 ≠ 0 := by omega
  refine o_asg (v := .dat (.bool (gr2 is t q))) (l1 := l) (h1 := [o, .lst ((pp2 F w (gr2 is t) (rs.take k)).map pr)]) (by unfold gr2; wtm_at "ev") hk fun l hk => ?_
  have hfg := figs_at (F := F) hq
  have hlt : Run (Q.fn x__law_letter [.dat (.int ((fg2 F q : Nat) : Int)), .dat (.int (w : Int)), .dat (.bool (gr2 is t q))]) ⟨l, [o, .lst ((pp2 F w (gr2 is t) (rs.take k)).map pr)]⟩ (.dat (.str (ch (sg2 F w (gr2 is t) q)))) ⟨l, [o, .lst ((pp2 F w (gr2 is t) (rs.take k)).map pr)]⟩ := hlet hw hw2
  have hb : ((pp2 F w (gr2 is t) (rs.take k)).map pr).length ≤ big := by
    rw [List.length_map]; unfold pp2; rw [List.length_map]
    exact Nat.le_trans (List.length_take_le' _ _) (Nat.le_trans hr (by decide))
  wtm_at "st"
  have hf := hR (cutL 2 l) (kn_cut rfl (by
    show Kn ((x_pairs, .obj 1) :: (x_times, .dat (.int t)) :: (x_weight, .dat (.int (w : Int))) :: KS is F) l
    wtm_at "kn"))
  rw [e1, List.map_append] at hf
  exact o_end (cut_ok' rfl (hw1 _) rfl hf)
/-- the walk over the row -/
theorem walk_ok (hlet : MLet Q) {is : List Int} {F : List Nat} {w : Nat} {t : Int} {rs : List Nat} {o : AObj} (ho : okO 2 o = true) (hF : ∀ f ∈ F, f < 64) (hl : is.length = F.length) (h64 : F.length < 64) (hw : 0 < w) (hw2 : w ≤ 16) (ht : 0 < t) (hr : rs.Perm (List.range F.length))
    (hk : Kn (KP is F w t) l) (hR : ∀ l, Kn (KP is F w t) l → R .next ⟨l, [o, .lst ((pp2 F w (gr2 is t) rs).map pr)]⟩) : Ok (forS (setLoc x_text) (law02_b2 Q) ((rs.map (tS F)).map .dat)) ⟨l, [o, .lst []]⟩ R := by
  have hrl : rs.length ≤ 64 := by rw [hr.length_eq, List.length_range]; omega
  refine o_forK (x := x_text) rs (tS F) (fun k l h => h = [o, .lst ((pp2 F w (gr2 is t) (rs.take k)).map pr)] ∧ Kn (KP is F w t) l) ⟨by rw [List.take_zero]; rfl, hk⟩ ?_ ?_
  · rintro k q l h hq ⟨rfl, hk⟩ l' hl'
    exact b2_ok hlet ho hF hl h64 hw hw2 ht hrl (List.mem_range.mp (hr.mem_iff.mp (List.mem_of_getElem? hq))) hq (hl' _ hk) fun l hk => ⟨rfl, hk⟩
  · rintro l h ⟨rfl, hk⟩
    rw [List.take_length]
    exact hR l hk

noncomputable abbrev KT (is : List Int) (F : List Nat) (t : Int) (rv : V) : List (Str × V) := (x_row, rv) :: (x_table, .obj 2) :: (x_times, .dat (.int t)) :: KS is F
/-- a letter's texts go to the row's end -/
theorem b3_ok (hall : MAll Q) {is : List Int} {F : List Nat} {w d c : Nat} {t : Int} {rs : List Nat} {H : List AObj} {rv : V} (hH : H.length = 4) (T : Tb H 2 1 (pp2 F w (gr2 is t) rs)) (hr : rs.length ≤ 64) (hc : lowC c = 97 + d) (hd : d < 4) (hv : ∀ l, Rd rv ⟨l, H⟩ (.list ((pass F w rs d).map (tS F))))
    (hk : Kn ((x_letter, .dat (.str (ch c))) :: KT is F t rv) l) (hp4 : (pass F w rs d).length ≤ 64) (hR : ∀ l, Kn (KT is F t (.dat (.list ((pass F w rs (d + 1)).map (tS F))))) l → R .next ⟨l, H⟩) : Ok (law02_b3 Q) ⟨l, H⟩ (Cut 4 R) := by
  have hi := T.i
  have hct := ch_tiny c
  have hv := hv l
  have e : (allP (pp2 F w (gr2 is t) rs) (ch c)).map PyData.str = (rs.filter fun q => dg F w q == d).map (tS F) := by rw [all2 hc, List.map_map]; rfl
  have hg : Run (imM Q (nameS x_table) x_get_all [nameS x_letter] []) ⟨l, H⟩ (.dat (.list ((rs.filter fun q => dg F w q == d).map (tS F)))) ⟨l, H⟩ := by
    rw [← e]
    wtm_at "ev"
  have hb : ((pass F w rs d).map (tS F)).length + ((rs.filter fun q => dg F w q == d).map (tS F)).length ≤ big := by
    rw [List.length_map, List.length_map]
    have := List.length_filter_le (fun q => dg F w q == d) rs
    have : (1000 : Nat) ≤ big := by decide
    omega
  unfold law02_b3
  refine o_asg (r_bin (r_name hk rfl) hg (b_addL hv rd_dat hb)) hk fun l hk => ?_
  rw [← List.map_append, ← pass_succ] at hk
  refine o_end (cut_ok' hH T.wf rfl (hR _ (kn_cut rfl ?_)))
  wtm_at "kn"

noncomputable def H4 (ds : List PyData) (ps : List (Str × Str)) : List AObj := [.lst ds, .lst (ps.map pr), .inst (some 1), .lst []]
theorem pass_le (F : List Nat) (w : Nat) (rs : List Nat) (t : Nat) : (pass F w rs t).length ≤ rs.length := by
  rw [(pass_part F w rs t).length_eq]; exact List.length_filter_le _ _
/-- the tests behind a pass -/
theorem r5_ok (hall : MAll Q) (hlen : MLen Q) {is : List Int} {F : List Nat} {w : Nat} {t : Int} {rs : List Nat} {ds : List PyData} {rv : V} (hF : ∀ f ∈ F, f < 64) (h64 : F.length < 64) (hr : rs.Perm (List.range F.length)) (hk : Kn (KT is F t rv) l)
    (hv : okV 1 rv = true) (hR : ∀ l, Kn ((x_row, rv) :: (x_times, .dat (.int t)) :: KS is F) l → R .next ⟨l, [.lst ds]⟩) : Ok (law02_r5 Q) ⟨l, H4 ds (pp2 F w (gr2 is t) rs)⟩ (Cut 1 R) := by
  have T : Tb (H4 ds (pp2 F w (gr2 is t) rs)) 2 1 (pp2 F w (gr2 is t) rs) := ⟨rfl, rfl, rfl, pp2_tiny hF hr (by omega)⟩
  have hpl : (pp2 F w (gr2 is t) rs).length = F.length := by unfold pp2; rw [List.length_map, hr.length_eq, List.length_range]
  have hb : F.length ≤ big := Nat.le_trans (Nat.le_of_lt h64) (by decide)
  have n1 : Run (bltM (lenB Q) [nameS x_table]) ⟨l, H4 ds (pp2 F w (gr2 is t) rs)⟩ (.dat (.int (F.length : Int))) ⟨l, H4 ds (pp2 F w (gr2 is t) rs)⟩ := by
    have h := m_len (l := l) hlen T
    rw [hpl] at h
    exact r_blt (q_cons (r_name hk rfl) q_nil) (f_lenI rfl h ⟨by omega, by omega⟩)
  have hl1 : lenD (.list ((ints2 F).map PyData.int)) = some F.length := by
    show some _ = _
    rw [List.length_map]; unfold ints2; rw [List.length_map]
  have n2 : Run (bltM (lenB Q) [nameS x_figures]) ⟨l, H4 ds (pp2 F w (gr2 is t) rs)⟩ (.dat (.int (F.length : Int))) ⟨l, H4 ds (pp2 F w (gr2 is t) rs)⟩ := by wtm_at "ev"
  unfold law02_r5
  refine o_if0 (t_cmp (r_cmp n1 n2 (c_rd rd_dat rd_dat (by rw [cNeI]; simp)))) ?_
  wtm_at "st"
  unfold law02_r4
  have hg : Run (imM Q (nameS x_table) x_get_all [datM (.str (Str.ofString "e"))] []) ⟨l, H4 ds (pp2 F w (gr2 is t) rs)⟩ (.dat (.list (([] : List Str).map .str))) ⟨l, H4 ds (pp2 F w (gr2 is t) rs)⟩ := by
    have hi := T.i
    have h := hall (l := l) T (ch_tiny 101)
    have e : (rs.filter fun q => dg F w q == 4) = [] := List.filter_eq_nil_iff.mpr fun q _ h => by
      have := dg_4 F w q
      have := beq_iff_eq.mp h
      omega
    rw [all2 (d := 4) rfl, e] at h
    have h : Run (Q.mt x_get_all (.obj 2) [.dat (.str (Str.ofString "e"))] []) ⟨l, H4 ds (pp2 F w (gr2 is t) rs)⟩ (.dat (.list (([] : List Str).map .str))) ⟨l, H4 ds (pp2 F w (gr2 is t) rs)⟩ := h
    wtm_at "ev"
  have n3 : Run (lstM Q []) ⟨l, H4 ds (pp2 F w (gr2 is t) rs)⟩ (.dat (.list (([] : List Str).map .str))) ⟨l, H4 ds (pp2 F w (gr2 is t) rs)⟩ := r_lst q_nil rfl (Nat.zero_le _)
  refine o_if0 (t_cmp (r_cmp hg n3 (c_rd rd_dat rd_dat (by rw [cNeStrs]; rfl)))) ?_
  wtm_at "st"
  refine o_end ⟨rfl, rfl, hR _ (kn_cut ?_ ?_)⟩
  · show (okV 1 rv && true) = true
    rw [hv]; rfl
  · wtm_at "kn"
/-- behind the walk -/
theorem r6_ok (hmake : MMake1 Q) (hall : MAll Q) (hlen : MLen Q) {is : List Int} {F : List Nat} {w : Nat} {t : Int} {rs : List Nat} {ds : List PyData} (hF : ∀ f ∈ F, f < 64) (h64 : F.length < 64) (hr : rs.Perm (List.range F.length)) (hk : Kn (KP is F w t) l)
    (hR : ∀ l, Kn ((x_row, .dat (.list ((pass F w rs 4).map (tS F)))) :: (x_times, .dat (.int t)) :: KS is F) l → R .next ⟨l, [.lst ds]⟩) : Ok (law02_r6 Q) ⟨l, [.lst ds, .lst ((pp2 F w (gr2 is t) rs).map pr)]⟩ (Cut 1 R) := by
  have hti : tiny (pp2 F w (gr2 is t) rs) := pp2_tiny hF hr (by omega)
  have hrl : rs.length ≤ 64 := by rw [hr.length_eq, List.length_range]; omega
  have hm : Run (Q.make [.obj 1]) ⟨l, [.lst ds, .lst ((pp2 F w (gr2 is t) rs).map pr)]⟩ (.obj 2) ⟨l, [.lst ds, .lst ((pp2 F w (gr2 is t) rs).map pr), .inst (some 1)]⟩ := m_make1 hmake (hp := [.lst ds, .lst ((pp2 F w (gr2 is t) rs).map pr)]) (n := 1) rfl rfl hti
  unfold law02_r6
  wtm_at "st"
  wtm_at "st"
  have hk : Kn (KT is F t (.obj 3)) l := by wtm_at "kn"
  show Ok _ ⟨l, H4 ds (pp2 F w (gr2 is t) rs)⟩ _
  have T : Tb (H4 ds (pp2 F w (gr2 is t) rs)) 2 1 (pp2 F w (gr2 is t) rs) := ⟨rfl, rfl, rfl, hti⟩
  apply o_for
  · wtm_at "ev"
  have pl : ∀ d, (pass F w rs d).length ≤ 64 := fun d => Nat.le_trans (pass_le F w rs d) hrl
  refine o_forDat (ds := [.str (Str.ofString "a"), .str (Str.ofString "B"), .str (Str.ofString "c"), .str (Str.ofString "D")]) rfl ?_
  refine o_forC (d := .str (ch 97)) (vs := [.dat (.str (ch 66)), .dat (.str (ch 99)), .dat (.str (ch 68))]) fun l' hl => b3_ok hall rfl T hrl (c := 97) (d := 0) rfl (by decide) (fun l => rd_obj rfl) (hl _ hk) (pl 0) fun l hk => ?_
  refine o_forC fun l' hl => b3_ok hall rfl T hrl (c := 66) (d := 1) rfl (by decide) (fun l => rd_dat) (hl _ hk) (pl 1) fun l hk => ?_
  refine o_forC fun l' hl => b3_ok hall rfl T hrl (c := 99) (d := 2) rfl (by decide) (fun l => rd_dat) (hl _ hk) (pl 2) fun l hk => ?_
  refine o_forC fun l' hl => b3_ok hall rfl T hrl (c := 68) (d := 3) rfl (by decide) (fun l => rd_dat) (hl _ hk) (pl 3) fun l hk => o_forE ?_
  exact r5_ok hall hlen hF h64 hr hk rfl hR
/-- a pass -/
theorem b7_ok (hmake : MMake1 Q) (hall : MAll Q) (hlen : MLen Q) (hlet : MLet Q) {is : List Int} {F : List Nat} {w : Nat} {t : Int} {rs : List Nat} {ds : List PyData} {rv : V} (hF : ∀ f ∈ F, f < 64) (hl : is.length = F.length) (h64 : F.length < 64) (hw : 0 < w) (hw2 : w ≤ 16) (ht : 0 ≤ t) (hr : rs.Perm (List.range F.length))
    (hrow : (rv = .obj 0 ∧ ds = rs.map (tS F)) ∨ rv = .dat (.list (rs.map (tS F)))) (hk : Kn ((x_weight, .dat (iN w)) :: (x_row, rv) :: (x_times, .dat (.int t)) :: KS is F) l)
    (hR : ∀ l, Kn ((x_row, .dat (.list ((pass F w rs 4).map (tS F)))) :: (x_times, .dat (.int (t + 1))) :: KS is F) l → R .next ⟨l, [.lst ds]⟩) : Ok (law02_b7 Q) ⟨l, [.lst ds]⟩ (Cut 1 R) := by
  unfold law02_b7
  wtm_at "st"
  wtm_at "st"
  have kk : Kn (KP is F w (t + 1)) l := by wtm_at "kn"
  show Ok _ ⟨l, [.lst ds, .lst []]⟩ _
  rcases hrow with ⟨rfl, rfl⟩ | rfl
  · refine o_for (r_name hk rfl) (o_forObj (i := 0) (ds := rs.map (tS F)) rfl ?_)
    exact walk_ok hlet (o := .frz (rs.map (tS F))) rfl hF hl h64 hw hw2 (by omega) hr kk fun l hk => r6_ok hmake hall hlen hF h64 hr hk hR
  · refine o_for (r_name hk rfl) (o_forDat rfl ?_)
    exact walk_ok hlet (o := .lst ds) rfl hF hl h64 hw hw2 (by omega) hr kk fun l hk => r6_ok hmake hall hlen hF h64 hr hk hR

noncomputable abbrev KR (is : List Int) (F : List Nat) : List (Str × V) := (x_row, .dat (.list ((row3 F).map (tS F)))) :: KS is F
theorem b8_ok {is : List Int} {F : List Nat} {k q : Nat} {ds : List PyData} (hF : ∀ f ∈ F, f < 64) (h64 : F.length < 64) (hq : (row3 F)[k]? = some q) (hk : Kn ((x_place, .dat (.int (q : Int))) :: (x_figure, .dat (.int ((fg2 F q : Nat) : Int))) :: (x_right, .obj 1) :: KR is F) l)
    (hR : ∀ l, Kn ((x_right, .obj 1) :: KR is F) l → R .next ⟨l, [.lst ds, .lst (((row3 F).take (k + 1)).map (tS F))]⟩) : Ok (law02_b8 Q) ⟨l, [.lst ds, .lst (((row3 F).take k).map (tS F))]⟩ (Cut 2 R) := by
  have hqn := List.mem_range.mp ((row3_perm F).mem_iff.mp (List.mem_of_getElem? hq))
  have hf := fg_64 hF q
  obtain ⟨t1, t2⟩ := txt_len hf (show q < 64 by omega)
  have z1 := small100 (k := fg2 F q) (by omega)
  have z2 := small100 (k := q) (by omega)
  have hb : (((row3 F).take k).map (tS F)).length ≤ big := by
    rw [List.length_map]
    refine Nat.le_trans (List.length_take_le' _ _) ?_
    rw [(row3_perm F).length_eq, List.length_range]; exact Nat.le_trans (Nat.le_of_lt h64) (by decide)
  have e1 : (row3 F).take (k + 1) = (row3 F).take k ++ [q] := by rw [List.take_add_one, hq]; rfl
  unfold law02_b8
  wtm_at "st"
  have hf := hR (cutL 2 l) (kn_cut rfl (by wtm_at "kn"))
  rw [e1, List.map_append] at hf
  exact o_end (cut_ok' rfl rfl rfl hf)
theorem r10_ok {is : List Int} {F : List Nat} {ds : List PyData} (hF : ∀ f ∈ F, f < 64) (h64 : F.length < 64) (hk : Kn (KR is F) l) : Ok (law02_r10 Q) ⟨l, [.lst ds]⟩ fun f _ => f = .ret (.dat (.bool true)) := by
  have hil : (ints2 F).length = F.length := List.length_map _
  have hl1 : lenD (.list ((ints2 F).map PyData.int)) = some (ints2 F).length := by show some _ = _; rw [List.length_map]
  have hb : (ints2 F).length ≤ big := by rw [hil]; exact Nat.le_trans (Nat.le_of_lt h64) (by decide)
  have hr : (((ints2 F).length : Nat) : Int).natAbs < 2 ^ 40 := by omega
  unfold law02_r10
  wtm_at "st"
  show Ok _ ⟨l, [.lst ds, .lst []]⟩ _
  have hk : Kn ((x_right, .obj 1) :: KR is F) l := hk
  have r1 : Run (seqS [nameS x_figures, bltM rangeB [bltM (lenB Q) [nameS x_figures]]]) ⟨l, [.lst ds, .lst []]⟩ [.dat (.list ((ints2 F).map .int)), .rng 0 ((ints2 F).length : Int)] ⟨l, [.lst ds, .lst []]⟩ := by wtm_at "ev"
  refine o_for (r_sortZ r1 (by rw [hil]; exact h64)) ?_
  rw [row3_dec hF (by omega)]
  refine o_forDat rfl (o_forK2 (x := x_figure) (y := x_place) (row3 F) (fun q => .int ((fg2 F q : Nat) : Int)) (fun q => .int (q : Int)) (fun k l h => h = [.lst ds, .lst (((row3 F).take k).map (tS F))] ∧ Kn ((x_right, .obj 1) :: KR is F) l) ⟨by rw [List.take_zero]; rfl, hk⟩ ?_ ?_)
  · rintro k q l h hq ⟨rfl, hk⟩ l' hl'
    exact b8_ok hF h64 hq (hl' _ hk) fun l hk => ⟨rfl, hk⟩
  · rintro l h ⟨rfl, hk⟩
    rw [List.take_length]
    show Ok (law02_r9 Q) _ _
    unfold law02_r9
    have e : (row3 F).map (tS F) = ((row3 F).map (tq F)).map .str := by rw [List.map_map]; rfl
    refine o_ret (v := .dat (.bool true)) (r_cmp (r_name hk rfl) (r_name hk rfl) (c_rd rd_dat (rd_obj rfl) ?_)) rfl
    rw [e, cEqStrs]; simp

theorem b1_ok {is : List Int} {F : List Nat} {k : Nat} (hF : ∀ f ∈ F, f < 64) (h64 : F.length < 64) (hkF : k < F.length) (hk : Kn ((x_place, .dat (.int (k : Int))) :: (x_row, .obj 0) :: KS is F) l)
    (hR : ∀ l, Kn ((x_row, .obj 0) :: KS is F) l → R .next ⟨l, [.lst ((List.range (k + 1)).map (tS F))]⟩) : Ok (law02_b1 Q) ⟨l, [.lst ((List.range k).map (tS F))]⟩ (Cut 1 R) := by
  have hf := fg_64 hF k
  obtain ⟨t1, t2⟩ := txt_len hf (show k < 64 by omega)
  have z1 := small100 (k := fg2 F k) (by omega)
  have z2 := small100 (k := k) (by omega)
  have hfg := figs_at (F := F) hkF
  have hsm := small_int (k := k) (by omega)
  have hb : ((List.range k).map (tS F)).length ≤ big := by
    rw [List.length_map, List.length_range]; exact Nat.le_trans (Nat.le_of_lt (Nat.lt_trans hkF h64)) (by decide)
  unfold law02_b1
  wtm_at "st"
  have hf := hR (cutL 1 l) (kn_cut rfl (by wtm_at "kn"))
  rw [List.range_succ, List.map_append] at hf
  exact o_end (cut_ok' rfl rfl rfl hf)

theorem law02_ok (hmake : MMake1 Q) (hall : MAll Q) (hlen : MLen Q) (hfu : Q.fuel = 1000) (hlet : MLet Q) {is : List Int} (hl : is.length ≤ 63) (hk : Kn [(x_script, .dat (.list (is.map .int)))] l) : Ok (law02 Q) ⟨l, []⟩ fun f _ => f = .ret (.dat (.bool true)) := by
  have hF : ∀ f ∈ is.map fun n => (n.fmod 64).toNat, f < 64 := fun f hf => by
    obtain ⟨n, _, rfl⟩ := List.mem_map.mp hf
    have := fmod_range (n := n) (m := 64) (by decide)
    omega
  have e1 : is.map (fun n => PyData.int (n.fmod 64)) = (ints2 (is.map fun n => (n.fmod 64).toNat)).map .int := by
    unfold ints2
    rw [List.map_map, List.map_map]
    apply List.map_congr_left
    intro n _
    have := fmod_range (n := n) (m := 64) (by decide)
    show PyData.int _ = PyData.int (((n.fmod 64).toNat : Nat) : Int)
    rw [Int.toNat_of_nonneg this.1]
  have hli : is.length = (is.map fun n => (n.fmod 64).toNat).length := (List.length_map _).symm
  have hbi : is.length ≤ big := Nat.le_trans hl (by decide)
  have r0 : Run (lcM (fscope [(x_dot0, .local), (x_number, .local)]) (setLoc x_number) [] (binM .Mod (nameS x_number) (datM (.int 64))) (nameS x_script)) ⟨l, []⟩ (.dat (.list ((ints2 (is.map fun n => (n.fmod 64).toNat)).map .int))) ⟨l, []⟩ := by
    rw [← e1]
    refine r_lc (σ1 := ⟨l, []⟩) (v := .dat (.list (is.map .int))) (r_name hk rfl) (cv_dat (ds := is.map .int) rfl ?_)
    refine comp1m (hp := []) (K := []) (e := PyData.int) (f := fun n => PyData.int (n.fmod 64)) rfl kn_nil rfl hbi fun n hn l hk => ?_
    wtm_at "ev"
  have h64 : (is.map fun n => (n.fmod 64).toNat).length < 64 := by rw [← hli]; omega
  unfold law02
  refine o_asg r0 hk fun l hk => ?_
  generalize (is.map fun n => (n.fmod 64).toNat) = F at *
  have hil : (ints2 F).length = F.length := List.length_map _
  have hl1 : lenD (.list ((ints2 F).map PyData.int)) = some F.length := by show some _ = _; rw [List.length_map, hil]
  have hb : F.length ≤ big := Nat.le_trans (Nat.le_of_lt h64) (by decide)
  have hr : ((F.length : Nat) : Int).natAbs < 2 ^ 40 := by omega
  wtm_at "st"
  have hk : Kn ((x_row, .obj 0) :: KS is F) l := by wtm_at "kn"
  show Ok _ ⟨l, [.lst []]⟩ _
  apply o_for
  · wtm_at "ev"
  refine o_forRng (smallR0 (by omega)) ?_
  rw [intsN]
  refine o_forK (x := x_place) (List.range F.length) iN (fun k l h => h = [.lst ((List.range k).map (tS F))] ∧ Kn ((x_row, .obj 0) :: KS is F) l) ⟨rfl, hk⟩ ?_ ?_
  · rintro k a l h hka ⟨rfl, hk⟩ l' hl'
    obtain ⟨hlt, rfl⟩ := List.getElem?_eq_some_iff.mp hka
    rw [List.length_range] at hlt
    rw [List.getElem_range] at hl'
    exact b1_ok hF h64 hlt (hl' _ hk) fun l hk => ⟨rfl, hk⟩
  · rintro l h ⟨rfl, hk⟩
    rw [List.length_range]
    show Ok (law02_r11 Q) _ _
    unfold law02_r11
    wtm_at "st"
    have hk : Kn ((x_row, .obj 0) :: (x_times, .dat (.int 0)) :: KS is F) l := by wtm_at "kn"
    apply o_for
    · wtm_at "ev"
    refine o_forDat (ds := [.int 1, .int 4, .int 16]) rfl ?_
    refine o_forC (d := .int 1) (vs := [.dat (.int 4), .dat (.int 16)]) fun l' hl => b7_ok hmake hall hlen hlet hF hli h64 (w := 1) (t := 0) (by decide) (by decide) (by decide) (List.Perm.refl _) (.inl ⟨rfl, rfl⟩) (hl _ hk) fun l hk => ?_
    refine o_forC fun l' hl => b7_ok hmake hall hlen hlet hF hli h64 (w := 4) (t := 0 + 1) (by decide) (by decide) (by decide) (pass_perm F 1 _) (.inr rfl) (hl _ hk) fun l hk => ?_
    refine o_forC fun l' hl => b7_ok hmake hall hlen hlet hF hli h64 (w := 16) (t := 0 + 1 + 1) (by decide) (by decide) (by decide) ((pass_perm F 4 _).trans (pass_perm F 1 _)) (.inr rfl) (hl _ hk) fun l hk => o_forE ?_
    show Ok (law02_r10 Q) _ _
    refine r10_ok (is := is) hF h64 ?_
    show Kn ((x_row, .dat (.list ((pass F 16 (pass F 4 (pass F 1 (List.range F.length) 4) 4) 4).map (tS F)))) :: KS is F) l
    wtm_at "kn"
end
end Mine
end

section
open PySem
set_option Elab.async false
set_option maxRecDepth 10000
namespace Mine.L02
theorem w_letter : MLet (prm T 20) := fun {hp f w g l} hw hw2 => fn_at (k := 19) (ps := [x_figure, x_weight, x_great]) (D := law02_letter) ⟨_, rfl⟩ rfl rfl fun l' hk => let_ok hw hw2 hk
end Mine.L02
end

section
open PySem PySem.W PyProof.Rows
set_option Elab.async false
set_option maxRecDepth 100000
set_option maxHeartbeats 8000000
namespace Mine.L02
theorem link {w : World} {s₁ : Shared} {mg mb : Str → Option Value} {prog : Program} {name : Str} {fa a : Addr} {cd : Value} {h₁ : Heap} {is : List Int} {vs : List Value} {sc : Scope} {body : List Stmt} {c : ClaimW} {cl : Str → Option Addr} {mean : ExcName → Option Value} {args : List WData} {tk : Nat} {E : Value → Shared → Prop}
    {ds : List DefItem} {cs : List (Str × PyData)} {os : List (Str × (Obj → Prop))} {ns : List Str}
    (hK : (KK w.params).In s₁.heap) (GL : Glob 0 mg mb ds cs os ns s₁.heap) (F : Fr s₁.heap s₁.heap.objs.size h₁ fun x => List.lookup x [(Str.ofString "script", Value.ref a)].reverse)
    (hl : s₁.heap.IsList a vs.toArray) (hI : IntsAre vs is) (hg : s₁.gens = #[]) (hlen : ¬ ((63 : Nat) : Int) < (is.length : Int)) (hn : ∀ cls, c.raises args cls = false) (hp : c.post args (.bool true) args = true)
    (hk : sc.kind = .function) (hsc : sc.names.lookup (Str.ofString "script") = some .local) (hcl : ((cellsFrom 0 sc.names []).map (·.1)) = []) (e1 : (fdOf (KK w.params) 185).scope = sc) (e2 : bodyOf (fdOf (KK w.params) 185) = body) :
    wpAny (model prog w) (callerA.deeper (envOf name sc s₁.heap.objs.size fa cd)) (execs body (envOf name sc s₁.heap.objs.size fa cd)) (fun f s' => GoodW c cl mean args s₁ (.ok (.ret (match f with | .ret v => v | _ => .none))) s') E
      { heap := h₁, gens := s₁.gens, drawn := s₁.drawn, toks := tk, os := s₁.os } := by
  subst e1 e2
  have ok : CxOk (mkX prog w s₁.heap mg mb) := cxok hK GL.g GL.b GL.builtins GL.nolimit
  exact link_of (X := mkX prog w s₁.heap mg mb) rfl ok (tabok hK GL.g ok) F hl hI hg hn hp hk hsc hcl (fun n P pok => d_fnlaw _ ok pok) (law02_ok h_make1 h_all h_len rfl w_letter (by omega) (kn_scr))
end Mine.L02
end

end

open PySem PySem.W PyProof.Rows
set_option maxRecDepth 100000 in
set_option maxHeartbeats 8000000 in
theorem PySem.Challenge.cw_dn0264_02_holds : PySem.Challenge.rw_dn0264_02.Holds := by
  refine Mine.hd ?_
  w_strict (
    k_fill
    intro w s₀ s₁ mg mb G Y fa o pm cd doc dV kV ho hd hcd hD hmg hg args vals as hpre hlay hrd hwl hlo
    have KX := kIn_of Y
    have X := (Ground.X G).1
    have V := (Ground.X G).2
    have GL := glob_more (Ground.glob G (by decide +kernel) (by decide +kernel)) V
    refine Ground.open G ?_
    intro T B D TE TW
    try (refine guard_noD D (by decide +kernel) ?_; clear D)
    obtain ⟨_, _, M⟩ := bmod_of_top T
    have TA := at_of_top T
    clear hmg
    wrow_args hpre hlay hrd hwl hlo
    all_goals (
      first | refine callC_kw (enter_call ?_) | refine enter_call ?_
      w_top on
      try refine codeAny_mono ?_ (fun _ _ g => GoodW.toG g)
      have K0 := below_caller (Top.heap T)
      w_call any ho hd hcd hD T F
      clear hd TA
      k_drop
      skip)
    refine Mine.L02.link (by assumption) (by assumption) (by assumption) (by assumption) (by assumption) (by assumption) (by assumption) (fun _ => rfl) ?_ rfl rfl rfl ?_ ?_; (· kernel_rfl); (· kernel_rfl); (· kernel_rfl))
